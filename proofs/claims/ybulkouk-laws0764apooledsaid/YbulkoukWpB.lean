/-
  A WALK AT ONE KNOWN FRAME: 'wpB P b c Q a w' is 'Code.wp' at the base frame b alone. A send is a step of the machine's that 'Code.wp' (which speaks of every frame) does not have; at a frame of the kind 'normal' it can be said.
-/
import Derived.Test.YbulkoukRows
import Derived.WalkKit
import Derived.Conc.LoneSelect
namespace Go.Proofs.Ybulkouk.awalks
open Go.RowKit Go.Conc

def wpB (P : Program) (b : Frame) (c : Code) (Q : Exit → Act → World → Prop) (a : Act) (w : World) : Prop :=
  ∀ (k : List Item) (cs : List Frame), ∃ e a' w', Q e a' w' ∧ Arrives P (lone (b.at a (.code c :: k)) cs w) b k cs e a' w'

section
variable {P : Program} {b : Frame} {Q : Exit → Act → World → Prop} {a : Act} {w : World}

theorem wpB_of_wp {c : Code} (h : c.wp P Q a w) : wpB P b c Q a w := fun k cs => h b k cs

theorem wpB_seq {x y : Code} (h : wpB P b x (Exit.then (wpB P b y Q) Q) a w) : wpB P b (Code.seq x y) Q a w := by
  intro k cs
  obtain ⟨e, a1, w1, hq, hr⟩ := h (.code y :: k) cs
  by_cases hn : e = .normal
  · subst hn
    obtain ⟨e2, a2, w2, hq2, hr2⟩ := hq k cs
    exact ⟨e2, a2, w2, hq2, .of_steps (.head step_seq hr) hr2⟩
  · refine ⟨e, a1, w1, ?_, .of_steps (.one step_seq) (.pass (x := .code y) rfl (fun _ _ => .inl hn) hr)⟩
    cases e <;> first | exact absurd rfl hn | exact hq

/-- The first statement by the plain walk; what follows behind a name. -/
theorem wpB_seq_k {x y : Code} (h : ∀ K : Act → World → Prop, (∀ a w, wpB P b y Q a w → K a w) → x.wp P (Exit.then K Q) a w) : wpB P b (Code.seq x y) Q a w :=
  wpB_seq (wpB_of_wp (h _ fun _ _ h => h))

/-- The first statement run by the machine of one to its end; what follows behind a name. -/
theorem wpB_lone_k {x y : Code} (h : ∀ K : Act → World → Prop, (∀ a w, wpB P b y Q a w → K a w) →
      ∀ (k : List Item) (cs : List Frame), LoneTo P (fun g' w' => ∃ a', g' = G (b.at a' k) cs ∧ K a' w') (G (b.at a (.code x :: k)) cs) w) : wpB P b (Code.seq x y) Q a w := by
  refine wpB_seq fun k cs => ?_
  obtain ⟨g', w', hs, a', rfl, hq⟩ := h (wpB P b y Q) (fun _ _ h => h) k cs
  exact ⟨.normal, a', w', hq, hs⟩
end

/-- From the walk at the base frame to a call that returns v. -/
theorem calls_of_wpB {P : Program} {f : FuncId} {fn : Func} {c : Code} {args : Array Value} {w : World} {v : Value} {S : World → Prop} (hf : P.funcs[f]? = some fn) (hb : fn.body = some c)
    (h : wpB P (base f) c (bodyPost P fn fun e w' => e = .returned v ∧ S w') { tmps := args ++ Array.replicate (fn.ntmps - args.size) undef, defers := [] } w) :
    Calls P f args w fun e w' => e = .returned v ∧ S w' := by
  intro cs
  obtain ⟨e, a', w', hq, hr⟩ := h [] cs
  rw [show (base f).at { tmps := args ++ Array.replicate (fn.ntmps - args.size) undef, defers := [] } [.code c] = Frame.enter P f args .normal by simp [Frame.enter, Frame.at, hf, hb, base]] at hr
  cases e with
  | normal =>
    obtain ⟨hd, u, hu, hv, hS⟩ := hq
    cases hv
    exact ⟨.returned v, w', _, ⟨rfl, hS⟩, Steps.trans hr (.one step_end), rfl, rfl, hd, rfl, fn, hf, hu⟩
  | ret =>
    obtain ⟨hd, u, hu, hv, hS⟩ := hq
    cases hv
    obtain ⟨todo, hs⟩ := hr
    exact ⟨.returned v, w', _, ⟨rfl, hS⟩, hs, rfl, rfl, hd, rfl, fn, hf, hu⟩
  | panic chain => cases hq.2.1
  | outgrown => cases hq.1
  | exit id => exact hq.elim
  | goto l => exact hq.elim

end Go.Proofs.Ybulkouk.awalks
