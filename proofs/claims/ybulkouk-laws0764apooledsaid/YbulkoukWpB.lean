/-
  A WALK AT ONE KNOWN FRAME: 'wpB P b c Q a w' is 'Code.wp' at the base frame b alone. A send is a step of the machine's that 'Code.wp' (which speaks of every frame) does not have; at a frame of the kind 'normal' it can be said.
-/
import Derived.Test.YbulkoukRows
import Derived.WalkKit
import Derived.Conc.LoneSelect
namespace Go.Proofs.Ybulkouk.awalks
open Go.RowKit Go.Conc

def wpB (P : Program) (b : Frame) (c : Code) (Q : Exit → Act → World → Prop) (a : Act) (w : World) : Prop :=
  ∀ (k : List Item) (cs : List Frame), ∃ e a' w', Q e a' w' ∧ Arrives P (lone (b.at a (.code c :: k)) cs w) b k cs e a' w'

section
variable {P : Program} {b : Frame} {Q : Exit → Act → World → Prop} {a : Act} {w : World}

theorem wpB_of_wp {c : Code} (h : c.wp P Q a w) : wpB P b c Q a w := fun k cs => h b k cs

theorem wpB_seq {x y : Code} (h : wpB P b x (Exit.then (wpB P b y Q) Q) a w) : wpB P b (Code.seq x y) Q a w := by
  intro k cs
  obtain ⟨e, a₁, w₁, hq, harr⟩ := h (.code y :: k) cs
  cases e with
  | normal =>
    obtain ⟨e₂, a₂, w₂, hq₂, harr₂⟩ := hq k cs
    exact ⟨e₂, a₂, w₂, hq₂, .of_steps (.head step_seq harr) harr₂⟩
  | exit id => exact ⟨_, a₁, w₁, hq, .of_steps (.one step_seq) (.pass (x := .code y) rfl (fun _ _ => .inl (by simp)) harr)⟩
  | goto l => exact ⟨_, a₁, w₁, hq, .of_steps (.one step_seq) (.pass (x := .code y) rfl (fun _ _ => .inl (by simp)) harr)⟩
  | ret => exact ⟨_, a₁, w₁, hq, .of_steps (.one step_seq) (.pass (x := .code y) rfl (fun _ _ => .inl (by simp)) harr)⟩
  | panic ch => exact ⟨_, a₁, w₁, hq, .of_steps (.one step_seq) (.pass (x := .code y) rfl (fun _ _ => .inl (by simp)) harr)⟩
  | outgrown => exact ⟨_, a₁, w₁, hq, .of_steps (.one step_seq) (.pass (x := .code y) rfl (fun _ _ => .inl (by simp)) harr)⟩

/-- The first statement by the plain walk; what follows behind a name. -/
theorem wpB_seq_k {x y : Code} (h : ∀ K : Act → World → Prop, (∀ a w, wpB P b y Q a w → K a w) → x.wp P (Exit.then K Q) a w) : wpB P b (Code.seq x y) Q a w :=
  wpB_seq (wpB_of_wp (h _ fun _ _ h => h))

/-- The first statement run by the machine of one to its end; what follows behind a name. -/
theorem wpB_lone_k {x y : Code} (h : ∀ K : Act → World → Prop, (∀ a w, wpB P b y Q a w → K a w) →
      ∀ (k : List Item) (cs : List Frame), LoneTo P (fun g' w' => ∃ a', g' = G (b.at a' k) cs ∧ K a' w') (G (b.at a (.code x :: k)) cs) w) : wpB P b (Code.seq x y) Q a w := by
  refine wpB_seq fun k cs => ?_
  obtain ⟨g', w', hs, a', rfl, hq⟩ := h (wpB P b y Q) (fun _ _ h => h) k cs
  exact ⟨.normal, a', w', hq, hs⟩
end

theorem calls_of_wpB {P : Program} {f : FuncId} {fn : Func} {c : Code} {args : Array Value} {w : World} {R : Ending → World → Prop}
    (hf : P.funcs[f]? = some fn) (hb : fn.body = some c)
    (h : wpB P (base f) c (bodyPost P fn R) { tmps := args ++ Array.replicate (fn.ntmps - args.size) undef, defers := [] } w) :
    Calls P f args w R := by
  intro cs
  have henter : Frame.enter P f args .normal =
      (base f).at { tmps := args ++ Array.replicate (fn.ntmps - args.size) undef, defers := [] } [.code c] := by
    simp [Frame.enter, Frame.at, hf, hb, base]
  obtain ⟨e, a', w', hq, harr⟩ := h [] cs
  rw [← henter] at harr
  cases e with
  | normal =>
    obtain ⟨hd, v, hr, hR⟩ := hq
    exact ⟨.returned v, w', _, hR, Steps.trans harr (.one step_end), rfl, rfl, hd, rfl, fn, hf, hr⟩
  | ret =>
    obtain ⟨hd, v, hr, hR⟩ := hq
    obtain ⟨todo, hs⟩ := harr
    exact ⟨.returned v, w', _, hR, hs, rfl, rfl, hd, rfl, fn, hf, hr⟩
  | panic chain =>
    obtain ⟨hd, hR⟩ := hq
    obtain ⟨todo, hs⟩ := harr
    exact ⟨.panicked chain, w', _, hR, hs, rfl, rfl, hd, fn, hf⟩
  | exit id => exact hq.elim
  | goto l => exact hq.elim
  | outgrown => exact ⟨.outgrown, w', base f, hq, harr.resolve_left (by simp [base]), rfl, trivial⟩

end Go.Proofs.Ybulkouk.awalks
