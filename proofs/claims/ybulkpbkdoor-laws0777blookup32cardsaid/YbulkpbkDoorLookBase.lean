/-
  THE WALKS of 'LawS0777BLookup16' and 'LawS0777BLookup32'.
-/
import Derived.Test.YbulkpbkDoorMap
namespace Go.Proofs.YbulkpbkDoor.bwalks
open Go.RowKit Go.Maps

theorem law22 : Keyed Ybad.prog 22 := int_keyed Ybad.underlying22
theorem makeMap25 (n : Int) (w : World) : (Instr.makeMap 25 (some (.int .i64 n))).run Ybad.prog w = .ok (.map (some w.heap.size)) (w.alloc (.map #[] 0)) := by
  simp [Instr.makeMap, run_underlying Ybad.underlying25, asInt, asIntOf]

theorem law30 : Keyed Ybad.prog 30 := int_keyed Ybad.underlying30
theorem makeMap32 (n : Int) (w : World) : (Instr.makeMap 32 (some (.int .i64 n))).run Ybad.prog w = .ok (.map (some w.heap.size)) (w.alloc (.map #[] 0)) := by
  simp [Instr.makeMap, run_underlying Ybad.underlying32, asInt, asIntOf]

/-- What holds at the head of round k. -/
structure At (w : World) (T : Nat) (q : IntKind) (v : Int) (ks : List Int) (k : Nat) (s : ByteArray) (wr : World) : Prop where
  below : Below w.heap.size w wr
  map : ∃ D : DataW Unit, wr.ownsMap Ybad.prog T (plainElem Ybad.prog 9) w.heap.size k D ∧ Look D (.int q v) (hit v ks k) s

theorem grown_below {w w' : World} (h : Below w.heap.size w w') (row : Option Nat) : w.grownBy w' row := ⟨h.os, h.tape, h.output, h.size, fun k hk _ => h.block k hk⟩

theorem at_start {w w1 : World} (T : Nat) (q : IntKind) (v : Int) (ks : List Int) (s : ByteArray) (h : Below (w.alloc (.map #[] 0)).heap.size (w.alloc (.map #[] 0)) w1) : At w T q v ks 0 s w1 :=
  ⟨((Below.refl _ _).alloc (Nat.le_refl _) _).trans (h.mono (by simp)), .map [], (World.ownsMap_made w Ybad.prog T (plainElem Ybad.prog 9)).kept (grown_below h none) (by simp), look_made _ _⟩

/-- One round's store. -/
theorem at_store {w wr : World} {T t k : Nat} {q : IntKind} {v kk : Int} {ks : List Int} {s : ByteArray} (h : At w T q v ks k s wr) (hT : Ybad.prog.underlying T = some (.int q)) (ht : Ybad.prog.underlying t = some (.map T 9)) (hk : k ≤ 4096)
    (hkk : ks.getD k 0 = kk) (hwf : (Lit.int q kk).wf = true) (sv : ByteArray) (hsv : sv.size ≤ maxLen) :
    ∃ w1, (Instr.mapUpdate t (.map (some w.heap.size)) (.int q kk) (.string sv)).run Ybad.prog wr.drew = .ok () w1 ∧ Below w.heap.size w w1 ∧
      (kk = v → At w T q v ks (k + 1) sv w1) ∧ (kk ≠ v → At w T q v ks (k + 1) s w1) := by
  obtain ⟨D, hown, L⟩ := h.map
  obtain ⟨w1, hrun, hown1, hg⟩ := hown.drew.update (int_keyed hT) ht (by unfold maxLen; omega) (keyOf_int_mk hT hwf) (plainElem_string Ybad.underlying9 hsv)
  have hb : Below w.heap.size w w1 := h.below.drew.grown hg h.below.size (fun j hj => by cases hj; exact Nat.le_refl _)
  refine ⟨w1, hrun, hb, fun e => ⟨hb, _, hown1, ?_⟩, fun e => ⟨hb, _, hown1, ?_⟩⟩
  · have e2 : hit v ks (k + 1) = true := by unfold hit; rw [if_pos (by rw [hkk]; exact e)]
    rw [e2, e]
    exact look_same L hown.isMap trivial sv
  · have e2 : hit v ks (k + 1) = hit v ks k := by rw [hit, if_neg (by rw [hkk]; exact e)]
    rw [e2]
    exact look_other L (fun he => e (by injection he with _ h2; exact h2.symm)) _

theorem hvw16 (v : Nat) (hv : v ≤ 65535) : (Lit.int .u16 (v : Int)).wf = true := by
  have e1 : IntKind.u16.min = 0 := rfl
  have e2 : IntKind.u16.max = 65535 := rfl
  simp [Lit.wf, e1, e2]; omega
theorem hvw32 (v : Nat) (hv : v ≤ 4294967295) : (Lit.int .u32 (v : Int)).wf = true := by
  have e1 : IntKind.u32.min = 0 := rfl
  have e2 : IntKind.u32.max = 4294967295 := rfl
  simp [Lit.wf, e1, e2]; omega
theorem gPow : Ybad.prog.globalNamed (Rows.lawS0777BLookup16Row.named.headD "") = some 0 := by kernel_rfl
theorem tab_later {w w' : World} (h : Below w.heap.size w w') (ht : Lib.TabIs Ybad.prog w (Rows.lawS0777BLookup16Row.named.headD "") .u64 Lib.pow10Tab) : Lib.TabIs Ybad.prog w' (Rows.lawS0777BLookup16Row.named.headD "") .u64 Lib.pow10Tab := by
  have hc := ht.cell gPow 0 (by decide)
  exact var?_below h gPow (World.block_lt_of_cell? w _ hc) ht

end Go.Proofs.YbulkpbkDoor.bwalks
