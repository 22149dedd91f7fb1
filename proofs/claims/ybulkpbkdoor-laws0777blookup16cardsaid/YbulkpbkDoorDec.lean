/-
  THE WALK of zzs0777bdec (5): the decimal numeral.
-/
import Derived.Test.YbulkpbkDoorRows
import Derived.Lib.ItoaMem
import Derived.WalkKit
import Derived.WalkSpells
import Derived.WalkLawsBesides
namespace Go.Proofs.YbulkpbkDoor.bwalks
open Go.RowKit

/-- The digits that are still to be written: none of nought. -/
def dd (m : Nat) : List UInt8 := if m = 0 then [] else Lib.decDigits m
theorem dd_step (m : Nat) (h : m ≠ 0) : dd m = dd (m / 10) ++ [UInt8.ofNat (48 + m % 10)] := by
  unfold dd
  rw [if_neg h]
  by_cases h10 : m < 10
  · rw [if_pos (by omega), Lib.decDigits_one h10, show m % 10 = m by omega]; rfl
  · rw [if_neg (by omega), Lib.decDigits, dif_neg h10]

/-- The state of the loop: m is still to be written, the places from k on hold l. -/
structure Dec (w : World) (u m k : Nat) (wr : World) : Prop where
  below : Below w.heap.size w wr
  cells : ∀ j, j < 20 → (∃ v, wr.cell? ⟨w.heap.size, j, none⟩ = some v) ∧ wr.frozen? ⟨w.heap.size, j, none⟩ = false
  le : k ≤ 20
  lt : m < 10 ^ k
  tail : ∃ l : List UInt8, l.length = 20 - k ∧ dd u = dd m ++ l ∧ ∀ j (hj : j < l.length), wr.cell? ⟨w.heap.size, k + j, none⟩ = some (.int .u8 (l[j].toNat : Int))

theorem dec_start (w : World) (u : Nat) (hu : u < 18446744073709551616) (o : Array Value) (ho : o.size = 20) (T : TypeId) : Dec w u u 20 (w.alloc (.cells o T)) := by
  refine ⟨(Below.refl _ _).alloc (Nat.le_refl _) _, fun j hj => ⟨?_, by simp⟩, Nat.le_refl _, Nat.lt_of_lt_of_le hu (by decide), [], rfl, by simp, fun j hj => absurd hj (by simp)⟩
  rw [World.cell?_alloc_new]
  exact ⟨_, Array.getElem?_eq_getElem (by omega)⟩

theorem dec_step {w wr : World} {u m k : Nat} (h : Dec w u m (k + 1) wr) (hm : m ≠ 0) : Dec w u (m / 10) k (wr.setCell ⟨w.heap.size, k, none⟩ (.int .u8 ((UInt8.ofNat (48 + m % 10)).toNat : Int))) := by
  obtain ⟨l, hl, hd, hc⟩ := h.tail
  have hk := h.le
  refine ⟨h.below.setCell (Nat.le_refl _) _, fun j hj => ⟨?_, by simpa using (h.cells j hj).2⟩, by omega, ?_, UInt8.ofNat (48 + m % 10) :: l, by simp [hl]; omega, ?_, fun j hj => ?_⟩
  · obtain ⟨v, hv⟩ := (h.cells j hj).1
    exact cell?_setCell_some hv
  · have := h.lt
    rw [Nat.pow_succ] at this
    omega
  · rw [hd, dd_step m hm, List.append_assoc]; rfl
  · cases j with
    | zero =>
      obtain ⟨v, hv⟩ := (h.cells k (by omega)).1
      exact World.cell?_setCell_same _ _ _ hv
    | succ j =>
      have hj' : j < l.length := by simpa using hj
      rw [World.cell?_setCell_other _ _ _ _ (fun he => by injection he with _ h2; omega)]
      have := hc j hj'
      rw [show k + (j + 1) = k + 1 + j by omega]
      exact this

theorem digit_eq (m : Nat) : ((UInt8.ofNat (48 + m % 10)).toNat : Int) = 48 + (m : Int) % 10 := by
  have h : (UInt8.ofNat (48 + m % 10)).toNat = 48 + m % 10 := by
    rw [UInt8.toNat_ofNat']
    exact Nat.mod_eq_of_lt (by omega)
  rw [h]
  omega

theorem dec_some {w wr : World} {u k : Nat} (h : Dec w u 0 k wr) (hu : u ≠ 0) : k < 20 := by
  obtain ⟨l, hl, hd, _⟩ := h.tail
  rcases Nat.lt_or_ge k 20 with h1 | h1
  · exact h1
  · have hl0 : l = [] := List.eq_nil_of_length_eq_zero (by omega)
    rw [hl0, dd_step u hu] at hd
    simp [dd] at hd

theorem dec_step' {w wr : World} {u m k : Nat} (h : Dec w u m (k + 1) wr) (hm : m ≠ 0) : Dec w u (m / 10) k (wr.setCell ⟨w.heap.size, k, none⟩ (.int .u8 (48 + (m : Int) % 10))) := by
  rw [← digit_eq]; exact dec_step h hm

/-- What the loop leaves, as one string. -/
theorem dec_string {w wr : World} {u k : Nat} (h : Dec w u 0 k wr) : (convert 36 9 (.slice (some ⟨w.heap.size, k, none⟩) (20 - k) (20 - k))).run Ybad.prog wr = .ok (.string ⟨(dd u).toArray⟩) wr := by
  obtain ⟨l, hl, hd, hc⟩ := h.tail
  have h2 := run_convert_bytes_back (P := Ybad.prog) wr 36 9 5 ⟨w.heap.size, k, none⟩ (20 - k) l Ybad.underlying36 Ybad.underlying5 Ybad.underlying9 (fun j hj => by rw [Addr.add_lit]; exact hc j hj)
  rw [hl] at h2
  rw [hd]
  exact h2

theorem dec_zero (w : World) : Calls Ybad.prog 5 #[.int .u64 0] w fun e w' => e = .returned (.string ⟨(Lib.decDigits 0).toArray⟩) ∧ Below w.heap.size w w' := by
  have e0 : Lib.decDigits 0 = [48] := Lib.decDigits_one (by decide)
  rw [e0]
  go_enter Ybad.func5, Ybad.ntmps5
  go_wp2
  go_ret
  exact ⟨rfl, Below.refl _ _⟩

set_option maxHeartbeats 1000000 in
theorem dec_pos (u : Nat) (hu : u < 18446744073709551616) (h0 : ((u : Int) == 0) = false) (w : World) : Calls Ybad.prog 5 #[.int .u64 (u : Int)] w fun e w' => e = .returned (.string ⟨(dd u).toArray⟩) ∧ Below w.heap.size w w' := by
  go_enter Ybad.func5, Ybad.ntmps5
  go_wp2
  go_loopw [0, 4] (fun n i wr => ∃ m k : Nat, n = .int .u64 m ∧ i = .int .i64 k ∧ m < 18446744073709551616 ∧ Dec w u m k wr) (fun n _ _ => (intOf n).toNat)
  case atStart => exact ⟨u, 20, rfl, rfl, hu, dec_start w u hu _ rfl 35⟩
  case round =>
    obtain ⟨m, k, rfl, rfl, hm, hr⟩ := hrel
    by_cases hm0 : m = 0
    · subst hm0
      have hcv := dec_string hr
      have hk := dec_some hr (by rw [beq_eq_false_iff_ne] at h0; omega)
      have HB : Hid (Below w.heap.size w wr) := hr.below
      clear hr
      have hsl : ∀ W, (Instr.sliceAt 35 (.pointer (some ⟨w.heap.size, 0, none⟩)) (some (.int .i64 (k : Int))) none none).run Ybad.prog W = .ok (.slice (some ⟨w.heap.size, k, none⟩) (20 - k) (20 - k)) W := fun W => by
        rw [run_sliceAt_array_l W 35 ⟨w.heap.size, 0, none⟩ (by simp [Program.arrayLen, Program.elem, Ybad.underlying35]) .i64 (k : Int) (by omega) (by simp [Program.arrayLen, Ybad.underlying35]; omega)]
        go_simp
        omega
      go_wp2
      go_ret
      exact ⟨rfl, HB.out⟩
    · obtain ⟨k', rfl⟩ : ∃ k', k = k' + 1 := by
        cases k with
        | zero => have := hr.lt; simp at this; omega
        | succ k' => exact ⟨k', rfl⟩
      have hk := hr.le
      obtain ⟨⟨v, hv⟩, hf⟩ := hr.cells k' (by omega)
      have HR : Hid (Dec w u (m / 10) k' (wr.setCell ⟨w.heap.size, k', none⟩ (.int .u8 (48 + (m : Int) % 10)))) := dec_step' hr hm0
      have hm1 : 0 < (m : Int) := by omega
      clear hr
      go_wp2
      go_roundw
      case rel => exact ⟨m / 10, k', by go_num, by go_num, by omega, HR.out⟩
      case measure => simp [intOf]; omega

/-- zzs0777bdec: the decimal numeral. -/
theorem dec (u : Nat) (hu : u < 18446744073709551616) (w : World) : Calls Ybad.prog 5 #[.int .u64 (u : Int)] w fun e w' => e = .returned (.string ⟨(Lib.decDigits u).toArray⟩) ∧ Below w.heap.size w w' := by
  by_cases h0 : u = 0
  · subst h0
    exact dec_zero w
  · have e : dd u = Lib.decDigits u := by unfold dd; rw [if_neg h0]
    rw [← e]
    exact dec_pos u hu (beq_eq_false_iff_ne.2 (by omega)) w

end Go.Proofs.YbulkpbkDoor.bwalks
