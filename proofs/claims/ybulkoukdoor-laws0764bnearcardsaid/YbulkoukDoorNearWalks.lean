/-
  THE WALK of 'LawS0764BNear': out of the contracts of checkFieldCount (7) and zzs0764bexpect (8).
-/
import Derived.Test.YbulkoukDoorBWalks
namespace Go.Proofs.YbulkoukDoor.bwalks
open Go.RowKit

/-- 'LawS0764BNear': true, whatever came in; nothing that was there has turned. -/
theorem near_walk (f : Option Addr) (len cap : Nat) (line d : Int) (a : Addr) (w : World)
    (hg : w.cell? ⟨1, 0, none⟩ = some (.iface 73 (.pointer (some a)))) (_hd1 : -128 ≤ d) (_hd2 : d ≤ 127) :
    Calls Ybad.prog 4 #[.slice f len cap, .int .i64 line, .int .i8 d] w fun e w' => e = .returned (.bool true) ∧ Below w.heap.size w w' := by
  have hz : 1 < w.heap.size := World.block_lt_of_cell? w _ hg
  have hz2 : 1 < w.heap.size + 1 := by omega
  have hz3 : 1 < w.heap.size + 1 + 1 := by omega
  by_cases hl : (len : Int) > 1024
  · go_enter Ybad.func4, Ybad.ntmps4
    go_wp2_with fail
    go_ret
    exact ⟨rfl, Below.refl _ _⟩
  · go_enter Ybad.func4, Ybad.ntmps4
    go_wp2_with fail
    generalize wrap64 (↑len + wrap64 (d.tmod 3)) = want
    clear hl
    by_cases h1 : 0 < want
    · cases h2 : ((len : Int) != want) with
      | true =>
        have h3 : (want == (len : Int)) = false := by
          rw [bne_iff_ne] at h2; exact beq_eq_false_iff_ne.2 (Ne.symm h2)
        refine (check_bad _ _ _ _ _ _ _ _ a _ ?_ ?_ h1 h2).mono ?_
        · go_simp
        · simp; omega
        rintro e w1 ⟨rfl, rfl⟩
        go_wp2_with fail
        refine (expect_bad _ _ _ _ _ a _ _ ?_ ?_ ?_ ?_ ?_ h1 h2).mono ?_
        · go_simp
        · go_simp
        · go_simp
        · go_simp
        · go_simp
        rintro e w1 ⟨rfl, n, rfl⟩
        go_wp2_with fail
        go_ret
        exact ⟨rfl, below_drewN (((((Below.refl _ _).alloc (Nat.le_refl _) _).alloc (by simp) _).alloc (by simp; omega) _)) _⟩
      | false =>
        have h3 : (want == (len : Int)) = true := by
          rw [bne_eq_false_iff_eq] at h2; exact beq_iff_eq.2 h2.symm
        refine (check_same _ _ _ _ _ _ _ _ _ h1 h2).mono ?_
        rintro e w1 ⟨rfl, rfl⟩
        go_wp2_with fail
        refine (expect_same _ _ _ _ _ _ h1 h2).mono ?_
        rintro e w1 ⟨rfl, rfl⟩
        go_wp2_with fail
        go_ret
        exact ⟨rfl, ((Below.refl _ _).alloc (Nat.le_refl _) _).alloc (by simp) _⟩
    · refine (check_no _ _ _ _ _ _ _ _ _ (by omega)).mono ?_
      rintro e w1 ⟨rfl, rfl⟩
      cases h3 : (want == (len : Int)) with
      | true =>
        go_wp2_with fail
        refine (expect_no _ _ _ _ _ _ (by omega)).mono ?_
        rintro e w1 ⟨rfl, rfl⟩
        go_wp2_with fail
        go_ret
        exact ⟨rfl, ((Below.refl _ _).alloc (Nat.le_refl _) _).alloc (by simp) _⟩
      | false =>
        go_wp2_with fail
        refine (expect_no _ _ _ _ _ _ (by omega)).mono ?_
        rintro e w1 ⟨rfl, rfl⟩
        go_wp2_with fail
        go_ret
        exact ⟨rfl, ((Below.refl _ _).alloc (Nat.le_refl _) _).alloc (by simp) _⟩

end Go.Proofs.YbulkoukDoor.bwalks
