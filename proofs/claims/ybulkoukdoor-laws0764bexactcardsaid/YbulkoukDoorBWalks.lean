/-
  THE WALKS of 'LawS0764BExact' and 'LawS0764BNear': checkFieldCount (7), zzs0764bexpect (8).
-/
import Derived.Test.YbulkoukDoorRows
import Derived.WalkKit
import Derived.WalkSpells
import Derived.WalkLawsBesides
import Derived.LaidEql
import Derived.Deep.QuietTactic
import Derived.BigQuiet
namespace Go.Proofs.YbulkoukDoor.bwalks
open Go.RowKit

theorem comp73 : (Ybad.prog.info? 73).map (·.comparable) = some true := by kernel_rfl
theorem info93 : (Ybad.prog.info? 93).isSome = true := by kernel_rfl

/-- checkFieldCount, the counts differ: a new ParseError. -/
theorem check_bad (f g : Option Addr) (len cap l2 c2 : Nat) (line want : Int) (a : Addr) (w : World)
    (hg : w.cell? ⟨1, 0, none⟩ = some (.iface 73 (.pointer (some a)))) (hz : 1 < w.heap.size) (h1 : 0 < want) (h2 : ((len : Int) != want) = true) :
    Calls Ybad.prog 7 #[.agg #[.slice f len cap, .int .i64 line, .slice g l2 c2], .int .i64 want] w fun e w' => e = .returned (.iface 51 (.pointer (some ⟨w.heap.size + 1, 0, none⟩))) ∧
      w' = (w.alloc (.cells #[.slice f len cap, .int .i64 line, .slice g l2 c2] 25)).alloc (.cells #[.int .i64 line, .int .i64 line, .int .i64 1, .iface 73 (.pointer (some a))] 54) := by
  go_enter Ybad.func7, Ybad.ntmps7
  go_wp2
  go_ret
  exact ⟨rfl, rfl⟩

/-- checkFieldCount, 'want' asks nothing. -/
theorem check_no (f g : Option Addr) (len cap l2 c2 : Nat) (line want : Int) (w : World) (h1 : ¬ 0 < want) :
    Calls Ybad.prog 7 #[.agg #[.slice f len cap, .int .i64 line, .slice g l2 c2], .int .i64 want] w fun e w' => e = .returned .nilIface ∧
      w' = w.alloc (.cells #[.slice f len cap, .int .i64 line, .slice g l2 c2] 25) := by
  go_enter Ybad.func7, Ybad.ntmps7
  go_wp2
  go_ret
  exact ⟨rfl, rfl⟩

/-- checkFieldCount, the counts are one. -/
theorem check_same (f g : Option Addr) (len cap l2 c2 : Nat) (line want : Int) (w : World) (h1 : 0 < want) (h2 : ((len : Int) != want) = false) :
    Calls Ybad.prog 7 #[.agg #[.slice f len cap, .int .i64 line, .slice g l2 c2], .int .i64 want] w fun e w' => e = .returned .nilIface ∧
      w' = w.alloc (.cells #[.slice f len cap, .int .i64 line, .slice g l2 c2] 25) := by
  go_enter Ybad.func7, Ybad.ntmps7
  go_wp2
  go_ret
  exact ⟨rfl, rfl⟩

/-- zzs0764bexpect on nil: 'want' asks nothing. -/
theorem expect_no (f : Option Addr) (len cap : Nat) (line want : Int) (w : World) (h1 : ¬ 0 < want) :
    Calls Ybad.prog 8 #[.nilIface, .slice f len cap, .int .i64 line, .int .i64 want] w fun e w' => e = .returned (.bool true) ∧ w' = w := by
  go_enter Ybad.func8, Ybad.ntmps8
  go_wp2
  go_ret
  exact ⟨rfl, rfl⟩

/-- zzs0764bexpect on nil: the counts are one. -/
theorem expect_same (f : Option Addr) (len cap : Nat) (line want : Int) (w : World) (h1 : 0 < want) (h2 : ((len : Int) != want) = false) :
    Calls Ybad.prog 8 #[.nilIface, .slice f len cap, .int .i64 line, .int .i64 want] w fun e w' => e = .returned (.bool true) ∧ w' = w := by
  go_enter Ybad.func8, Ybad.ntmps8
  go_wp2
  go_ret
  exact ⟨rfl, rfl⟩

/-- zzs0764bexpect on the ParseError. -/
theorem expect_bad (f : Option Addr) (len cap : Nat) (line want : Int) (a : Addr) (b : Nat) (w : World) (hg : w.cell? ⟨1, 0, none⟩ = some (.iface 73 (.pointer (some a))))
    (c0 : w.cell? ⟨b, 0, none⟩ = some (.int .i64 line)) (c1 : w.cell? ⟨b, 1, none⟩ = some (.int .i64 line)) (c2 : w.cell? ⟨b, 2, none⟩ = some (.int .i64 1)) (c3 : w.cell? ⟨b, 3, none⟩ = some (.iface 73 (.pointer (some a))))
    (h1 : 0 < want) (h2 : ((len : Int) != want) = true) :
    Calls Ybad.prog 8 #[.iface 51 (.pointer (some ⟨b, 0, none⟩)), .slice f len cap, .int .i64 line, .int .i64 want] w fun e w' => e = .returned (.bool true) ∧ ∃ n, w' = w.drewN n := by
  obtain ⟨i, hi, hcmp⟩ := Option.map_eq_some_iff.1 comp73
  obtain ⟨j, hj⟩ := Option.isSome_iff_exists.1 info93
  have he : ∀ wx : World, (binOp .eql 27 (.iface 73 (.pointer (some a))) (.iface 73 (.pointer (some a)))).run Ybad.prog wx = .ok (.bool true) wx := fun wx => run_eql_iface_ptr_same wx a Ybad.underlying27 Ybad.underlying73 hi hcmp hj
  have hta : ∀ wx : World, (Instr.typeAssert (.iface 51 (.pointer (some ⟨b, 0, none⟩))) 27 51 true).run Ybad.prog wx = .ok (.tuple #[.pointer (some ⟨b, 0, none⟩), .bool true]) wx := fun _ => by kernel_rfl
  have hll : (line == line) = true := by simp
  clear hi hcmp hj
  go_enter Ybad.func8, Ybad.ntmps8
  go_wp2
  go_quiet (fail)
  go_wp2
  go_ret
  exact ⟨rfl, _, rfl⟩

/-- 'LawS0764BExact': true, whatever came in; nothing that was there has turned. -/
theorem exact_walk (f : Option Addr) (len cap : Nat) (line want : Int) (a : Addr) (w : World)
    (hg : w.cell? ⟨1, 0, none⟩ = some (.iface 73 (.pointer (some a)))) :
    Calls Ybad.prog 3 #[.slice f len cap, .int .i64 line, .int .i64 want] w fun e w' => e = .returned (.bool true) ∧ Below w.heap.size w w' := by
  have hz : 1 < w.heap.size := World.block_lt_of_cell? w _ hg
  have hz2 : 1 < w.heap.size + 1 := by omega
  have hz3 : 1 < w.heap.size + 1 + 1 := by omega
  by_cases h1 : 0 < want
  · cases h2 : ((len : Int) != want) with
    | true =>
      go_enter Ybad.func3, Ybad.ntmps3
      go_wp2_with fail
      refine (check_bad _ _ _ _ _ _ _ _ a _ ?_ ?_ h1 h2).mono ?_
      · go_simp
      · simp; omega
      rintro e w1 ⟨rfl, rfl⟩
      go_wp2_with fail
      refine (expect_bad _ _ _ _ _ a _ _ ?_ ?_ ?_ ?_ ?_ h1 h2).mono ?_
      · go_simp
      · go_simp
      · go_simp
      · go_simp
      · go_simp
      rintro e w1 ⟨rfl, n, rfl⟩
      go_wp2_with fail
      go_ret
      exact ⟨rfl, below_drewN (((((Below.refl _ _).alloc (Nat.le_refl _) _).alloc (by simp) _).alloc (by simp; omega) _)) _⟩
    | false =>
      go_enter Ybad.func3, Ybad.ntmps3
      go_wp2_with fail
      refine (check_same _ _ _ _ _ _ _ _ _ h1 h2).mono ?_
      rintro e w1 ⟨rfl, rfl⟩
      go_wp2_with fail
      refine (expect_same _ _ _ _ _ _ h1 h2).mono ?_
      rintro e w1 ⟨rfl, rfl⟩
      go_wp2_with fail
      go_ret
      exact ⟨rfl, ((Below.refl _ _).alloc (Nat.le_refl _) _).alloc (by simp) _⟩
  · go_enter Ybad.func3, Ybad.ntmps3
    go_wp2_with fail
    refine (check_no _ _ _ _ _ _ _ _ _ (by omega)).mono ?_
    rintro e w1 ⟨rfl, rfl⟩
    go_wp2_with fail
    refine (expect_no _ _ _ _ _ _ (by omega)).mono ?_
    rintro e w1 ⟨rfl, rfl⟩
    go_wp2_with fail
    go_ret
    exact ⟨rfl, ((Below.refl _ _).alloc (Nat.le_refl _) _).alloc (by simp) _⟩

end Go.Proofs.YbulkoukDoor.bwalks
