/-
  WHICH BYTES A LABEL's HEAD MAY HOLD, in plain words; the walks of zzs0772callowed (6) and labelPrefix (7).
-/
import Derived.Test.YbulkoysRows
import Derived.WalkKit
import Derived.WalkSpells
import Derived.WalkLawsBesides
namespace Go.Proofs.Ybulkoys.cwalks
open Go.RowKit

/-- A lower-case ASCII letter, a digit, '-' or '.'. -/
def al (c : Int) : Bool := decide (97 ≤ c ∧ c ≤ 122) || decide (48 ≤ c ∧ c ≤ 57) || decide (c = 45) || decide (c = 46)
/-- So for a list of bytes. -/
def alls (l : List UInt8) : Bool := l.all fun b => al (b.toNat : Int)
/-- What labelPrefix answers. -/
def lp (s : ByteArray) : Bool := decide (1 ≤ s.size ∧ s.size ≤ 253) && alls s.data.toList

theorem take_snoc (s : ByteArray) (k : Nat) (h : k < s.size) : s.data.toList.take (k + 1) = s.data.toList.take k ++ [s[k]] := by
  rw [List.take_succ_eq_append_getElem (by simpa using h)]; rfl
theorem alls_snoc (s : ByteArray) (k : Nat) (h : k < s.size) : alls (s.data.toList.take (k + 1)) = (alls (s.data.toList.take k) && al (s[k].toNat : Int)) := by
  rw [take_snoc s k h]; simp [alls]
theorem alls_full (s : ByteArray) : alls (s.data.toList.take s.size) = alls s.data.toList := by
  rw [List.take_of_length_le (by simp)]
theorem alls_false (s : ByteArray) (k : Nat) (h : alls (s.data.toList.take k) = false) : alls s.data.toList = false := by
  cases h2 : alls s.data.toList with
  | false => rfl
  | true =>
    rw [← h]
    unfold alls at h2 ⊢
    rw [List.all_eq_true] at h2
    rw [eq_comm, List.all_eq_true]
    exact fun x hx => h2 x (List.mem_of_mem_take hx)

theorem al_true {c : Int} (h : (97 ≤ c ∧ c ≤ 122) ∨ (48 ≤ c ∧ c ≤ 57) ∨ c = 45 ∨ c = 46) : al c = true := by
  simp only [al, Bool.or_eq_true, decide_eq_true_eq]; omega
theorem al_false {c : Int} (h : ¬ ((97 ≤ c ∧ c ≤ 122) ∨ (48 ≤ c ∧ c ≤ 57) ∨ c = 45 ∨ c = 46)) : al c = false := by
  simp only [al, Bool.or_eq_false_iff, decide_eq_false_iff_not]; omega
theorem ret_of {c : Int} {x : Bool} (h : al c = x) : (.returned (.bool x) : Ending) = .returned (.bool (al c)) := by rw [h]

/-- zzs0772callowed. -/
theorem allowed (c : Int) (w : World) : Calls Yba.prog 6 #[.int .u8 c] w fun e w' => e = .returned (.bool (al c)) ∧ w' = w := by
  go_enter Yba.func6, Yba.ntmps6
  go_wp2
  all_goals go_ret
  all_goals refine ⟨?_, rfl⟩
  all_goals simp only [beq_iff_eq, beq_eq_false_iff_ne, ne_eq] at *
  all_goals first | (refine ret_of (x := true) (al_true ?_); omega) | (refine ret_of (x := false) (al_false ?_); omega)

/-- labelPrefix. -/
theorem label_short (s : ByteArray) (w : World) (h : (s.size : Int) < 1) : Calls Yba.prog 7 #[.string s] w fun e w' => e = .returned (.bool false) ∧ w' = w := by
  go_enter Yba.func7, Yba.ntmps7
  go_wp2
  go_ret
  exact ⟨rfl, rfl⟩
theorem label_long (s : ByteArray) (w : World) (h : (s.size : Int) > 253) : Calls Yba.prog 7 #[.string s] w fun e w' => e = .returned (.bool false) ∧ w' = w := by
  go_enter Yba.func7, Yba.ntmps7
  go_wp2
  go_ret
  exact ⟨rfl, rfl⟩

theorem al_pos {c : Int} (h : al c = true) : (97 ≤ c ∧ c ≤ 122) ∨ (48 ≤ c ∧ c ≤ 57) ∨ c = 45 ∨ c = 46 := by
  simp only [al, Bool.or_eq_true, decide_eq_true_eq] at h; omega
theorem al_neg {c : Int} (h : al c = false) : ¬ ((97 ≤ c ∧ c ≤ 122) ∨ (48 ≤ c ∧ c ≤ 57) ∨ c = 45 ∨ c = 46) := by
  simp only [al, Bool.or_eq_false_iff, decide_eq_false_iff_not] at h; omega

set_option maxHeartbeats 400000 in
theorem label_mid (s : ByteArray) (w : World) (h1 : ¬ (s.size : Int) < 1) (h2 : ¬ (s.size : Int) > 253) : Calls Yba.prog 7 #[.string s] w fun e w' => e = .returned (.bool (alls s.data.toList)) ∧ w' = w := by
  go_enter Yba.func7, Yba.ntmps7
  go_wp2
  go_loop [3, 4] (fun i _ => ∃ k : Nat, k ≤ s.size ∧ i = .int .i64 k ∧ alls (s.data.toList.take k) = true) (fun i _ => s.size - (intOf i).toNat)
  case atStart => exact ⟨0, Nat.zero_le _, rfl, rfl⟩
  case round =>
    obtain ⟨k, hk, rfl, ha⟩ := hrel
    have HA : Hid (alls (s.data.toList.take k) = true) := ha
    clear ha
    by_cases hlt : k < s.size
    · have hsn := alls_snoc s k hlt
      have HS : Hid (alls (s.data.toList.take (k + 1)) = (alls (s.data.toList.take k) && al (s[k].toNat : Int))) := hsn
      clear hsn
      cases hal : al (s[k].toNat : Int) with
      | true =>
        have HN : Hid (alls (s.data.toList.take (k + 1)) = true) := by rw [show alls (s.data.toList.take (k + 1)) = _ from HS.out, HA.out, hal]; rfl
        clear HS HA
        rcases al_pos hal with ⟨p1, p2⟩ | ⟨p1, p2⟩ | p | p
        · clear hal
          go_wp2
          go_round
          case rel => exact ⟨k + 1, by omega, by go_num, HN.out⟩
          case measure => simp [intOf]; omega
        · clear hal
          have p3 : ¬ 97 ≤ (s[k].toNat : Int) := by omega
          go_wp2
          go_round
          case rel => exact ⟨k + 1, by omega, by go_num, HN.out⟩
          case measure => simp [intOf]; omega
        · have p3 : ¬ 97 ≤ (s[k].toNat : Int) := by omega
          have p4 : ¬ 48 ≤ (s[k].toNat : Int) := by omega
          have p5 : ((s[k].toNat : Int) == 45) = true := beq_iff_eq.2 p
          clear hal p
          go_wp2
          go_round
          case rel => exact ⟨k + 1, by omega, by go_num, HN.out⟩
          case measure => simp [intOf]; omega
        · have p3 : ¬ 97 ≤ (s[k].toNat : Int) := by omega
          have p4 : ¬ 48 ≤ (s[k].toNat : Int) := by omega
          have p5 : ((s[k].toNat : Int) == 45) = false := beq_eq_false_iff_ne.2 (by omega)
          have p6 : ((s[k].toNat : Int) == 46) = true := beq_iff_eq.2 p
          clear hal p
          go_wp2
          go_round
          case rel => exact ⟨k + 1, by omega, by go_num, HN.out⟩
          case measure => simp [intOf]; omega
      | false =>
        have HN : Hid (alls s.data.toList = false) := alls_false s (k + 1) (by rw [show alls (s.data.toList.take (k + 1)) = _ from HS.out, HA.out, hal]; rfl)
        have hneg := al_neg hal
        clear HS HA hal
        have p5 : ((s[k].toNat : Int) == 45) = false := beq_eq_false_iff_ne.2 (by omega)
        have p6 : ((s[k].toNat : Int) == 46) = false := beq_eq_false_iff_ne.2 (by omega)
        by_cases p1 : 97 ≤ (s[k].toNat : Int)
        · have p2 : ¬ (s[k].toNat : Int) ≤ 122 := by omega
          have p3 : 48 ≤ (s[k].toNat : Int) := by omega
          have p4 : ¬ (s[k].toNat : Int) ≤ 57 := by omega
          clear hneg
          go_wp2
          go_ret
          exact ⟨by rw [HN.out]; rfl, rfl⟩
        · by_cases p3 : 48 ≤ (s[k].toNat : Int)
          · have p4 : ¬ (s[k].toNat : Int) ≤ 57 := by omega
            clear hneg
            go_wp2
            go_ret
            exact ⟨by rw [HN.out]; rfl, rfl⟩
          · clear hneg
            go_wp2
            go_ret
            exact ⟨by rw [HN.out]; rfl, rfl⟩
    · have HF : Hid (alls s.data.toList = true) := by
        have hk2 : k = s.size := by omega
        rw [← alls_full, ← hk2]
        exact HA.out
      go_wp2
      go_ret
      exact ⟨by rw [HF.out]; rfl, rfl⟩

theorem lp_mid (s : ByteArray) (h1 : ¬ (s.size : Int) < 1) (h2 : ¬ (s.size : Int) > 253) : lp s = alls s.data.toList := by
  unfold lp
  rw [decide_eq_true (by omega), Bool.true_and]
theorem lp_out (s : ByteArray) (h : (s.size : Int) < 1 ∨ (s.size : Int) > 253) : lp s = false := by
  unfold lp
  rw [decide_eq_false (by omega), Bool.false_and]

/-- labelPrefix: what it answers. -/
theorem label (s : ByteArray) (w : World) : Calls Yba.prog 7 #[.string s] w fun e w' => e = .returned (.bool (lp s)) ∧ w' = w := by
  by_cases h1 : (s.size : Int) < 1
  · rw [lp_out s (.inl h1)]; exact label_short s w h1
  by_cases h2 : (s.size : Int) > 253
  · rw [lp_out s (.inr h2)]; exact label_long s w h2
  rw [lp_mid s h1 h2]; exact label_mid s w h1 h2

end Go.Proofs.Ybulkoys.cwalks
