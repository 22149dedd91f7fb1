/-
  THE WALK of 'LawS0772CSpec'.
-/
import Derived.Test.YbulkoysPlain
namespace Go.Proofs.Ybulkoys.cwalks
open Go.RowKit

theorem spec_big (s : ByteArray) (w : World) (h : (s.size : Int) > 1024) : Calls Yba.prog 3 #[.string s] w fun e w' => e = .returned (.bool true) ∧ Grown w w' := by
  go_enter Yba.func3, Yba.ntmps3
  go_wp2_with fail
  go_ret
  exact ⟨rfl, Grown.refl _⟩

/-- What 'want' holds behind k rounds. -/
def wantAt (s : ByteArray) (k : Nat) : Bool := decide (1 ≤ s.size ∧ s.size ≤ 253) && alls (s.data.toList.take k)
theorem want_snoc (s : ByteArray) (k : Nat) (h : k < s.size) : wantAt s (k + 1) = (wantAt s k && al (s[k].toNat : Int)) := by
  unfold wantAt; rw [alls_snoc s k h, Bool.and_assoc]
theorem want_full (s : ByteArray) (k : Nat) (h : k = s.size) : wantAt s k = lp s := by
  unfold wantAt lp; rw [h, alls_full]
theorem want_false (s : ByteArray) (k : Nat) (h : wantAt s k = false) : lp s = false := by
  unfold wantAt at h
  unfold lp
  cases hd : decide (1 ≤ s.size ∧ s.size ≤ 253) with
  | false => rfl
  | true => rw [hd, Bool.true_and] at h; rw [alls_false s k h]; rfl

set_option maxHeartbeats 1000000 in
theorem spec_mid (s : ByteArray) (w : World) (h : ¬ (s.size : Int) > 1024) (h1 : (s.size : Int) ≥ 1) (h2 : (s.size : Int) ≤ 253) : Calls Yba.prog 3 #[.string s] w fun e w' => e = .returned (.bool true) ∧ Grown w w' := by
  have H0 : Hid (true = wantAt s 0) := by
    simp only [Hid, wantAt, List.take_zero, alls, List.all_nil, Bool.and_true]
    exact (decide_eq_true (by omega)).symm
  · go_enter Yba.func3, Yba.ntmps3
    go_wp2_with fail
    go_loop [3, 4] (fun wv i => ∃ (k : Nat) (x : Bool), k ≤ s.size ∧ i = .int .i64 k ∧ wv = .bool x ∧ x = wantAt s k) (fun _ i => s.size - (intOf i).toNat)
    case atStart => exact ⟨0, true, Nat.zero_le _, rfl, rfl, H0.out⟩
    case round =>
      obtain ⟨k, x, hk, rfl, rfl, hx⟩ := hrel
      by_cases hlt : k < s.size
      · have hlt' : (k : Int) < (s.size : Int) := by omega
        cases x with
        | true =>
          have HN : Hid (wantAt s (k + 1) = al (s[k].toNat : Int)) := by rw [Hid, want_snoc s k hlt, ← hx, Bool.true_and]
          clear hx
          cases hal : al (s[k].toNat : Int) with
          | true =>
            rw [hal] at HN
            go_wp2_with (go_at_call 6; refine (allowed _ _).mono ?_; rintro e w' ⟨rfl, rfl⟩)
            go_round
            case rel => exact ⟨k + 1, true, by omega, by go_num, rfl, HN.out.symm⟩
            case measure => simp [intOf]; omega
          | false =>
            rw [hal] at HN
            go_wp2_with (go_at_call 6; refine (allowed _ _).mono ?_; rintro e w' ⟨rfl, rfl⟩)
            go_round
            case rel => exact ⟨k + 1, false, by omega, by go_num, rfl, HN.out.symm⟩
            case measure => simp [intOf]; omega
        | false =>
          have hl : lp s = false := want_false s k hx.symm
          clear hx
          go_wp2_with (go_at_call 7; refine (label _ _).mono ?_; rintro e w' ⟨rfl, rfl⟩)
          go_ret
          exact ⟨rfl, Grown.refl _⟩
      · have hlt' : ¬ (k : Int) < (s.size : Int) := by omega
        have hl : lp s = x := by rw [hx]; exact (want_full s k (by omega)).symm
        clear hx
        cases x with
        | true =>
          go_wp2_with (go_at_call 7; refine (label _ _).mono ?_; rintro e w' ⟨rfl, rfl⟩)
          go_ret
          exact ⟨rfl, Grown.refl _⟩
        | false =>
          go_wp2_with (go_at_call 7; refine (label _ _).mono ?_; rintro e w' ⟨rfl, rfl⟩)
          go_ret
          exact ⟨rfl, Grown.refl _⟩

set_option maxHeartbeats 1000000 in
theorem spec_long (s : ByteArray) (w : World) (h : ¬ (s.size : Int) > 1024) (h1 : (s.size : Int) ≥ 1) (h2 : ¬ (s.size : Int) ≤ 253) : Calls Yba.prog 3 #[.string s] w fun e w' => e = .returned (.bool true) ∧ Grown w w' := by
  have H0 : Hid (false = wantAt s 0) := by
    simp only [Hid, wantAt, List.take_zero, alls, List.all_nil, Bool.and_true]
    exact (decide_eq_false (by omega)).symm
  · go_enter Yba.func3, Yba.ntmps3
    go_wp2_with fail
    go_loop [3, 4] (fun wv i => ∃ (k : Nat) (x : Bool), k ≤ s.size ∧ i = .int .i64 k ∧ wv = .bool x ∧ x = wantAt s k) (fun _ i => s.size - (intOf i).toNat)
    case atStart => exact ⟨0, false, Nat.zero_le _, rfl, rfl, H0.out⟩
    case round =>
      obtain ⟨k, x, hk, rfl, rfl, hx⟩ := hrel
      by_cases hlt : k < s.size
      · have hlt' : (k : Int) < (s.size : Int) := by omega
        cases x with
        | true =>
          have HN : Hid (wantAt s (k + 1) = al (s[k].toNat : Int)) := by rw [Hid, want_snoc s k hlt, ← hx, Bool.true_and]
          clear hx
          cases hal : al (s[k].toNat : Int) with
          | true =>
            rw [hal] at HN
            go_wp2_with (go_at_call 6; refine (allowed _ _).mono ?_; rintro e w' ⟨rfl, rfl⟩)
            go_round
            case rel => exact ⟨k + 1, true, by omega, by go_num, rfl, HN.out.symm⟩
            case measure => simp [intOf]; omega
          | false =>
            rw [hal] at HN
            go_wp2_with (go_at_call 6; refine (allowed _ _).mono ?_; rintro e w' ⟨rfl, rfl⟩)
            go_round
            case rel => exact ⟨k + 1, false, by omega, by go_num, rfl, HN.out.symm⟩
            case measure => simp [intOf]; omega
        | false =>
          have hl : lp s = false := want_false s k hx.symm
          clear hx
          go_wp2_with (go_at_call 7; refine (label _ _).mono ?_; rintro e w' ⟨rfl, rfl⟩)
          go_ret
          exact ⟨rfl, Grown.refl _⟩
      · have hlt' : ¬ (k : Int) < (s.size : Int) := by omega
        have hl : lp s = x := by rw [hx]; exact (want_full s k (by omega)).symm
        clear hx
        cases x with
        | true =>
          go_wp2_with (go_at_call 7; refine (label _ _).mono ?_; rintro e w' ⟨rfl, rfl⟩)
          go_ret
          exact ⟨rfl, Grown.refl _⟩
        | false =>
          go_wp2_with (go_at_call 7; refine (label _ _).mono ?_; rintro e w' ⟨rfl, rfl⟩)
          go_ret
          exact ⟨rfl, Grown.refl _⟩

set_option maxHeartbeats 1000000 in
theorem spec_short (s : ByteArray) (w : World) (h : ¬ (s.size : Int) > 1024) (h1 : ¬ (s.size : Int) ≥ 1) : Calls Yba.prog 3 #[.string s] w fun e w' => e = .returned (.bool true) ∧ Grown w w' := by
  have H0 : Hid (false = wantAt s 0) := by
    simp only [Hid, wantAt, List.take_zero, alls, List.all_nil, Bool.and_true]
    exact (decide_eq_false (by omega)).symm
  · go_enter Yba.func3, Yba.ntmps3
    go_wp2_with fail
    go_loop [3, 4] (fun wv i => ∃ (k : Nat) (x : Bool), k ≤ s.size ∧ i = .int .i64 k ∧ wv = .bool x ∧ x = wantAt s k) (fun _ i => s.size - (intOf i).toNat)
    case atStart => exact ⟨0, false, Nat.zero_le _, rfl, rfl, H0.out⟩
    case round =>
      obtain ⟨k, x, hk, rfl, rfl, hx⟩ := hrel
      by_cases hlt : k < s.size
      · have hlt' : (k : Int) < (s.size : Int) := by omega
        cases x with
        | true =>
          have HN : Hid (wantAt s (k + 1) = al (s[k].toNat : Int)) := by rw [Hid, want_snoc s k hlt, ← hx, Bool.true_and]
          clear hx
          cases hal : al (s[k].toNat : Int) with
          | true =>
            rw [hal] at HN
            go_wp2_with (go_at_call 6; refine (allowed _ _).mono ?_; rintro e w' ⟨rfl, rfl⟩)
            go_round
            case rel => exact ⟨k + 1, true, by omega, by go_num, rfl, HN.out.symm⟩
            case measure => simp [intOf]; omega
          | false =>
            rw [hal] at HN
            go_wp2_with (go_at_call 6; refine (allowed _ _).mono ?_; rintro e w' ⟨rfl, rfl⟩)
            go_round
            case rel => exact ⟨k + 1, false, by omega, by go_num, rfl, HN.out.symm⟩
            case measure => simp [intOf]; omega
        | false =>
          have hl : lp s = false := want_false s k hx.symm
          clear hx
          go_wp2_with (go_at_call 7; refine (label _ _).mono ?_; rintro e w' ⟨rfl, rfl⟩)
          go_ret
          exact ⟨rfl, Grown.refl _⟩
      · have hlt' : ¬ (k : Int) < (s.size : Int) := by omega
        have hl : lp s = x := by rw [hx]; exact (want_full s k (by omega)).symm
        clear hx
        cases x with
        | true =>
          go_wp2_with (go_at_call 7; refine (label _ _).mono ?_; rintro e w' ⟨rfl, rfl⟩)
          go_ret
          exact ⟨rfl, Grown.refl _⟩
        | false =>
          go_wp2_with (go_at_call 7; refine (label _ _).mono ?_; rintro e w' ⟨rfl, rfl⟩)
          go_ret
          exact ⟨rfl, Grown.refl _⟩

end Go.Proofs.Ybulkoys.cwalks
