/-
  THE WALKS of 'LawS0777BLookup16'.
-/
import Derived.Test.YbulkpbkDoorLookBase
namespace Go.Proofs.YbulkpbkDoor.bwalks
open Go.RowKit Go.Maps

theorem look16_big1 (a b : Option Addr) (lk ck lv cv : Nat) (v : Int) (w : World) (hlk : (lk : Int) > 1024) :
    Calls Ybad.prog 3 #[.int .u16 v, .slice a lk ck, .slice b lv cv] w fun e w' => e = .returned (.bool true) ∧ Below w.heap.size w w' := by
  go_enter Ybad.func3, Ybad.ntmps3
  go_wp2_with fail
  go_ret
  exact ⟨rfl, Below.refl _ _⟩
theorem look16_big2 (a b : Option Addr) (lk ck lv cv : Nat) (v : Int) (w : World) (hlk : ¬ (lk : Int) > 1024) (hlv : (lv : Int) > 1024) :
    Calls Ybad.prog 3 #[.int .u16 v, .slice a lk ck, .slice b lv cv] w fun e w' => e = .returned (.bool true) ∧ Below w.heap.size w w' := by
  go_enter Ybad.func3, Ybad.ntmps3
  go_wp2_with fail
  go_ret
  exact ⟨rfl, Below.refl _ _⟩

set_option maxHeartbeats 1000000 in
/-- The values are fewer, and there is one. -/
theorem look16_vals (kb ko lk ck vb vo N cv : Nat) (ks : List Int) (ss : List ByteArray) (v : Nat) (w : World) (hv : v ≤ 65535) (htab : Lib.TabIs Ybad.prog w (Rows.lawS0777BLookup16Row.named.headD "") .u64 Lib.pow10Tab)
    (hlk : ¬ (lk : Int) > 1024) (hN : ¬ (N : Int) > 1024) (hlt : (N : Int) < (lk : Int)) (hN0 : (N : Int) > 0)
    (hkl : lk ≤ ks.length) (hvl : N ≤ ss.length)
    (hkc : ∀ j, j < ks.length → w.cell? ⟨kb, ko + j, none⟩ = some (.int .u16 (ks.getD j 0))) (hkw : ∀ j, (Lit.int .u16 (ks.getD j 0)).wf = true)
    (hvc : ∀ j, j < ss.length → w.cell? ⟨vb, vo + j, none⟩ = some (.string (ss.getD j ByteArray.empty))) (hvw : ∀ j, (ss.getD j ByteArray.empty).size ≤ maxLen) :
    Calls Ybad.prog 3 #[.int .u16 (v : Int), .slice (some ⟨kb, ko, none⟩) lk ck, .slice (some ⟨vb, vo, none⟩) N cv] w fun e w' => e = .returned (.bool true) ∧ Below w.heap.size w w' := by
  have HKC := Lib.hid hkc
  have HKW := Lib.hid hkw
  have HVC := Lib.hid hvc
  have HVW := Lib.hid hvw
  have HT := Lib.hid htab
  clear hkc hkw hvc hvw htab
  have hmm := makeMap25
  go_enter Ybad.func3, Ybad.ntmps3
  go_wp2_with fail
  refine (dec v (by omega) _).mono ?_
  rintro e w0 ⟨rfl, hb0⟩
  have hat := at_start 22 .u16 (v : Int) ks ⟨(Lib.decDigits v).toArray⟩ hb0
  have hd0 : last (v : Int) ks ss ⟨(Lib.decDigits v).toArray⟩ 0 = ⟨(Lib.decDigits v).toArray⟩ := rfl
  generalize hd : (⟨(Lib.decDigits v).toArray⟩ : ByteArray) = d at hat hd0 ⊢
  have HD := Lib.hid hd
  clear hd hb0 hmm
  go_wp2_with fail
  go_loopw [9, 10] (fun wv i wr => ∃ k : Nat, k ≤ N ∧ i = .int .i64 k ∧ wv = .string (last (v : Int) ks ss d k) ∧ At w 22 .u16 (v : Int) ks k (last (v : Int) ks ss d k) wr) (fun _ i _ => N - (intOf i).toNat)
  case atStart => exact ⟨0, Nat.zero_le _, rfl, rfl, hat⟩
  case round =>
    obtain ⟨k, hk, rfl, rfl, hr⟩ := hrel
    clear hat hd0
    by_cases hkN : k < N
    · have c1 := cell_later hr.below (HKC.out k (by omega))
      have c2 := cell_later hr.below (HVC.out k (by omega))
      obtain ⟨w1, hup, hb1, hhit, hmiss⟩ := at_store hr Ybad.underlying22 Ybad.underlying25 (by omega) rfl (HKW.out k) _ (HVW.out k)
      have e1 := cell_later hb1 (HKC.out k (by omega))
      have e2 := cell_later hb1 (HVC.out k (by omega))
      have hkN' : (k : Int) < (N : Int) := by omega
      have hkl' : (k : Int) < (lk : Int) := by omega
      have hl1 : ks.getD k 0 = (v : Int) → last (v : Int) ks ss d (k + 1) = ss.getD k ByteArray.empty := fun e => by rw [last, if_pos e]
      have hl2 : ks.getD k 0 ≠ (v : Int) → last (v : Int) ks ss d (k + 1) = last (v : Int) ks ss d k := fun e => by rw [last, if_neg e]
      clear hr HKC HKW HVC HVW
      generalize ks.getD k 0 = kk at c1 hup e1 hhit hmiss hl1 hl2
      generalize ss.getD k ByteArray.empty = sv at c2 hup e2 hhit hl1
      generalize last (v : Int) ks ss d k = sl at hmiss hl2 ⊢
      cases heq : (kk == (v : Int)) with
      | true =>
        have HA := Lib.hid (hhit (beq_iff_eq.1 heq))
        have HL := Lib.hid (hl1 (beq_iff_eq.1 heq))
        have HB := Lib.hid hb1
        clear hhit hmiss hl1 hl2 hb1
        go_wp2
        go_region
        go_wp2
        go_roundw
        case rel => exact ⟨k + 1, by omega, by go_num, by rw [HL.out], by rw [HL.out]; exact HA.out⟩
        case measure => simp [intOf]; omega
      | false =>
        have HA := Lib.hid (hmiss (beq_eq_false_iff_ne.1 heq))
        have HL := Lib.hid (hl2 (beq_eq_false_iff_ne.1 heq))
        have HB := Lib.hid hb1
        clear hhit hmiss hl1 hl2 hb1
        go_wp2
        go_region
        go_wp2
        go_roundw
        case rel => exact ⟨k + 1, by omega, by go_num, by rw [HL.out], by rw [HL.out]; exact HA.out⟩
        case measure => simp [intOf]; omega
    · clear HKC HKW HVC HVW
      have hE : At w 22 .u16 (v : Int) ks N (last (v : Int) ks ss d N) wr := by
        have e : N = k := by omega
        rw [e]; exact hr
      have HKN := Lib.hid (show k = N by omega)
      clear hr
      obtain ⟨D, hown, L⟩ := hE.map
      obtain ⟨x, hlook, hx⟩ := look_run hown law22 Ybad.underlying25 (keyOf_int_mk Ybad.underlying22 (hvw16 v hv)) L
      have hms := last_miss (v : Int) ks ss d N
      have htw : Lib.TabIs Ybad.prog wr (Rows.lawS0777BLookup16Row.named.headD "") .u64 Lib.pow10Tab := tab_later hE.below HT.out
      have HB := Lib.hid hE.below
      have HTW := Lib.hid htw
      clear htw hE hown L
      go_wp2_with fail
      rw [HKN.out]
      cases hh : hit (v : Int) ks N with
      | true =>
        rw [hh] at hlook
        rw [hx hh] at hlook
        clear hms hx
        generalize last (v : Int) ks ss d N = sl at hlook ⊢
        refine (value16_hit _ _ _ _ hlook).mono ?_
        rintro e w5 ⟨rfl, hb5⟩
        have HB5 := Lib.hid hb5
        clear hb5 hlook
        go_wp2_with fail
        go_ret
        exact ⟨rfl, HB.out.trans (HB5.out.mono HB.out.size)⟩
      | false =>
        rw [hh] at hlook
        rw [hms hh]
        clear hms hx
        refine (value16_miss v hv _ _ _ hlook HTW.out).mono ?_
        rintro e w5 ⟨rfl, hb5⟩
        have HB5 := Lib.hid hb5
        clear hb5 hlook
        rw [HD.out]
        go_wp2_with fail
        go_ret
        exact ⟨rfl, HB.out.trans (HB5.out.mono HB.out.size)⟩

set_option maxHeartbeats 1000000 in
/-- The keys are no more, and there is one. -/
theorem look16_keys (kb ko N ck vb vo lv cv : Nat) (ks : List Int) (ss : List ByteArray) (v : Nat) (w : World) (hv : v ≤ 65535) (htab : Lib.TabIs Ybad.prog w (Rows.lawS0777BLookup16Row.named.headD "") .u64 Lib.pow10Tab)
    (hN : ¬ (N : Int) > 1024) (hlv : ¬ (lv : Int) > 1024) (hlt : ¬ (lv : Int) < (N : Int)) (hN0 : (N : Int) > 0)
    (hkl : N ≤ ks.length) (hvl : lv ≤ ss.length)
    (hkc : ∀ j, j < ks.length → w.cell? ⟨kb, ko + j, none⟩ = some (.int .u16 (ks.getD j 0))) (hkw : ∀ j, (Lit.int .u16 (ks.getD j 0)).wf = true)
    (hvc : ∀ j, j < ss.length → w.cell? ⟨vb, vo + j, none⟩ = some (.string (ss.getD j ByteArray.empty))) (hvw : ∀ j, (ss.getD j ByteArray.empty).size ≤ maxLen) :
    Calls Ybad.prog 3 #[.int .u16 (v : Int), .slice (some ⟨kb, ko, none⟩) N ck, .slice (some ⟨vb, vo, none⟩) lv cv] w fun e w' => e = .returned (.bool true) ∧ Below w.heap.size w w' := by
  have HKC := Lib.hid hkc
  have HKW := Lib.hid hkw
  have HVC := Lib.hid hvc
  have HVW := Lib.hid hvw
  have HT := Lib.hid htab
  clear hkc hkw hvc hvw htab
  have hmm := makeMap25
  go_enter Ybad.func3, Ybad.ntmps3
  go_wp2_with fail
  refine (dec v (by omega) _).mono ?_
  rintro e w0 ⟨rfl, hb0⟩
  have hat := at_start 22 .u16 (v : Int) ks ⟨(Lib.decDigits v).toArray⟩ hb0
  have hd0 : last (v : Int) ks ss ⟨(Lib.decDigits v).toArray⟩ 0 = ⟨(Lib.decDigits v).toArray⟩ := rfl
  generalize hd : (⟨(Lib.decDigits v).toArray⟩ : ByteArray) = d at hat hd0 ⊢
  have HD := Lib.hid hd
  clear hd hb0 hmm
  go_wp2_with fail
  go_loopw [9, 10] (fun wv i wr => ∃ k : Nat, k ≤ N ∧ i = .int .i64 k ∧ wv = .string (last (v : Int) ks ss d k) ∧ At w 22 .u16 (v : Int) ks k (last (v : Int) ks ss d k) wr) (fun _ i _ => N - (intOf i).toNat)
  case atStart => exact ⟨0, Nat.zero_le _, rfl, rfl, hat⟩
  case round =>
    obtain ⟨k, hk, rfl, rfl, hr⟩ := hrel
    clear hat hd0
    by_cases hkN : k < N
    · have c1 := cell_later hr.below (HKC.out k (by omega))
      have c2 := cell_later hr.below (HVC.out k (by omega))
      obtain ⟨w1, hup, hb1, hhit, hmiss⟩ := at_store hr Ybad.underlying22 Ybad.underlying25 (by omega) rfl (HKW.out k) _ (HVW.out k)
      have e1 := cell_later hb1 (HKC.out k (by omega))
      have e2 := cell_later hb1 (HVC.out k (by omega))
      have hkN' : (k : Int) < (N : Int) := by omega
      have hkl' : (k : Int) < (lv : Int) := by omega
      have hl1 : ks.getD k 0 = (v : Int) → last (v : Int) ks ss d (k + 1) = ss.getD k ByteArray.empty := fun e => by rw [last, if_pos e]
      have hl2 : ks.getD k 0 ≠ (v : Int) → last (v : Int) ks ss d (k + 1) = last (v : Int) ks ss d k := fun e => by rw [last, if_neg e]
      clear hr HKC HKW HVC HVW
      generalize ks.getD k 0 = kk at c1 hup e1 hhit hmiss hl1 hl2
      generalize ss.getD k ByteArray.empty = sv at c2 hup e2 hhit hl1
      generalize last (v : Int) ks ss d k = sl at hmiss hl2 ⊢
      cases heq : (kk == (v : Int)) with
      | true =>
        have HA := Lib.hid (hhit (beq_iff_eq.1 heq))
        have HL := Lib.hid (hl1 (beq_iff_eq.1 heq))
        have HB := Lib.hid hb1
        clear hhit hmiss hl1 hl2 hb1
        go_wp2
        go_region
        go_wp2
        go_roundw
        case rel => exact ⟨k + 1, by omega, by go_num, by rw [HL.out], by rw [HL.out]; exact HA.out⟩
        case measure => simp [intOf]; omega
      | false =>
        have HA := Lib.hid (hmiss (beq_eq_false_iff_ne.1 heq))
        have HL := Lib.hid (hl2 (beq_eq_false_iff_ne.1 heq))
        have HB := Lib.hid hb1
        clear hhit hmiss hl1 hl2 hb1
        go_wp2
        go_region
        go_wp2
        go_roundw
        case rel => exact ⟨k + 1, by omega, by go_num, by rw [HL.out], by rw [HL.out]; exact HA.out⟩
        case measure => simp [intOf]; omega
    · clear HKC HKW HVC HVW
      have hE : At w 22 .u16 (v : Int) ks N (last (v : Int) ks ss d N) wr := by
        have e : N = k := by omega
        rw [e]; exact hr
      have HKN := Lib.hid (show k = N by omega)
      clear hr
      obtain ⟨D, hown, L⟩ := hE.map
      obtain ⟨x, hlook, hx⟩ := look_run hown law22 Ybad.underlying25 (keyOf_int_mk Ybad.underlying22 (hvw16 v hv)) L
      have hms := last_miss (v : Int) ks ss d N
      have htw : Lib.TabIs Ybad.prog wr (Rows.lawS0777BLookup16Row.named.headD "") .u64 Lib.pow10Tab := tab_later hE.below HT.out
      have HB := Lib.hid hE.below
      have HTW := Lib.hid htw
      clear htw hE hown L
      go_wp2_with fail
      rw [HKN.out]
      cases hh : hit (v : Int) ks N with
      | true =>
        rw [hh] at hlook
        rw [hx hh] at hlook
        clear hms hx
        generalize last (v : Int) ks ss d N = sl at hlook ⊢
        refine (value16_hit _ _ _ _ hlook).mono ?_
        rintro e w5 ⟨rfl, hb5⟩
        have HB5 := Lib.hid hb5
        clear hb5 hlook
        go_wp2_with fail
        go_ret
        exact ⟨rfl, HB.out.trans (HB5.out.mono HB.out.size)⟩
      | false =>
        rw [hh] at hlook
        rw [hms hh]
        clear hms hx
        refine (value16_miss v hv _ _ _ hlook HTW.out).mono ?_
        rintro e w5 ⟨rfl, hb5⟩
        have HB5 := Lib.hid hb5
        clear hb5 hlook
        rw [HD.out]
        go_wp2_with fail
        go_ret
        exact ⟨rfl, HB.out.trans (HB5.out.mono HB.out.size)⟩

set_option maxHeartbeats 1000000 in
/-- There is no pair: the map is nil. -/
theorem look16_none_vals (a b : Option Addr) (lk ck lv cv : Nat) (v : Nat) (w : World) (hv : v ≤ 65535) (htab : Lib.TabIs Ybad.prog w (Rows.lawS0777BLookup16Row.named.headD "") .u64 Lib.pow10Tab)
    (hlk : ¬ (lk : Int) > 1024) (hlv : ¬ (lv : Int) > 1024) (hlt : (lv : Int) < (lk : Int)) (h0 : lv < 1) :
    Calls Ybad.prog 3 #[.int .u16 (v : Int), .slice a lk ck, .slice b lv cv] w fun e w' => e = .returned (.bool true) ∧ Below w.heap.size w w' := by
  have HT := Lib.hid htab
  clear htab
  go_enter Ybad.func3, Ybad.ntmps3
  go_wp2_with fail
  refine (dec v (by omega) _).mono ?_
  rintro e w0 ⟨rfl, hb0⟩
  have HB := Lib.hid hb0
  have HTW := Lib.hid (tab_later hb0 HT.out)
  generalize hd : (⟨(Lib.decDigits v).toArray⟩ : ByteArray) = d
  have HD := Lib.hid hd
  clear hd hb0
  go_wp2_with fail
  go_loopw [9, 10] (fun wv i wr => i = .int .i64 0 ∧ wv = .string d ∧ w0 = wr) (fun _ _ _ => 0)
  case atStart => exact ⟨rfl, rfl, rfl⟩
  case round =>
    obtain ⟨rfl, rfl, rfl⟩ := hrel
    have hlook : (Instr.lookup 25 (.map none) (.int .u16 (v : Int)) true).run Ybad.prog w0 = .ok (.tuple #[.string ⟨#[]⟩, .bool false]) w0 := Maps.look_nil true law22 Ybad.underlying25 (zero9 w0) (keyOf_int_mk Ybad.underlying22 (hvw16 v hv))
    go_wp2_with fail
    refine (value16_miss v hv _ _ _ hlook HTW.out).mono ?_
    rintro e w5 ⟨rfl, hb5⟩
    have HB5 := Lib.hid hb5
    clear hb5 hlook
    rw [HD.out]
    go_wp2_with fail
    go_ret
    exact ⟨rfl, HB.out.trans (HB5.out.mono HB.out.size)⟩

set_option maxHeartbeats 1000000 in
/-- There is no pair: the map is nil. -/
theorem look16_none_keys (a b : Option Addr) (lk ck lv cv : Nat) (v : Nat) (w : World) (hv : v ≤ 65535) (htab : Lib.TabIs Ybad.prog w (Rows.lawS0777BLookup16Row.named.headD "") .u64 Lib.pow10Tab)
    (hlk : ¬ (lk : Int) > 1024) (hlv : ¬ (lv : Int) > 1024) (hlt : ¬ (lv : Int) < (lk : Int)) (h0 : lk < 1) :
    Calls Ybad.prog 3 #[.int .u16 (v : Int), .slice a lk ck, .slice b lv cv] w fun e w' => e = .returned (.bool true) ∧ Below w.heap.size w w' := by
  have HT := Lib.hid htab
  clear htab
  go_enter Ybad.func3, Ybad.ntmps3
  go_wp2_with fail
  refine (dec v (by omega) _).mono ?_
  rintro e w0 ⟨rfl, hb0⟩
  have HB := Lib.hid hb0
  have HTW := Lib.hid (tab_later hb0 HT.out)
  generalize hd : (⟨(Lib.decDigits v).toArray⟩ : ByteArray) = d
  have HD := Lib.hid hd
  clear hd hb0
  go_wp2_with fail
  go_loopw [9, 10] (fun wv i wr => i = .int .i64 0 ∧ wv = .string d ∧ w0 = wr) (fun _ _ _ => 0)
  case atStart => exact ⟨rfl, rfl, rfl⟩
  case round =>
    obtain ⟨rfl, rfl, rfl⟩ := hrel
    have hlook : (Instr.lookup 25 (.map none) (.int .u16 (v : Int)) true).run Ybad.prog w0 = .ok (.tuple #[.string ⟨#[]⟩, .bool false]) w0 := Maps.look_nil true law22 Ybad.underlying25 (zero9 w0) (keyOf_int_mk Ybad.underlying22 (hvw16 v hv))
    go_wp2_with fail
    refine (value16_miss v hv _ _ _ hlook HTW.out).mono ?_
    rintro e w5 ⟨rfl, hb5⟩
    have HB5 := Lib.hid hb5
    clear hb5 hlook
    rw [HD.out]
    go_wp2_with fail
    go_ret
    exact ⟨rfl, HB.out.trans (HB5.out.mono HB.out.size)⟩

end Go.Proofs.YbulkpbkDoor.bwalks
