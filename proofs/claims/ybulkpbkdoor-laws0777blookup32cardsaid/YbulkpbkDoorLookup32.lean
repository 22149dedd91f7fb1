/-
  'LawS0777BLookup32' PROVED: the row, and her tied card.
-/
import Derived.Test.YbulkpbkDoorLook32
import Derived.Test.YbulkpbkDoorTie
import Derived.Test.YbulkpbkDoorCards
import Derived.ProofKit
import Derived.LaidMore
import Derived.LaidLaws
import Derived.OpenShut
import Derived.ChangeOld
import Derived.Below
import Derived.SliceStrings
import Derived.Stop.LaidErr
import Derived.Stop.Joined
import Derived.SevenTiedAt
namespace Go.Proofs.YbulkpbkDoor.lookup32
open Go.ChangeShapes Go.WideShapes Go.ChangeAt Go.RowKit
set_option linter.unusedVariables false

theorem own : ownKnob Ybad.prog.godebug = none := by kernel_rfl
theorem laidOut : laidOutB Ybad.prog = true := by kernel_rfl
theorem cells30 : Ybad.prog.cellsOf 30 = 1 := by kernel_rfl
theorem cells9 : Ybad.prog.cellsOf 9 = 1 := by kernel_rfl
theorem cells27 : Ybad.prog.cellsOf 27 = 1 := by kernel_rfl
theorem cells47 : Ybad.prog.cellsOf 47 = 20 := by kernel_rfl
theorem gType : (Ybad.prog.globals[0]?).map (·.type) = some 47 := by kernel_rfl
theorem tab_eq : (Rows.laid_internal_strconv_uint64pow10 : DataW Unit) = Lib.tabData .u64 Lib.pow10Tab := by kernel_rfl

/-- WHAT THE CONDITION GIVES: the table of the powers of ten. -/
theorem of_laid {W : World} (h : laidMetH Ybad.prog Rows.lawS0777BLookup32Row.laid W) : Lib.TabIs Ybad.prog W (Rows.lawS0777BLookup16Row.named.headD "") .u64 Lib.pow10Tab := by
  rw [MakeChecks.laidMetH_plain _ _ _ (by kernel_rfl)] at h
  have h3 : laidMet Ybad.prog [(Rows.lawS0777BLookup16Row.named.headD "", Rows.laid_internal_strconv_uint64pow10)] W := laidMet.tail (laidMet.tail h)
  rw [tab_eq] at h3
  exact Lib.tabIs_of_head bwalks.gPow gType Ybad.underlying47 Ybad.underlying27 cells27 cells47 h3

theorem door_met (os : Os) (args : Array Value) : laidMetH Ybad.prog Rows.lawS0777BLookup32Row.laid ((World.doorLaid Ybad.prog 400 os).forCall (fun _ _ => 0) ⟨#[], args, []⟩).memory :=
  laidMetH_of_parts3 (fuel := 8) (laidMet_of_run' 8 (by kernel_rfl) (by kernel_rfl)) (by kernel_rfl) (by kernel_rfl)

/-- The walk, over whatever keys and values. -/
theorem walk (v : Int) (a1 : Option Addr) (l1 c1 : Nat) (a2 : Option Addr) (l2 c2 : Nat) (w : World) (wv : (Lit.int .u32 v).wf = true)
    (htab : Lib.TabIs Ybad.prog w (Rows.lawS0777BLookup16Row.named.headD "") .u64 Lib.pow10Tab)
    (hk : l1 = 0 ∨ ∃ (x : Addr) (ks : List Int), a1 = some x ∧ l1 ≤ ks.length ∧ (∀ i, i < ks.length → w.cell? (x.add i) = some (.int .u32 (ks.getD i 0))) ∧ ∀ n ∈ ks, (Lit.int .u32 n).wf = true)
    (hs : l2 = 0 ∨ ∃ (x : Addr) (ss : List ByteArray), a2 = some x ∧ l2 ≤ ss.length ∧ (∀ i, i < ss.length → w.cell? (x.add i) = some (.string (ss.getD i ByteArray.empty))) ∧ ∀ s ∈ ss, s.size ≤ maxLen) :
    Calls Ybad.prog 4 #[.int .u32 v, .slice a1 l1 c1, .slice a2 l2 c2] w fun e w' => e = .returned (.bool true) ∧ Below w.heap.size w w' := by
  by_cases hb1 : (l1 : Int) > 1024
  · exact bwalks.look32_big1 _ _ _ _ _ _ _ _ hb1
  by_cases hb2 : (l2 : Int) > 1024
  · exact bwalks.look32_big2 _ _ _ _ _ _ _ _ hb1 hb2
  have hb := bounds_u32 wv
  obtain ⟨u, rfl⟩ := Int.eq_ofNat_of_zero_le hb.1
  have hu : u ≤ 4294967295 := by omega
  by_cases hz2 : l2 = 0
  · by_cases hlt : (l2 : Int) < (l1 : Int)
    · exact bwalks.look32_none_vals _ _ _ _ _ _ u w hu htab hb1 hb2 hlt (by omega)
    · exact bwalks.look32_none_keys _ _ _ _ _ _ u w hu htab hb1 hb2 hlt (by omega)
  by_cases hz1 : l1 = 0
  · exact bwalks.look32_none_keys _ _ _ _ _ _ u w hu htab hb1 hb2 (by omega) (by omega)
  rcases hk with h | ⟨x, ks, rfl, hkl, hkc, hkw⟩
  · exact absurd h hz1
  rcases hs with h | ⟨y, ss, rfl, hsl, hsc, hsw⟩
  · exact absurd h hz2
  obtain ⟨kb, ko, rfl, hkc'⟩ := ints_at hkc (by omega)
  obtain ⟨vb, vo, rfl, hsc'⟩ : ∃ b off, y = ⟨b, off, none⟩ ∧ ∀ j, j < ss.length → w.cell? ⟨b, off + j, none⟩ = some (.string (ss.getD j ByteArray.empty)) := by
    obtain ⟨b, off, spot⟩ := y
    have hspot : spot = none := by simpa [Addr.add] using World.cell?_spot (hsc 0 (by omega))
    subst hspot
    exact ⟨b, off, rfl, fun j hj => by rw [← Go.WideShapes.add_plain]; exact hsc j hj⟩
  have hkw' : ∀ j, (Lit.int .u32 (ks.getD j 0)).wf = true := fun j => by
    by_cases hj : j < ks.length
    · have e : ks.getD j 0 = ks[j] := by simp [List.getD, List.getElem?_eq_getElem hj]
      rw [e]; exact hkw _ (List.getElem_mem hj)
    · have e : ks.getD j 0 = 0 := by simp [List.getD, List.getElem?_eq_none (Nat.not_lt.1 hj)]
      rw [e]; rfl
  have hsw' : ∀ j, (ss.getD j ByteArray.empty).size ≤ maxLen := fun j => by
    by_cases hj : j < ss.length
    · have e : ss.getD j ByteArray.empty = ss[j] := by simp [List.getD, List.getElem?_eq_getElem hj]
      rw [e]; exact hsw _ (List.getElem_mem hj)
    · have e : ss.getD j ByteArray.empty = ByteArray.empty := by simp [List.getD, List.getElem?_eq_none (Nat.not_lt.1 hj)]
      rw [e]; exact Nat.zero_le _
  by_cases hlt : (l2 : Int) < (l1 : Int)
  · exact bwalks.look32_vals kb ko l1 c1 vb vo l2 c2 ks ss u w hu htab hb1 hb2 hlt (by omega) hkl hsl hkc' hkw' hsc' hsw'
  · exact bwalks.look32_keys kb ko l1 c1 vb vo l2 c2 ks ss u w hu htab hb1 hb2 hlt (by omega) hkl hsl hkc' hkw' hsc' hsw'

set_option maxRecDepth 100000 in
theorem lifted (os : Os) (started : os.Started) (H : Type) (enc : TypeId × Value → H) :
    ReturnsInHanded {} Ybad.checked os 4 .any (fun w args => (Rows.lawS0777BLookup32Spec.pre enc Ybad.prog Ybad.f4 [] false w args ∧ laidMetH Ybad.prog Rows.lawS0777BLookup32Row.laid w) ∧ sizedMet enc Ybad.prog Ybad.f4 (OpenSpec.ofChange Rows.lawS0777BLookup32Spec) false w args)
      (Rows.lawS0777BLookup32Spec.post enc Ybad.prog Ybad.f4 false true false false) := by
  refine returnsInHanded_of_change_and (C := Ybad.checked) (X := fun w _ => laidMetH Ybad.prog Rows.lawS0777BLookup32Row.laid w) (fun _ _ _ hh h => h.of_heap hh) own started (by kernel_rfl) Ybad.func4
    (ChangeSpec.witness_shaped (enc := enc) (C := Ybad.checked) (os := os) (X := fun w _ => laidMetH Ybad.prog Rows.lawS0777BLookup32Row.laid w) false (World.doorLaid Ybad.prog 400 os) #[.int .u32 0, .slice none 0 0, .slice none 0 0] 8 rfl (World.shaped_of_RefB (by kernel_rfl) (by kernel_rfl)) (by kernel_rfl) (by kernel_rfl) (by kernel_rfl) (door_met os _)) ?_
  intro W base args ds gs before hval0 hW _ _ hL _
  have hval : ∀ (j : Nat) t v, Ybad.f4.params[j]? = some t → args[j]? = some v → Value.okWide Ybad.prog W .any base t v := hval0
  have hW' := hW
  obtain ⟨p, q, hA0, hV, rfl, hfz, hnd⟩ := hW
  have hA : DataW.TrodAll enc Ybad.prog W 0 (fun _ => true) true Ybad.f4.params.toList args.toList ds p := hA0
  rw [Ybad.params4] at hA hval
  obtain ⟨v0, vs0, d0, ds0, p0, q0, hargs, rfl, rfl, h0, r0⟩ := trodAll_cons hA
  obtain ⟨v1, vs1, d1, ds1, p1, q1, rfl, rfl, rfl, h1, r1⟩ := trodAll_cons r0
  obtain ⟨v2, vs2, d2, ds2, p2, q2, rfl, rfl, rfl, h2, r2⟩ := trodAll_cons r1
  obtain ⟨rfl, rfl, rfl⟩ := trodAll_nil r2
  obtain rfl : args = #[v0, v1, v2] := by cases args; simp_all
  obtain ⟨rfl, rfl⟩ := trodVars_none hV
  obtain ⟨n0, rfl, rfl, rfl, w0⟩ := open_int Ybad.underlying30 (hval 0 30 v0 rfl rfl) h0
  obtain ⟨a1, len1, cap1, rfl⟩ := okWide_slice Ybad.underlying31 (hval 1 31 v1 rfl rfl)
  obtain ⟨a2, len2, cap2, rfl⟩ := okWide_slice Ybad.underlying24 (hval 2 24 v2 rfl rfl)
  have k1 := h1
  have k2 := h2
  have lt1 : ∀ x ∈ p1, x.block < W.heap.size := by obtain ⟨m, hm⟩ := k1; exact DataW.trod_lt m _ _ _ hm
  have lt2 : ∀ x ∈ p2, x.block < W.heap.size := by obtain ⟨m, hm⟩ := k2; exact DataW.trod_lt m _ _ _ hm
  have hk : len1 = 0 ∨ ∃ (x : Addr) (ks : List Int), a1 = some x ∧ len1 ≤ ks.length ∧ (∀ i, i < ks.length → W.cell? (x.add i) = some (.int .u32 (ks.getD i 0))) ∧ ∀ n ∈ ks, (Lit.int .u32 n).wf = true := by
    obtain ⟨fuel, hf⟩ := h1
    rcases open_ints Ybad.underlying31 Ybad.underlying30 cells30 hf with ⟨hcs, _⟩ | ⟨x, l, c, zs, hcs, _, hl, hm, hz, _, hcell, hwz⟩
    · simp [Value.cells] at hcs
      exact .inl hcs.2.1
    · simp [Value.cells] at hcs
      obtain ⟨rfl, rfl, rfl⟩ := hcs
      have hzl : zs.length = cap1 := by simpa using hz
      exact .inr ⟨_, zs, rfl, by omega, hcell, hwz⟩
  have hs : len2 = 0 ∨ ∃ (x : Addr) (ss : List ByteArray), a2 = some x ∧ len2 ≤ ss.length ∧ (∀ i, i < ss.length → W.cell? (x.add i) = some (.string (ss.getD i ByteArray.empty))) ∧ ∀ s ∈ ss, s.size ≤ maxLen := by
    obtain ⟨fuel, hf⟩ := h2
    rcases open_strings Ybad.underlying24 Ybad.underlying9 cells9 hf with ⟨hcs, _⟩ | ⟨x, l, c, ss, hcs, _, hl, hm, hz, _, hcell, hwz⟩
    · simp [Value.cells] at hcs
      exact .inl hcs.2.1
    · simp [Value.cells] at hcs
      obtain ⟨rfl, rfl, rfl⟩ := hcs
      have hzl : ss.length = cap2 := by simpa using hz
      exact .inr ⟨_, ss, rfl, by omega, hcell, hwz⟩
  have htab := of_laid hL
  clear hA0 hval0
  refine (walk n0 a1 len1 cap1 a2 len2 cap2 W w0 htab hk hs).mono fun e W' ⟨he, bel⟩ => ?_
  subst he
  exact ⟨_, rfl, _, _, _, [], _, [], hW', trodAll_mk1 (shut_bool Ybad.underlying4 _), (trodAll_cons_mk (shut_int Ybad.underlying30 w0) (trodAll_cons_mk (Below.trod laidOut (by kernel_rfl) (of_decide_eq_true (by kernel_rfl)) k1 bel lt1) (trodAll_cons_mk (Below.trod laidOut (by kernel_rfl) (of_decide_eq_true (by kernel_rfl)) k2 bel lt2) trodAll_mk0))), rfl, bel.frame _, fun h => by cases h⟩

theorem over : Rows.LawS0777BLookup32Said :=
  OpenClaim.holds_of_wide 4 Ybad.f4 rfl rfl rfl rfl rfl rfl rfl ⟨rfl, rfl, rfl, rfl, rfl⟩ rfl rfl rfl rfl rfl (by kernel_rfl) Ybad.func4 (by kernel_rfl)
    (of_decide_eq_true (by kernel_rfl)) (by unfold Func.isWrapper; first | (rw [if_pos (by decide +kernel)]; kernel_rfl) | (rw [if_neg (by decide +kernel)]; exact ⟨rfl, rfl⟩))
    (fun os started H enc _ => lifted os started H enc)

/-- ████ THE CARD ████ -/
theorem proved : Rows.LawS0777BLookup32CardSaid :=
  Claim7.holds_tied_plain_at .later [] [.data, .data, .data] true Rows.lawS0777BLookup32Card.stood.harness false
    over (fun _ h => by cases h) (by kernel_rfl) (fun _ h => by cases h) lawS0777BLookup32_row_tie rfl ⟨rfl, rfl⟩ (by kernel_rfl) rfl
    (fun f fn hf hfn => by
      obtain rfl : f = 4 := Option.some.inj ((show Ybad.prog.funcNamed Rows.lawS0777BLookup32Row.func = some 4 by kernel_rfl).symm.trans hf) |>.symm
      obtain rfl : fn = Ybad.f4 := (Option.some.inj (Ybad.func4.symm.trans hfn)).symm
      exact ⟨by kernel_rfl, fun j t ht => by
        rw [Ybad.params4] at ht
        have hm : t ∈ [30, 31, 24] := by simpa using Array.mem_of_getElem? ht
        have hall : ([30, 31, 24].all fun u => !Ybad.prog.wantsStandIn u) = true := by kernel_rfl
        exact (show Ybad.prog.wantsStandIn t = false by simpa using List.all_eq_true.1 hall t hm)⟩)
    (by kernel_rfl)
end Go.Proofs.YbulkpbkDoor.lookup32
