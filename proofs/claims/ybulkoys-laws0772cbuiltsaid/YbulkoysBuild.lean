/-
  THE WALK of zzs0772cbuild (8).
-/
import Derived.Test.YbulkoysPlain
import Derived.Deep.OwnRows
namespace Go.Proofs.Ybulkoys.cwalks
open Go.RowKit

theorem info5 : (Yba.prog.info? 5).map (fun i => (i.zero, i.size, i.bytes)) = some (some (.int .u8 0), 1, 1) := by kernel_rfl
theorem make_full (m : Nat) (hm : m ≤ 8192) (w : World) : (Instr.makeSlice 24 (.int .i64 (m : Int)) (.int .i64 (m : Int))).run Yba.prog w = .ok (.slice (some ⟨w.heap.size, 0, none⟩) m m) (w.alloc (.cells (madeCells #[.int .u8 0] m) 5)) :=
  run_make_row' 24 5 (.int .u8 0) 1 Yba.underlying24 info5 rfl .i64 .i64 m (by omega) (by omega) w

/-- The row that is built: its first k cells hold allowed bytes. -/
structure Row (w0 : World) (L k : Nat) (wr : World) : Prop where
  below : Below w0.heap.size w0 wr
  cells : ∀ j, j < L → (∃ v, wr.cell? ⟨w0.heap.size, j, none⟩ = some v) ∧ wr.frozen? ⟨w0.heap.size, j, none⟩ = false
  good : ∀ j, j < k → ∃ u : UInt8, al (u.toNat : Int) = true ∧ wr.cell? ⟨w0.heap.size, j, none⟩ = some (.int .u8 (u.toNat : Int))

theorem row_start (w : World) (L : Nat) : Row w L 0 (w.alloc (.cells (madeCells #[.int .u8 0] L) 5)) := by
  refine ⟨(Below.refl _ _).alloc (Nat.le_refl _) _, fun j hj => ⟨?_, by simp⟩, fun j hj => absurd hj (by omega)⟩
  rw [World.cell?_alloc_new]
  simp [size_madeCells, hj]

theorem row_set {w wr : World} {L k : Nat} (h : Row w L k wr) (hk : k < L) (u : UInt8) (hu : al (u.toNat : Int) = true) : Row w L (k + 1) (wr.setCell ⟨w.heap.size, k, none⟩ (.int .u8 (u.toNat : Int))) := by
  refine ⟨h.below.setCell (Nat.le_refl _) _, fun j hj => ⟨?_, by simpa using (h.cells j hj).2⟩, fun j hj => ?_⟩
  · obtain ⟨v, hv⟩ := (h.cells j hj).1
    exact cell?_setCell_some hv
  · by_cases e : j = k
    · subst e
      obtain ⟨v, hv⟩ := (h.cells j hk).1
      exact ⟨u, hu, World.cell?_setCell_same _ _ _ hv⟩
    · obtain ⟨u', hu', hc⟩ := h.good j (by omega)
      exact ⟨u', hu', (World.cell?_setCell_other _ _ _ _ (fun he => e (by injection he with _ h2; exact h2.symm))).trans hc⟩

/-- The ten bytes of the table are all allowed. -/
theorem tbl_good : ∀ i : Fin 10, al ((#[97, 98, 109, 122, 48, 53, 55, 57, 45, 46] : Array UInt8)[i].toNat : Int) = true := by decide

theorem build_none (a : Option Addr) (n c L : Nat) (w : World) (hL : L ≤ 300) (hn : n < 1) :
    Calls Yba.prog 8 #[.slice a n c, .int .i64 (L : Int)] w fun e w' => e = .returned (.slice (some ⟨w.heap.size, 0, none⟩) L L) ∧ Row w L L w' := by
  have hmk := make_full L (by omega)
  go_enter Yba.func8, Yba.ntmps8
  go_wp2_with fail
  have hrow := row_start w L
  generalize w.alloc (.cells (madeCells #[.int .u8 0] L) 5) = ws at hrow ⊢
  clear hmk
  go_loopw [6, 7] (fun i _ wr => ∃ k : Nat, k ≤ L ∧ i = .int .i64 k ∧ Row w L k wr) (fun i _ _ => L - (intOf i).toNat)
  case atStart => exact ⟨0, Nat.zero_le _, rfl, hrow⟩
  case round =>
    obtain ⟨k, hk, rfl, hr⟩ := hrel
    have HR : Hid (Row w L k wr) := hr
    by_cases hlt : k < L
    · obtain ⟨⟨v, hv⟩, hf⟩ := hr.cells k hlt
      have hlt' : (k : Int) < (L : Int) := by omega
      clear hr
      go_wp2
      go_roundw
      case rel => exact ⟨k + 1, by omega, by go_num, row_set HR.out hlt 97 rfl⟩
      case measure => simp [intOf]; omega
    · clear hr
      have HL : Hid (Row w L L wr) := by
        have e : L = k := by omega
        rw [e] at HR ⊢
        exact HR
      go_wp2
      go_ret
      exact ⟨rfl, HL.out⟩

theorem build_some (b off n c L : Nat) (zs : List Int) (w : World) (hL : L ≤ 300) (hn : 0 < n) (hn2 : n ≤ 1024) (hz : n ≤ zs.length)
    (hc : ∀ j, j < zs.length → w.cell? ⟨b, off + j, none⟩ = some (.int .u8 (zs.getD j 0))) (hzz : ∀ j, 0 ≤ zs.getD j 0 ∧ zs.getD j 0 ≤ 255) :
    Calls Yba.prog 8 #[.slice (some ⟨b, off, none⟩) n c, .int .i64 (L : Int)] w fun e w' => e = .returned (.slice (some ⟨w.heap.size, 0, none⟩) L L) ∧ Row w L L w' := by
  have hmk := make_full L (by omega)
  have HZ : Hid (∀ j, 0 ≤ zs.getD j 0 ∧ zs.getD j 0 ≤ 255) := hzz
  clear hzz
  have HC : Hid (∀ j, j < zs.length → w.cell? ⟨b, off + j, none⟩ = some (.int .u8 (zs.getD j 0))) := hc
  clear hc
  go_enter Yba.func8, Yba.ntmps8
  go_wp2_with fail
  have hrow := row_start w L
  generalize w.alloc (.cells (madeCells #[.int .u8 0] L) 5) = ws at hrow ⊢
  clear hmk
  go_loopw [6, 7] (fun i _ wr => ∃ k : Nat, k ≤ L ∧ i = .int .i64 k ∧ Row w L k wr) (fun i _ _ => L - (intOf i).toNat)
  case atStart => exact ⟨0, Nat.zero_le _, rfl, hrow⟩
  case round =>
    obtain ⟨k, hk, rfl, hr⟩ := hrel
    have HR : Hid (Row w L k wr) := hr
    by_cases hlt : k < L
    · obtain ⟨⟨v, hv⟩, hf⟩ := hr.cells k hlt
      have hlt' : (k : Int) < (L : Int) := by omega
      have hlen : k % n < zs.length := Nat.lt_of_lt_of_le (Nat.mod_lt _ hn) hz
      have hcell := cell_later hr.below (HC.out (k % n) hlen)
      have hbb := HZ.out (k % n)
      obtain ⟨Z, hZ⟩ := Int.eq_ofNat_of_zero_le hbb.1
      rw [hZ] at hcell hbb
      have m1 : 0 ≤ (k : Int) % (n : Int) := Int.emod_nonneg _ (by omega)
      have m2 : (k : Int) % (n : Int) < (n : Int) := Int.emod_lt_of_pos _ (by omega)
      clear hr hZ hlen
      go_wp2
      go_roundw
      case rel => exact ⟨k + 1, by omega, by go_num, row_set HR.out hlt _ (tbl_good ⟨Z % 10, Nat.mod_lt _ (by decide)⟩)⟩
      case measure => simp [intOf]; omega
    · clear hr
      have HL : Hid (Row w L L wr) := by
        have e : L = k := by omega
        rw [e] at HR ⊢
        exact HR
      go_wp2
      go_ret
      exact ⟨rfl, HL.out⟩

/-- The bytes of a row that is built, as one list. -/
theorem row_list {w wr : World} {L : Nat} (h : Row w L L wr) : ∃ l : List UInt8, l.length = L ∧ alls l = true ∧ ∀ j (hj : j < l.length), wr.cell? ⟨w.heap.size, j, none⟩ = some (.int .u8 (l[j].toNat : Int)) := by
  have key : ∀ m, m ≤ L → ∃ l : List UInt8, l.length = m ∧ alls l = true ∧ ∀ j (hj : j < l.length), wr.cell? ⟨w.heap.size, j, none⟩ = some (.int .u8 (l[j].toNat : Int)) := by
    intro m
    induction m with
    | zero => exact fun _ => ⟨[], rfl, rfl, fun j hj => absurd hj (by simp)⟩
    | succ m ih =>
      intro hm
      obtain ⟨l, hl, ha, hc⟩ := ih (by omega)
      obtain ⟨u, hu, hcu⟩ := h.good m (by omega)
      refine ⟨l ++ [u], by simp [hl], by simp only [alls, List.all_append] at ha ⊢; simp [ha, hu], fun j hj => ?_⟩
      by_cases e : j < l.length
      · rw [List.getElem_append_left e]; exact hc j e
      · have e2 : j = m := by simp at hj; omega
        subst e2
        rw [List.getElem_append_right (by omega)]
        simpa using hcu
  exact key L (Nat.le_refl _)

/-- 'string(b)' of a row that is built. -/
theorem row_string {w wr : World} {L : Nat} (h : Row w L L wr) : ∃ s : ByteArray, s.size = L ∧ alls s.data.toList = true ∧ (convert 24 9 (.slice (some ⟨w.heap.size, 0, none⟩) L L)).run Yba.prog wr = .ok (.string s) wr := by
  obtain ⟨l, hl, ha, hc⟩ := row_list h
  refine ⟨⟨l.toArray⟩, by simpa [ByteArray.size] using hl, by simpa using ha, ?_⟩
  have := run_convert_bytes_back (P := Yba.prog) wr 24 9 5 ⟨w.heap.size, 0, none⟩ L l Yba.underlying24 Yba.underlying5 Yba.underlying9 (fun j hj => by rw [Addr.add_lit]; simpa using hc j hj)
  rw [hl] at this
  exact this

theorem built_big (a : Option Addr) (n c : Nat) (m : Int) (w : World) (hn : (n : Int) > 1024) :
    Calls Yba.prog 4 #[.slice a n c, .int .u16 m] w fun e w' => e = .returned (.bool true) ∧ Below w.heap.size w w' := by
  go_enter Yba.func4, Yba.ntmps4
  go_wp2_with fail
  go_ret
  exact ⟨rfl, Below.refl _ _⟩

/-- The law, out of a contract of zzs0772cbuild. -/
theorem built_of (a : Option Addr) (n c L : Nat) (m : Int) (w : World) (hn : ¬ (n : Int) > 1024) (m0 : 0 ≤ m) (m1 : m ≤ 65535) (hL : m % 300 = (L : Int)) (hL2 : L ≤ 300)
    (hb : Calls Yba.prog 8 #[.slice a n c, .int .i64 (L : Int)] w fun e w' => e = .returned (.slice (some ⟨w.heap.size, 0, none⟩) L L) ∧ Row w L L w') :
    Calls Yba.prog 4 #[.slice a n c, .int .u16 m] w fun e w' => e = .returned (.bool true) ∧ Below w.heap.size w w' := by
  have HB : Hid (Calls Yba.prog 8 #[.slice a n c, .int .i64 (L : Int)] w fun e w' => e = .returned (.slice (some ⟨w.heap.size, 0, none⟩) L L) ∧ Row w L L w') := hb
  clear hb
  go_enter Yba.func4, Yba.ntmps4
  go_wp2_with fail
  refine HB.out.mono ?_
  rintro e w1 ⟨rfl, hr⟩
  obtain ⟨s, hs, ha, hconv⟩ := row_string hr
  have HE : Hid (Below w.heap.size w w1) := hr.below
  have hlp : lp s = decide (1 ≤ L ∧ L ≤ 253) := by unfold lp; rw [ha, hs, Bool.and_true]
  clear hr ha hs hL m0 m1
  by_cases h1 : (L : Int) ≥ 1
  · by_cases h2 : (L : Int) ≤ 253
    · have hl : lp s = true := by rw [hlp]; exact decide_eq_true (by omega)
      clear hlp
      go_wp2_with (go_at_call 7; refine (label _ _).mono ?_; rintro e w' ⟨rfl, rfl⟩)
      go_ret
      exact ⟨rfl, HE.out⟩
    · have hl : lp s = false := by rw [hlp]; exact decide_eq_false (by omega)
      have h3 : decide ((L : Int) ≤ 253) = false := decide_eq_false h2
      clear hlp
      go_wp2_with (go_at_call 7; refine (label _ _).mono ?_; rintro e w' ⟨rfl, rfl⟩)
      go_ret
      exact ⟨rfl, HE.out⟩
  · have hl : lp s = false := by rw [hlp]; exact decide_eq_false (by omega)
    clear hlp
    go_wp2_with (go_at_call 7; refine (label _ _).mono ?_; rintro e w' ⟨rfl, rfl⟩)
    go_ret
    exact ⟨rfl, HE.out⟩

end Go.Proofs.Ybulkoys.cwalks
