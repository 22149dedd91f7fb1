/-
  THE WALK of 'LawS0764APooled'.
-/
import Derived.Test.YbulkoukFresh
import Derived.Test.YbulkoukWpB
import Derived.Conc.LoneSelectN
import Derived.Deep.OwnRows
namespace Go.Proofs.Ybulkouk.awalks
open Go.RowKit Go.Conc

theorem bytes22 : ∃ i, Yba.prog.info? 22 = some i ∧ i.bytes = 24 := by
  have h : (Yba.prog.info? 22).map (·.bytes) = some 24 := by kernel_rfl
  obtain ⟨i, hi, hb⟩ := Option.map_eq_some_iff.1 h
  exact ⟨i, hi, hb⟩
theorem mk1 (w : World) : (Instr.makeChan 32 (.int .i64 1)).run Yba.prog w = .ok (.chan (some w.heap.size)) (w.alloc (.chan 1 #[] false 0 0 false)) := by
  obtain ⟨i, hi, hb⟩ := bytes22
  simpa using run_makeChan (P := Yba.prog) (w := w) Yba.underlying32 hi .i64 1 (by omega) (by rw [hb]; omega)

theorem make_full (m : Nat) (hm : m ≤ 8192) (w : World) : (Instr.makeSlice 22 (.int .i64 (m : Int)) (.int .i64 (m : Int))).run Yba.prog w = .ok (.slice (some ⟨w.heap.size, 0, none⟩) m m) (w.alloc (.cells (madeCells #[.int .u8 0] m) 5)) :=
  run_make_row' 22 5 (.int .u8 0) 1 Yba.underlying22 info5 rfl .i64 .i64 m (by omega) (by omega) w

/-- What is known of the buffer's row. -/
def Row (w0 : World) (C : Nat) (wr : World) : Prop :=
  Below w0.heap.size w0 wr ∧ wr.heap.size = w0.heap.size + 1 ∧ ∀ j, j < C → (∃ v, wr.cell? ⟨w0.heap.size, j, none⟩ = some v) ∧ wr.frozen? ⟨w0.heap.size, j, none⟩ = false

/-- The state behind the making of the engine: the pool's channel is the second new block, the engine the third. -/
structure St (w : World) (C B : Nat) (buf : Array Value) (s r : Nat) (W : World) : Prop where
  below : Below w.heap.size w W
  size : W.heap.size = w.heap.size + 3
  chan : W.heap[w.heap.size + 1]? = some (.chan 1 buf false s r false)
  c6 : W.cell? ⟨w.heap.size + 2, 6, none⟩ = some (.chan (some (w.heap.size + 1)))
  c1 : W.cell? ⟨w.heap.size + 2, 1, none⟩ = some (.int .i64 (B : Int))
  row : ∀ j, j < C → (∃ v, W.cell? ⟨w.heap.size, j, none⟩ = some v) ∧ W.frozen? ⟨w.heap.size, j, none⟩ = false

theorem setChan_cell (w : World) (c cap : Nat) (buf : Array Value) (cl : Bool) (s r : Nat) (tm : Bool) (p : Addr) (h : c ≠ p.block) : (w.setChan c cap buf cl s r tm).cell? p = w.cell? p :=
  World.cell?_of_block (w := w) (by simp [World.setChan, Array.getElem?_setIfInBounds_ne h])
theorem setChan_frozen (w : World) (c cap : Nat) (buf : Array Value) (cl : Bool) (s r : Nat) (tm : Bool) (p : Addr) (h : c ≠ p.block) : (w.setChan c cap buf cl s r tm).frozen? p = w.frozen? p :=
  World.frozen?_of_block (w := w) (by simp [World.setChan, Array.getElem?_setIfInBounds_ne h])

theorem st_made {w wr : World} {C : Nat} (B : Nat) (h : Row w C wr) :
    St w C B #[] 0 0 ((wr.alloc (.chan 1 #[] false 0 0 false)).alloc (.cells #[.pointer none, .int .i64 (B : Int), .nilFunc, .nilFunc, .chan none, .chan none, .chan (some (w.heap.size + 1)), .chan none] 36)) := by
  obtain ⟨hb, hs, hr⟩ := h
  have hb2 : Below wr.heap.size wr ((wr.alloc (.chan 1 #[] false 0 0 false)).alloc (.cells #[.pointer none, .int .i64 (B : Int), .nilFunc, .nilFunc, .chan none, .chan none, .chan (some (w.heap.size + 1)), .chan none] 36)) :=
    ((Below.refl _ _).alloc (Nat.le_refl _) _).alloc (by simp) _
  refine ⟨hb.trans (hb2.mono (by omega)), by simp [hs], ?_, ?_, ?_, fun j hj => ?_⟩
  · rw [← hs, Below.heap_alloc _ _ _ (by simp)]
    exact heap_alloc_new wr _
  · have e : w.heap.size + 2 = (wr.alloc (.chan 1 #[] false 0 0 false)).heap.size := by simp [hs]
    rw [e, World.cell?_alloc_new]
    rfl
  · have e : w.heap.size + 2 = (wr.alloc (.chan 1 #[] false 0 0 false)).heap.size := by simp [hs]
    rw [e, World.cell?_alloc_new]
    rfl
  · obtain ⟨⟨v, hv⟩, hf⟩ := hr j hj
    have hlt : w.heap.size < wr.heap.size := by omega
    exact ⟨⟨v, (hb2.cell (p := ⟨w.heap.size, j, none⟩) hlt).trans hv⟩, (hb2.frozen (p := ⟨w.heap.size, j, none⟩) hlt).trans hf⟩

theorem st_chan {w W : World} {C B : Nat} {buf : Array Value} {s r : Nat} (h : St w C B buf s r W) (buf' : Array Value) (s' r' : Nat) :
    St w C B buf' s' r' (W.setChan (w.heap.size + 1) 1 buf' false s' r' false) := by
  refine ⟨below_setChan h.below (by omega) _ _ _ _ _ _, by rw [size_setChan]; exact h.size, heap_setChan _ _ _ _ _ _ _ _ (by rw [h.size]; omega), ?_, ?_, fun j hj => ?_⟩
  · rw [setChan_cell _ _ _ _ _ _ _ _ _ (by simp)]; exact h.c6
  · rw [setChan_cell _ _ _ _ _ _ _ _ _ (by simp)]; exact h.c1
  · rw [setChan_cell _ _ _ _ _ _ _ _ _ (by simp), setChan_frozen _ _ _ _ _ _ _ _ _ (by simp)]; exact h.row j hj

theorem heap_setCells_other (b k : Nat) (h : k ≠ b) : ∀ (vs : List Value) (o : Nat) (w : World), (w.setCells b o vs).heap[k]? = w.heap[k]?
  | [], _, _ => rfl
  | v :: vs, o, w => (heap_setCells_other b k h vs (o + 1) _).trans (by simp [World.setCell, Array.getElem?_modify, Ne.symm h])

theorem row_start (w : World) (C : Nat) : Row w C (w.alloc (.cells (madeCells #[.int .u8 0] C) 5)) := by
  refine ⟨(Below.refl _ _).alloc (Nat.le_refl _) _, by simp, fun j hj => ⟨?_, by simp⟩⟩
  rw [World.cell?_alloc_new]
  simp [size_madeCells, hj]

theorem row_set {w wr : World} {C k : Nat} (h : Row w C wr) (v : Value) : Row w C (wr.setCell ⟨w.heap.size, k, none⟩ v) := by
  refine ⟨h.1.setCell (Nat.le_refl _) v, by simpa using h.2.1, fun j hj => ⟨?_, by simpa using (h.2.2 j hj).2⟩⟩
  obtain ⟨u, hu⟩ := (h.2.2 j hj).1
  exact cell?_setCell_some hu

set_option maxHeartbeats 1000000 in
/-- The buffer serves; something is to be copied, or the slice's address is known. -/
theorem pooled_room (b off n c C : Nat) (zs : List Int) (bs kk : Int) (w : World) (h0 : 0 ≤ bs) (h1 : bs ≤ 65535) (g0 : 0 ≤ kk) (g1 : kk ≤ 255) (hn : ¬ (n:Int) > 4096) (hn2 : ¬ ((n:Int) + kk % 3 - 1 < 0))
    (hC : (n : Int) + kk % 3 - 1 = (C : Int)) (hnC : n ≤ C) (hz : n ≤ zs.length)
    (hc : ∀ j, j < zs.length → w.cell? ⟨b, off + j, none⟩ = some (.int .u8 (zs.getD j 0))) :
    Calls Yba.prog 4 #[.slice (some ⟨b, off, none⟩) n c, .int .u16 bs, .int .u8 kk] w fun e w' => e = .returned (.bool true) ∧ Below w.heap.size w w' := by
  have HC : Hid (∀ j, j < zs.length → w.cell? ⟨b, off + j, none⟩ = some (.int .u8 (zs.getD j 0))) := hc
  clear hc
  have hC2 : C ≤ 4098 := by omega
  have hmk := make_full C (by omega)
  have hmc := mk1
  refine calls_of_wpB Yba.func4 rfl ?_
  simp only [Yba.ntmps4, List.size_toArray, List.length_cons, List.length_nil, Nat.reduceAdd, Nat.reduceSub, Array.replicate_succ,
     Array.replicate_zero, List.push_toArray, List.append_toArray, List.nil_append, List.cons_append]
  iterate 7 (refine wpB_seq_k fun K hK => ?_; go_wp2_with fail)
  have hrow := row_start w C
  generalize w.alloc (.cells (madeCells #[.int .u8 0] C) 5) = ws at hrow ⊢
  clear hmk
  refine wpB_seq_k fun K hK => ?_
  go_wp2_with fail
  go_loopw [11] (fun i wr => ∃ k : Nat, k ≤ C ∧ i = .int .i64 k ∧ Row w C wr) (fun i _ => C - (intOf i).toNat)
  case atStart => exact ⟨0, Nat.zero_le _, rfl, hrow⟩
  case round =>
    obtain ⟨k, hk, rfl, hr⟩ := hrel
    by_cases hlt : k < C
    · obtain ⟨⟨v, hv⟩, hf⟩ := hr.2.2 k hlt
      have HR : Hid (Row w C wr) := hr
      clear hr
      have hlt' : (k : Int) < (C : Int) := by omega
      go_wp2_with fail
      go_roundw
      case rel => exact ⟨k + 1, by omega, by go_num, row_set HR.out _⟩
      case measure => simp [intOf]; omega
    · have HR : Hid (Row w C wr) := hr
      have hsz := hr.2.1
      clear hr
      go_wp2_with fail
      obtain ⟨B, hB⟩ := Int.eq_ofNat_of_zero_le (show 0 ≤ bs % 512 by omega)
      have hB2 : B ≤ 511 := by omega
      rw [hB]
      clear hB h0 h1 hrow g0 g1 hk hlt ws
      refine wpB_seq_k fun K hK => ?_
      go_wp2_with fail
      have hst := st_made B HR.out
      generalize ((wr.alloc (.chan 1 #[] false 0 0 false)).alloc (.cells #[.pointer none, .int .i64 (B : Int), .nilFunc, .nilFunc, .chan none, .chan none, .chan (some (w.heap.size + 1)), .chan none] 36)) = W1 at hst ⊢
      clear HR hsz hmc
      have hc6 := hst.c6
      refine wpB_lone_k fun K hK it cs => ?_
      refine LoneTo.goes (n := 10) ?_
      s_reg
      s_op
      s_op
      s_op
      s_op
      s_op
      s_stop
      refine LoneTo.step (step_lone_send_room (c := w.heap.size + 1) (cap := 1) (buf := #[]) (s := 0) (r := 0) (tm := false) (stepG_comm (cases := #[scase (w.heap.size + 1) (.slice (some ⟨w.heap.size, 0, none⟩) C C) (.tuple #[])]) (blocking := true) (shape := .send) (w' := W1) rfl rfl (by decide) (by simp [execOp, scase, Act.eval])) hst.chan (by simp)) ?_
      rw [Frame.finish_at]
      walk_nrm
      refine LoneTo.goes (n := 3) ?_
      s_c stepG_region_end
      s_stop
      refine LoneTo.done ⟨_, rfl, hK _ _ ?_⟩
      clear hK K
      have hst2 := st_chan hst #[.slice (some ⟨w.heap.size, 0, none⟩) C C] 1 0
      generalize (W1.setChan (w.heap.size + 1) 1 #[Value.slice (some { block := w.heap.size, off := 0 }) C C] false 1 0 false) = W2 at hst2 ⊢
      clear hst hc6 W1
      refine wpB_of_wp ?_
      go_wp2_with fail
      have hst3 := st_chan hst2 #[] 1 1
      have hget : Calls Yba.prog 7 #[.chan (some (w.heap.size + 1))] W2 fun e w' => e = .returned (.slice (some ⟨w.heap.size, 0, none⟩) C C) ∧ (W2.setChan (w.heap.size + 1) 1 #[] false 1 1 false) = w' := (get_one _ 1 _ W2 hst2.chan).mono (by rintro e w' ⟨rfl, rfl⟩; exact ⟨rfl, rfl⟩)
      generalize (W2.setChan (w.heap.size + 1) 1 #[] false 1 1 false) = W3 at hst3 hget
      have hsome : ∀ j, j < n → (W3.cell? ⟨w.heap.size, j, none⟩).isSome = true := fun j hj => by
        obtain ⟨⟨v, hv⟩, _⟩ := hst3.row j (by omega)
        rw [hv]
        rfl
      refine (copy_room (some ⟨b, off, none⟩) n c C C (w.heap.size + 2) w.heap.size (.chan (some (w.heap.size + 1))) _ W2 W3 hst2.c6 hget (by omega) (src_later b off n c zs hz HC.out hst3.below) hsome (fun j hj => (hst3.row j (by omega)).2)).mono ?_
      clear hget hst2
      rintro e w3 ⟨rfl, hw3⟩
      have hrow := row_holds (w := W3) w.heap.size n zs hz hsome
      have e1 : w3.heap[w.heap.size + 1]? = some (.chan 1 #[] false 1 1 false) := by rw [hw3, heap_setCells_other _ _ (by omega)]; exact hst3.chan
      have e2 : w3.cell? ⟨w.heap.size + 2, 6, none⟩ = some (.chan (some (w.heap.size + 1))) := by
        rw [hw3, World.cell?_setCells_out _ _ _ _ _ (fun h => absurd h (by simp))]
        exact hst3.c6
      have hbel : Below w.heap.size w w3 := by rw [hw3]; exact below_cells hst3.below (Nat.le_refl _) _ _
      rw [← hw3] at hrow
      clear hw3 hsome hst3 W3 W2
      have HR : Hid (∀ i, i < n → w3.cell? ⟨w.heap.size, 0 + i, none⟩ = some (.int .u8 (zs.getD i 0))) := hrow
      have HD : Hid (∀ i, i < n → w3.cell? ⟨b, off + i, none⟩ = some (.int .u8 (zs.getD i 0))) := fun i hi => cell_later hbel (HC.out i (by omega))
      clear hrow HC
      have hlen : ∀ ty, (Builtin.len_ #[32] ty #[.chan (some (w.heap.size + 1))]).run Yba.prog w3 = .ok (.int .i64 0) w3 := fun ty => run_len_chan (P := Yba.prog) 32 ty Yba.underlying32 e1
      clear e1
      go_wp2_with fail
      refine (eq_full w.heap.size 0 b off n C c (fun i => zs.getD i 0) w3 (by omega) HR.out HD.out).mono ?_
      rintro e w4 ⟨rfl, m, rfl⟩
      clear hlen e2
      have hCn : (n : Int) ≤ (C : Int) := by omega
      go_wp2_with fail
      go_loopw [14] (fun i wr => ∃ k m : Nat, k ≤ n ∧ i = .int .i64 k ∧ wr = w3.drewN m) (fun i _ => n - (intOf i).toNat)
      case atStart => exact ⟨0, m, Nat.zero_le _, rfl, rfl⟩
      case round =>
        obtain ⟨k, m, hk, rfl, rfl⟩ := hrel
        by_cases hlt : k < n
        · have q1 : w3.cell? ⟨w.heap.size, k, none⟩ = some (.int .u8 (zs.getD k 0)) := by simpa using HR.out k hlt
          have q2 := HD.out k hlt
          generalize zs.getD k 0 = zk at q1 q2
          have hx : (zk != zk) = false := by simp
          have hlt' : (k : Int) < (n : Int) := by omega
          have hltC : (k : Int) < (C : Int) := by omega
          go_wp2
          go_quiet (fail)
          go_wp2
          go_roundw
          case rel => exact ⟨k + 1, m + nq, by omega, by go_num, rfl⟩
          case measure => simp [intOf]; omega
        · go_wp2
          go_ret
          exact ⟨rfl, below_drewN hbel _⟩

set_option maxHeartbeats 1000000 in
/-- The buffer is too short: a new one. -/
theorem pooled_new (b off n c C : Nat) (zs : List Int) (bs kk : Int) (w : World) (h0 : 0 ≤ bs) (h1 : bs ≤ 65535) (g0 : 0 ≤ kk) (g1 : kk ≤ 255) (hn : ¬ (n:Int) > 4096) (hn2 : ¬ ((n:Int) + kk % 3 - 1 < 0))
    (hC : (n : Int) + kk % 3 - 1 = (C : Int)) (hnC : (C : Int) < (n : Int)) (hz : n ≤ zs.length)
    (hc : ∀ j, j < zs.length → w.cell? ⟨b, off + j, none⟩ = some (.int .u8 (zs.getD j 0))) :
    Calls Yba.prog 4 #[.slice (some ⟨b, off, none⟩) n c, .int .u16 bs, .int .u8 kk] w fun e w' => e = .returned (.bool true) ∧ Below w.heap.size w w' := by
  have HC : Hid (∀ j, j < zs.length → w.cell? ⟨b, off + j, none⟩ = some (.int .u8 (zs.getD j 0))) := hc
  clear hc
  have hC2 : C ≤ 4098 := by omega
  have hmk := make_full C (by omega)
  have hmc := mk1
  refine calls_of_wpB Yba.func4 rfl ?_
  simp only [Yba.ntmps4, List.size_toArray, List.length_cons, List.length_nil, Nat.reduceAdd, Nat.reduceSub, Array.replicate_succ,
     Array.replicate_zero, List.push_toArray, List.append_toArray, List.nil_append, List.cons_append]
  iterate 7 (refine wpB_seq_k fun K hK => ?_; go_wp2_with fail)
  have hrow := row_start w C
  generalize w.alloc (.cells (madeCells #[.int .u8 0] C) 5) = ws at hrow ⊢
  clear hmk
  refine wpB_seq_k fun K hK => ?_
  go_wp2_with fail
  go_loopw [11] (fun i wr => ∃ k : Nat, k ≤ C ∧ i = .int .i64 k ∧ Row w C wr) (fun i _ => C - (intOf i).toNat)
  case atStart => exact ⟨0, Nat.zero_le _, rfl, hrow⟩
  case round =>
    obtain ⟨k, hk, rfl, hr⟩ := hrel
    by_cases hlt : k < C
    · obtain ⟨⟨v, hv⟩, hf⟩ := hr.2.2 k hlt
      have HR : Hid (Row w C wr) := hr
      clear hr
      have hlt' : (k : Int) < (C : Int) := by omega
      go_wp2_with fail
      go_roundw
      case rel => exact ⟨k + 1, by omega, by go_num, row_set HR.out _⟩
      case measure => simp [intOf]; omega
    · have HR : Hid (Row w C wr) := hr
      have hsz := hr.2.1
      clear hr
      go_wp2_with fail
      obtain ⟨B, hB⟩ := Int.eq_ofNat_of_zero_le (show 0 ≤ bs % 512 by omega)
      have hB2 : B ≤ 511 := by omega
      rw [hB]
      clear hB h0 h1 hrow g0 g1 hk hlt ws
      refine wpB_seq_k fun K hK => ?_
      go_wp2_with fail
      have hst := st_made B HR.out
      generalize ((wr.alloc (.chan 1 #[] false 0 0 false)).alloc (.cells #[.pointer none, .int .i64 (B : Int), .nilFunc, .nilFunc, .chan none, .chan none, .chan (some (w.heap.size + 1)), .chan none] 36)) = W1 at hst ⊢
      clear HR hsz hmc
      have hc6 := hst.c6
      refine wpB_lone_k fun K hK it cs => ?_
      refine LoneTo.goes (n := 10) ?_
      s_reg
      s_op
      s_op
      s_op
      s_op
      s_op
      s_stop
      refine LoneTo.step (step_lone_send_room (c := w.heap.size + 1) (cap := 1) (buf := #[]) (s := 0) (r := 0) (tm := false) (stepG_comm (cases := #[scase (w.heap.size + 1) (.slice (some ⟨w.heap.size, 0, none⟩) C C) (.tuple #[])]) (blocking := true) (shape := .send) (w' := W1) rfl rfl (by decide) (by simp [execOp, scase, Act.eval])) hst.chan (by simp)) ?_
      rw [Frame.finish_at]
      walk_nrm
      refine LoneTo.goes (n := 3) ?_
      s_c stepG_region_end
      s_stop
      refine LoneTo.done ⟨_, rfl, hK _ _ ?_⟩
      clear hK K
      have hst2 := st_chan hst #[.slice (some ⟨w.heap.size, 0, none⟩) C C] 1 0
      generalize (W1.setChan (w.heap.size + 1) 1 #[Value.slice (some { block := w.heap.size, off := 0 }) C C] false 1 0 false) = W2 at hst2 ⊢
      clear hst hc6 W1
      refine wpB_of_wp ?_
      go_wp2_with fail
      have hst3 := st_chan hst2 #[] 1 1
      have hget : Calls Yba.prog 7 #[.chan (some (w.heap.size + 1))] W2 fun e w' => e = .returned (.slice (some ⟨w.heap.size, 0, none⟩) C C) ∧ (W2.setChan (w.heap.size + 1) 1 #[] false 1 1 false) = w' := (get_one _ 1 _ W2 hst2.chan).mono (by rintro e w' ⟨rfl, rfl⟩; exact ⟨rfl, rfl⟩)
      generalize (W2.setChan (w.heap.size + 1) 1 #[] false 1 1 false) = W3 at hst3 hget
      obtain ⟨mx, hm⟩ : ∃ mx, (n < B ∧ mx = B) ∨ (B ≤ n ∧ mx = n) := by
        by_cases h : n < B
        · exact ⟨B, .inl ⟨h, rfl⟩⟩
        · exact ⟨n, .inr ⟨by omega, rfl⟩⟩
      have hbelA : Below W3.heap.size W3 (W3.alloc (.cells (madeCells #[.int .u8 0] mx) 5)) := (Below.refl _ _).alloc (Nat.le_refl _) _
      refine (copy_new (some ⟨b, off, none⟩) (some ⟨w.heap.size, 0, none⟩) n c C C (w.heap.size + 2) B mx (.chan (some (w.heap.size + 1))) _ W2 W3 hst2.c6 hst3.c1 hget hnC (by omega) hB2 hm (src_later b off n c zs hz HC.out (hst3.below.trans (hbelA.mono (by rw [hst3.size]; omega))))).mono ?_
      clear hget hst2
      rintro e w3 ⟨rfl, hw3⟩
      have hsome : ∀ j, j < n → ((W3.alloc (.cells (madeCells #[.int .u8 0] mx) 5)).cell? ⟨W3.heap.size, j, none⟩).isSome = true := fun j hj => by
        rw [World.cell?_alloc_new]
        simp [size_madeCells]
        omega
      have hrow := row_holds (w := W3.alloc (.cells (madeCells #[.int .u8 0] mx) 5)) W3.heap.size n zs hz hsome
      have hb3 : Below W3.heap.size W3 w3 := by rw [hw3]; exact below_cells hbelA (Nat.le_refl _) _ _
      have e1 : w3.heap[w.heap.size + 1]? = some (.chan 1 #[] false 1 1 false) := (hb3.block _ (by rw [hst3.size]; omega)).trans hst3.chan
      have e2 : w3.cell? ⟨w.heap.size + 2, 6, none⟩ = some (.chan (some (w.heap.size + 1))) := (hb3.cell (p := ⟨w.heap.size + 2, 6, none⟩) (by show w.heap.size + 2 < _; rw [hst3.size]; omega)).trans hst3.c6
      have hbel : Below w.heap.size w w3 := hst3.below.trans (hb3.mono (by rw [hst3.size]; omega))
      rw [← hw3] at hrow
      clear hw3 hsome hst3 hb3 hbelA
      have HR : Hid (∀ i, i < n → w3.cell? ⟨W3.heap.size, 0 + i, none⟩ = some (.int .u8 (zs.getD i 0))) := hrow
      have HD : Hid (∀ i, i < n → w3.cell? ⟨b, off + i, none⟩ = some (.int .u8 (zs.getD i 0))) := fun i hi => cell_later hbel (HC.out i (by omega))
      clear hrow HC
      have hlen : ∀ ty, (Builtin.len_ #[32] ty #[.chan (some (w.heap.size + 1))]).run Yba.prog w3 = .ok (.int .i64 0) w3 := fun ty => run_len_chan (P := Yba.prog) 32 ty Yba.underlying32 e1
      clear e1
      go_wp2_with fail
      refine (eq_full W3.heap.size 0 b off n mx c (fun i => zs.getD i 0) w3 (by omega) HR.out HD.out).mono ?_
      rintro e w4 ⟨rfl, m, rfl⟩
      clear hlen e2
      rcases hm with ⟨hm, rfl⟩ | ⟨hm, rfl⟩
      · go_wp2_with fail
        go_ret
        exact ⟨rfl, below_drewN hbel _⟩
      · have hm' : ¬ (mx : Int) < (B : Int) := by omega
        go_wp2_with fail
        go_ret
        exact ⟨rfl, below_drewN hbel _⟩

theorem src_none (a : Option Addr) (n c : Nat) (w : World) (h : n < 1) : Src Yba.prog 1 22 (.slice a n c) n [] w := by
  obtain rfl : n = 0 := by omega
  cases a with
  | none => exact Src.ofNil w Yba.underlying22 c
  | some x => exact Src.ofSlice w Yba.underlying22 x 0 c [] rfl (fun j u h => by simp at h) (fun u h => by cases h)

theorem eq_none (a b : Option Addr) (n c1 c2 : Nat) (w : World) (h : n < 1) :
    Calls Yba.prog 6 #[.slice a n c1, .slice b n c2] w fun e w' => e = .returned (.bool true) ∧ ∃ m, w' = w.drewN m := by
  obtain rfl : n = 0 := by omega
  exact eq_empty a b c1 c2 w

set_option maxHeartbeats 1000000 in
/-- Nothing is to be copied. -/
theorem pooled_empty (a : Option Addr) (n c C : Nat) (bs kk : Int) (w : World) (h0 : 0 ≤ bs) (h1 : bs ≤ 65535) (g0 : 0 ≤ kk) (g1 : kk ≤ 255) (hn : ¬ (n:Int) > 4096) (_hn2 : ¬ ((n:Int) + kk % 3 - 1 < 0))
    (hC : (n : Int) + kk % 3 - 1 = (C : Int)) (hnC : n ≤ C) (hn1 : n < 1) :
    Calls Yba.prog 4 #[.slice a n c, .int .u16 bs, .int .u8 kk] w fun e w' => e = .returned (.bool true) ∧ Below w.heap.size w w' := by
  have hC2 : C ≤ 4098 := by omega
  have hmk := make_full C (by omega)
  have hmc := mk1
  refine calls_of_wpB Yba.func4 rfl ?_
  simp only [Yba.ntmps4, List.size_toArray, List.length_cons, List.length_nil, Nat.reduceAdd, Nat.reduceSub, Array.replicate_succ,
     Array.replicate_zero, List.push_toArray, List.append_toArray, List.nil_append, List.cons_append]
  iterate 7 (refine wpB_seq_k fun K hK => ?_; go_wp2_with fail)
  have hrow := row_start w C
  generalize w.alloc (.cells (madeCells #[.int .u8 0] C) 5) = ws at hrow ⊢
  clear hmk
  refine wpB_seq_k fun K hK => ?_
  go_wp2_with fail
  go_loopw [11] (fun i wr => ∃ k : Nat, k ≤ C ∧ i = .int .i64 k ∧ Row w C wr) (fun i _ => C - (intOf i).toNat)
  case atStart => exact ⟨0, Nat.zero_le _, rfl, hrow⟩
  case round =>
    obtain ⟨k, hk, rfl, hr⟩ := hrel
    by_cases hlt : k < C
    · obtain ⟨⟨v, hv⟩, hf⟩ := hr.2.2 k hlt
      have HR : Hid (Row w C wr) := hr
      clear hr
      have hlt' : (k : Int) < (C : Int) := by omega
      go_wp2_with fail
      go_roundw
      case rel => exact ⟨k + 1, by omega, by go_num, row_set HR.out _⟩
      case measure => simp [intOf]; omega
    · have HR : Hid (Row w C wr) := hr
      have hsz := hr.2.1
      clear hr
      go_wp2_with fail
      obtain ⟨B, hB⟩ := Int.eq_ofNat_of_zero_le (show 0 ≤ bs % 512 by omega)
      have hB2 : B ≤ 511 := by omega
      rw [hB]
      clear hB h0 h1 hrow g0 g1 hk hlt ws
      refine wpB_seq_k fun K hK => ?_
      go_wp2_with fail
      have hst := st_made B HR.out
      generalize ((wr.alloc (.chan 1 #[] false 0 0 false)).alloc (.cells #[.pointer none, .int .i64 (B : Int), .nilFunc, .nilFunc, .chan none, .chan none, .chan (some (w.heap.size + 1)), .chan none] 36)) = W1 at hst ⊢
      clear HR hsz hmc
      have hc6 := hst.c6
      refine wpB_lone_k fun K hK it cs => ?_
      refine LoneTo.goes (n := 10) ?_
      s_reg
      s_op
      s_op
      s_op
      s_op
      s_op
      s_stop
      refine LoneTo.step (step_lone_send_room (c := w.heap.size + 1) (cap := 1) (buf := #[]) (s := 0) (r := 0) (tm := false) (stepG_comm (cases := #[scase (w.heap.size + 1) (.slice (some ⟨w.heap.size, 0, none⟩) C C) (.tuple #[])]) (blocking := true) (shape := .send) (w' := W1) rfl rfl (by decide) (by simp [execOp, scase, Act.eval])) hst.chan (by simp)) ?_
      rw [Frame.finish_at]
      walk_nrm
      refine LoneTo.goes (n := 3) ?_
      s_c stepG_region_end
      s_stop
      refine LoneTo.done ⟨_, rfl, hK _ _ ?_⟩
      clear hK K
      have hst2 := st_chan hst #[.slice (some ⟨w.heap.size, 0, none⟩) C C] 1 0
      generalize (W1.setChan (w.heap.size + 1) 1 #[Value.slice (some { block := w.heap.size, off := 0 }) C C] false 1 0 false) = W2 at hst2 ⊢
      clear hst hc6 W1
      refine wpB_of_wp ?_
      go_wp2_with fail
      have hst3 := st_chan hst2 #[] 1 1
      have hget : Calls Yba.prog 7 #[.chan (some (w.heap.size + 1))] W2 fun e w' => e = .returned (.slice (some ⟨w.heap.size, 0, none⟩) C C) ∧ (W2.setChan (w.heap.size + 1) 1 #[] false 1 1 false) = w' := (get_one _ 1 _ W2 hst2.chan).mono (by rintro e w' ⟨rfl, rfl⟩; exact ⟨rfl, rfl⟩)
      generalize (W2.setChan (w.heap.size + 1) 1 #[] false 1 1 false) = W3 at hst3 hget
      have hsome : ∀ j, j < n → (W3.cell? ⟨w.heap.size, j, none⟩).isSome = true := fun j hj => by
        obtain ⟨⟨v, hv⟩, _⟩ := hst3.row j (by omega)
        rw [hv]
        rfl
      refine (copy_room a n c C C (w.heap.size + 2) w.heap.size (.chan (some (w.heap.size + 1))) _ W2 W3 hst2.c6 hget (by omega) (src_none a n c W3 hn1) hsome (fun j hj => (hst3.row j (by omega)).2)).mono ?_
      clear hget hst2
      rintro e w3 ⟨rfl, hw3⟩
      have e1 : w3.heap[w.heap.size + 1]? = some (.chan 1 #[] false 1 1 false) := by rw [hw3, heap_setCells_other _ _ (by omega)]; exact hst3.chan
      have e2 : w3.cell? ⟨w.heap.size + 2, 6, none⟩ = some (.chan (some (w.heap.size + 1))) := by
        rw [hw3, World.cell?_setCells_out _ _ _ _ _ (fun h => absurd h (by simp))]
        exact hst3.c6
      have hbel : Below w.heap.size w w3 := by rw [hw3]; exact below_cells hst3.below (Nat.le_refl _) _ _
      clear hw3 hsome hst3 W3 W2
      have hlen : ∀ ty, (Builtin.len_ #[32] ty #[.chan (some (w.heap.size + 1))]).run Yba.prog w3 = .ok (.int .i64 0) w3 := fun ty => run_len_chan (P := Yba.prog) 32 ty Yba.underlying32 e1
      clear e1
      go_wp2_with fail
      refine (eq_none _ _ n _ _ _ hn1).mono ?_
      rintro e w4 ⟨rfl, m, rfl⟩
      clear hlen e2
      have hCn : (n : Int) ≤ (C : Int) := by omega
      go_wp2_with fail
      go_loopw [14] (fun i wr => ∃ k m : Nat, k ≤ n ∧ i = .int .i64 k ∧ wr = w3.drewN m) (fun i _ => n - (intOf i).toNat)
      case atStart => exact ⟨0, m, Nat.zero_le _, rfl, rfl⟩
      case round =>
        obtain ⟨k, m, hk, rfl, rfl⟩ := hrel
        have hk0 : ¬ (k : Int) < (n : Int) := by omega
        go_wp2
        go_ret
        exact ⟨rfl, below_drewN hbel _⟩

set_option maxHeartbeats 1000000 in
/-- Nothing is to be copied, and the length is cut at nought. -/
theorem pooled_clamped (a : Option Addr) (n c : Nat) (bs kk : Int) (w : World) (h0 : 0 ≤ bs) (h1 : bs ≤ 65535) (g0 : 0 ≤ kk) (g1 : kk ≤ 255) (_hn : ¬ (n:Int) > 4096) (hn2 : (n:Int) + kk % 3 - 1 < 0) (hn1 : n < 1) :
    Calls Yba.prog 4 #[.slice a n c, .int .u16 bs, .int .u8 kk] w fun e w' => e = .returned (.bool true) ∧ Below w.heap.size w w' := by
  have hmk : ∀ w, (Instr.makeSlice 22 (.int .i64 0) (.int .i64 0)).run Yba.prog w = .ok (.slice (some ⟨w.heap.size, 0, none⟩) 0 0) (w.alloc (.cells (madeCells #[.int .u8 0] 0) 5)) := fun w => make_full 0 (by omega) w
  have hmc := mk1
  refine calls_of_wpB Yba.func4 rfl ?_
  simp only [Yba.ntmps4, List.size_toArray, List.length_cons, List.length_nil, Nat.reduceAdd, Nat.reduceSub, Array.replicate_succ,
     Array.replicate_zero, List.push_toArray, List.append_toArray, List.nil_append, List.cons_append]
  iterate 7 (refine wpB_seq_k fun K hK => ?_; go_wp2_with fail)
  have hrow := row_start w 0
  generalize w.alloc (.cells (madeCells #[.int .u8 0] 0) 5) = ws at hrow ⊢
  clear hmk
  refine wpB_seq_k fun K hK => ?_
  go_wp2_with fail
  go_loopw [11] (fun i wr => i = .int .i64 0 ∧ Row w 0 wr) (fun _ _ => 0)
  case atStart => exact ⟨rfl, hrow⟩
  case round =>
    obtain ⟨rfl, hr⟩ := hrel
    · have HR : Hid (Row w 0 wr) := hr
      have hsz := hr.2.1
      clear hr
      go_wp2_with fail
      obtain ⟨B, hB⟩ := Int.eq_ofNat_of_zero_le (show 0 ≤ bs % 512 by omega)
      have hB2 : B ≤ 511 := by omega
      rw [hB]
      clear hB h0 h1 hrow g0 g1 ws
      refine wpB_seq_k fun K hK => ?_
      go_wp2_with fail
      have hst := st_made B HR.out
      generalize ((wr.alloc (.chan 1 #[] false 0 0 false)).alloc (.cells #[.pointer none, .int .i64 (B : Int), .nilFunc, .nilFunc, .chan none, .chan none, .chan (some (w.heap.size + 1)), .chan none] 36)) = W1 at hst ⊢
      clear HR hsz hmc
      have hc6 := hst.c6
      refine wpB_lone_k fun K hK it cs => ?_
      refine LoneTo.goes (n := 10) ?_
      s_reg
      s_op
      s_op
      s_op
      s_op
      s_op
      s_stop
      refine LoneTo.step (step_lone_send_room (c := w.heap.size + 1) (cap := 1) (buf := #[]) (s := 0) (r := 0) (tm := false) (stepG_comm (cases := #[scase (w.heap.size + 1) (.slice (some ⟨w.heap.size, 0, none⟩) 0 0) (.tuple #[])]) (blocking := true) (shape := .send) (w' := W1) rfl rfl (by decide) (by simp [execOp, scase, Act.eval])) hst.chan (by simp)) ?_
      rw [Frame.finish_at]
      walk_nrm
      refine LoneTo.goes (n := 3) ?_
      s_c stepG_region_end
      s_stop
      refine LoneTo.done ⟨_, rfl, hK _ _ ?_⟩
      clear hK K
      have hst2 := st_chan hst #[.slice (some ⟨w.heap.size, 0, none⟩) 0 0] 1 0
      generalize (W1.setChan (w.heap.size + 1) 1 #[Value.slice (some { block := w.heap.size, off := 0 }) 0 0] false 1 0 false) = W2 at hst2 ⊢
      clear hst hc6 W1
      refine wpB_of_wp ?_
      go_wp2_with fail
      have hst3 := st_chan hst2 #[] 1 1
      have hget : Calls Yba.prog 7 #[.chan (some (w.heap.size + 1))] W2 fun e w' => e = .returned (.slice (some ⟨w.heap.size, 0, none⟩) 0 0) ∧ (W2.setChan (w.heap.size + 1) 1 #[] false 1 1 false) = w' := (get_one _ 1 _ W2 hst2.chan).mono (by rintro e w' ⟨rfl, rfl⟩; exact ⟨rfl, rfl⟩)
      generalize (W2.setChan (w.heap.size + 1) 1 #[] false 1 1 false) = W3 at hst3 hget
      have hsome : ∀ j, j < n → (W3.cell? ⟨w.heap.size, j, none⟩).isSome = true := fun j hj => by
        obtain ⟨⟨v, hv⟩, _⟩ := hst3.row j (by omega)
        rw [hv]
        rfl
      refine (copy_room a n c 0 0 (w.heap.size + 2) w.heap.size (.chan (some (w.heap.size + 1))) _ W2 W3 hst2.c6 hget (by omega) (src_none a n c W3 hn1) hsome (fun j hj => (hst3.row j (by omega)).2)).mono ?_
      clear hget hst2
      rintro e w3 ⟨rfl, hw3⟩
      have e1 : w3.heap[w.heap.size + 1]? = some (.chan 1 #[] false 1 1 false) := by rw [hw3, heap_setCells_other _ _ (by omega)]; exact hst3.chan
      have e2 : w3.cell? ⟨w.heap.size + 2, 6, none⟩ = some (.chan (some (w.heap.size + 1))) := by
        rw [hw3, World.cell?_setCells_out _ _ _ _ _ (fun h => absurd h (by simp))]
        exact hst3.c6
      have hbel : Below w.heap.size w w3 := by rw [hw3]; exact below_cells hst3.below (Nat.le_refl _) _ _
      clear hw3 hsome hst3 W3 W2
      have hlen : ∀ ty, (Builtin.len_ #[32] ty #[.chan (some (w.heap.size + 1))]).run Yba.prog w3 = .ok (.int .i64 0) w3 := fun ty => run_len_chan (P := Yba.prog) 32 ty Yba.underlying32 e1
      clear e1
      go_wp2_with fail
      refine (eq_none _ _ n _ _ _ hn1).mono ?_
      rintro e w4 ⟨rfl, m, rfl⟩
      clear hlen e2
      have hCn : (n : Int) ≤ 0 := by omega
      go_wp2_with fail
      go_loopw [14] (fun i wr => ∃ k m : Nat, k ≤ n ∧ i = .int .i64 k ∧ wr = w3.drewN m) (fun i _ => n - (intOf i).toNat)
      case atStart => exact ⟨0, m, Nat.zero_le _, rfl, rfl⟩
      case round =>
        obtain ⟨k, m, hk, rfl, rfl⟩ := hrel
        have hk0 : ¬ (k : Int) < (n : Int) := by omega
        go_wp2
        go_ret
        exact ⟨rfl, below_drewN hbel _⟩

theorem pooled_big (a : Option Addr) (n c : Nat) (bs kk : Int) (w : World) (hn : (n : Int) > 4096) :
    Calls Yba.prog 4 #[.slice a n c, .int .u16 bs, .int .u8 kk] w fun e w' => e = .returned (.bool true) ∧ Below w.heap.size w w' := by
  go_enter Yba.func4, Yba.ntmps4
  go_wp2_with fail
  go_ret
  exact ⟨rfl, Below.refl _ _⟩

end Go.Proofs.Ybulkouk.awalks
