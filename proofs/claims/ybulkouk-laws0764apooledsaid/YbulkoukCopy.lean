/-
  THE WALK of engine.copyOut (5), over pool.get's contracts: the pool gives nothing and nothing is to be copied · the buffer is too short: a new one · the buffer serves.
-/
import Derived.Test.YbulkoukRows
import Derived.Test.YbulkoukGet
import Derived.WalkKit
import Derived.WalkSpells
import Derived.WalkLawsBesides
import Derived.Deep.AppendSrc
namespace Go.Proofs.Ybulkouk.awalks
open Go.RowKit

/-- An append whose run is known. -/
theorem wpList_append_is {P : Program} {w w' : World} {ops : Array Oper} {rest : List Oper} {o : Oper} {a : Act} {Q : Exit → Act → World → Prop}
    (hg : o.guard = none) (s x : Operand) (t tx : TypeId) (hop : o.op = Op.call { callee := Callee.builtin Builtin.append, args := #[s, x], argTypes := #[t, tx] })
    (vs vx v : Value) (hs : a.eval s = vs) (hx : a.eval x = vx) (hrun : ∀ ty, (Builtin.append_ #[t, tx] ty #[vs, vx]).run P w = .ok v w')
    (hK : wpList P ops Q rest (a.put o.dst v) w') : wpList P ops Q (o :: rest) a w := by
  refine wpList_plain hg fun K hK' => ?_
  unfold Oper.wp
  simp [execOp, hop, resolve, invoke, builtin, hs, hx, hrun, Result.andThen]
  exact hK' _ _ hK

theorem append_nil_empty (a : Option Addr) (c : Nat) (w : World) (ty : TypeId) : (Builtin.append_ #[22, 22] ty #[.slice none 0 0, .slice a 0 c]).run Yba.prog w = .ok (.slice none 0 0) w := by
  obtain ⟨i, hi⟩ : ∃ i, Yba.prog.info? 5 = some i := Option.isSome_iff_exists.1 (by kernel_rfl)
  cases a <;> simp [Builtin.append_, run_underlying Yba.underlying22, sizeOf, typeInfo, hi, Builtin.lenOf, Builtin.firstCells, loadCells, loadCellsFrom]

theorem info5 : (Yba.prog.info? 5).map (fun i => (i.zero, i.size, i.bytes)) = some (some (.int .u8 0), 1, 1) := by kernel_rfl

/-- 'make([]byte, 0, m)'. -/
theorem make_row (m : Nat) (hm : m ≤ 8192) (w : World) : (Instr.makeSlice 22 (.int .i64 0) (.int .i64 (m : Int))).run Yba.prog w = .ok (.slice (some ⟨w.heap.size, 0, none⟩) 0 m) (w.alloc (.cells (madeCells #[.int .u8 0] m) 5)) := by
  obtain ⟨i, hi, hzz⟩ := Option.map_eq_some_iff.1 info5
  simp only [Prod.mk.injEq] at hzz
  obtain ⟨hz, hs, hb⟩ := hzz
  have h := run_make (P := Yba.prog) w 22 5 i (.int .u8 0) Yba.underlying22 hi hz .i64 .i64 0 (m : Int) (Int.le_refl _) (by omega) (by rw [hb]; omega) (by omega)
  simpa [hs, Value.cells] using h

/-- append onto an empty slice of a row that has the room. -/
theorem append_room (b n c m : Nat) (a : Option Addr) (news : List Value) (w : World) (hs : Src Yba.prog 1 22 (.slice a n c) n news w) (hroom : n ≤ m)
    (hc : ∀ j, j < n → (w.cell? ⟨b, j, none⟩).isSome = true) (hf : ∀ j, j < n → w.frozen? ⟨b, j, none⟩ = false) (ty : TypeId) :
    (Builtin.append_ #[22, 22] ty #[.slice (some ⟨b, 0, none⟩) 0 m, .slice a n c]).run Yba.prog w = .ok (.slice (some ⟨b, 0, none⟩) n m) (w.setCells b 0 news) := by
  obtain ⟨i, hi, hzz⟩ := Option.map_eq_some_iff.1 info5
  simp only [Prod.mk.injEq] at hzz
  obtain ⟨hz, hsz, hb⟩ := hzz
  have hl : news.length = n := by have := hs.newsLen; omega
  have h := run_append_room_src (P := Yba.prog) w 22 22 ty 5 i Yba.underlying22 hi b 0 0 m (.slice a n c) n news (by rw [hsz]; exact hs) (by omega)
    (fun j hj => by simpa using hc j (by omega)) (fun j hj => by simpa using hf j (by omega))
  simpa using h

/-- The pool is nil, nothing is to be copied: nil. -/
theorem copy_none (a : Option Addr) (c be : Nat) (w : World) (h6 : w.cell? ⟨be, 6, none⟩ = some (.chan none)) :
    Calls Yba.prog 5 #[.pointer (some ⟨be, 0, none⟩), .slice a 0 c] w fun e w' => e = .returned (.slice none 0 0) ∧ w' = w := by
  go_enter Yba.func5, Yba.ntmps5
  go_wp2_with fail
  refine (get_nil _).mono ?_
  rintro e w1 ⟨rfl, rfl⟩
  have HA : Hid (∀ ty, (Builtin.append_ #[22, 22] ty #[.slice none 0 0, .slice a 0 c]).run Yba.prog w1 = .ok (.slice none 0 0) w1) := append_nil_empty a c w1
  go_wp2_with (at_builtin; refine wpList_append_is rfl _ _ _ _ rfl _ _ _ rfl rfl HA.out ?_)
  go_ret
  exact ⟨rfl, rfl⟩

/-- The buffer serves. -/
theorem copy_room (a : Option Addr) (n c lb cb be bb : Nat) (ch : Value) (news : List Value) (w w2 : World) (h6 : w.cell? ⟨be, 6, none⟩ = some ch)
    (hget : Calls Yba.prog 7 #[ch] w fun e w' => e = .returned (.slice (some ⟨bb, 0, none⟩) lb cb) ∧ w2 = w') (hle : ¬ (cb : Int) < (n : Int))
    (hs : Src Yba.prog 1 22 (.slice a n c) n news w2) (hc : ∀ j, j < n → (w2.cell? ⟨bb, j, none⟩).isSome = true) (hf : ∀ j, j < n → w2.frozen? ⟨bb, j, none⟩ = false) :
    Calls Yba.prog 5 #[.pointer (some ⟨be, 0, none⟩), .slice a n c] w fun e w' => e = .returned (.slice (some ⟨bb, 0, none⟩) n cb) ∧ w' = w2.setCells bb 0 news := by
  have HG : Hid (Calls Yba.prog 7 #[ch] w fun e w' => e = .returned (.slice (some ⟨bb, 0, none⟩) lb cb) ∧ w2 = w') := hget
  have HA : Hid (∀ ty, (Builtin.append_ #[22, 22] ty #[.slice (some ⟨bb, 0, none⟩) 0 cb, .slice a n c]).run Yba.prog w2 = .ok (.slice (some ⟨bb, 0, none⟩) n cb) (w2.setCells bb 0 news)) := append_room bb n c cb a news w2 hs (by omega) hc hf
  clear hget hs hc hf
  go_enter Yba.func5, Yba.ntmps5
  go_wp2_with fail
  refine HG.out.mono ?_
  rintro e w1 ⟨rfl, rfl⟩
  go_wp2_with (at_builtin; refine wpList_append_is rfl _ _ _ _ rfl _ _ _ rfl rfl HA.out ?_)
  go_ret
  exact ⟨rfl, rfl⟩

/-- The buffer is too short: a new one of capacity max(n, B). -/
theorem copy_new (a b : Option Addr) (n c lb cb be B m : Nat) (ch : Value) (news : List Value) (w w2 : World) (h6 : w.cell? ⟨be, 6, none⟩ = some ch) (h1 : w2.cell? ⟨be, 1, none⟩ = some (.int .i64 (B : Int)))
    (hget : Calls Yba.prog 7 #[ch] w fun e w' => e = .returned (.slice b lb cb) ∧ w2 = w') (hlt : (cb : Int) < (n : Int)) (hn : n ≤ 4096) (hB : B ≤ 511) (hm : (n < B ∧ m = B) ∨ (B ≤ n ∧ m = n))
    (hs : Src Yba.prog 1 22 (.slice a n c) n news (w2.alloc (.cells (madeCells #[.int .u8 0] m) 5))) :
    Calls Yba.prog 5 #[.pointer (some ⟨be, 0, none⟩), .slice a n c] w fun e w' => e = .returned (.slice (some ⟨w2.heap.size, 0, none⟩) n m) ∧ w' = (w2.alloc (.cells (madeCells #[.int .u8 0] m) 5)).setCells w2.heap.size 0 news := by
  have HG : Hid (Calls Yba.prog 7 #[ch] w fun e w' => e = .returned (.slice b lb cb) ∧ w2 = w') := hget
  have hnm : n ≤ m := by omega
  have hc : ∀ j, j < n → ((w2.alloc (.cells (madeCells #[.int .u8 0] m) 5)).cell? ⟨w2.heap.size, j, none⟩).isSome = true := by
    intro j hj
    rw [World.cell?_alloc_new]
    simp [size_madeCells]
    omega
  have hf : ∀ j, j < n → (w2.alloc (.cells (madeCells #[.int .u8 0] m) 5)).frozen? ⟨w2.heap.size, j, none⟩ = false := by
    intro j hj
    simp
  have HA : Hid (∀ ty, (Builtin.append_ #[22, 22] ty #[.slice (some ⟨w2.heap.size, 0, none⟩) 0 m, .slice a n c]).run Yba.prog (w2.alloc (.cells (madeCells #[.int .u8 0] m) 5)) = .ok (.slice (some ⟨w2.heap.size, 0, none⟩) n m) ((w2.alloc (.cells (madeCells #[.int .u8 0] m) 5)).setCells w2.heap.size 0 news)) := append_room _ n c m a news _ hs hnm hc hf
  clear hget hs hc hf
  rcases hm with ⟨hm, rfl⟩ | ⟨hm, rfl⟩
  · have hmk := make_row m (by omega)
    go_enter Yba.func5, Yba.ntmps5
    go_wp2_with fail
    refine HG.out.mono ?_
    rintro e w1 ⟨rfl, rfl⟩
    go_wp2_with (at_builtin; refine wpList_append_is rfl _ _ _ _ rfl _ _ _ rfl rfl HA.out ?_)
    go_ret
    exact ⟨rfl, rfl⟩
  · have hmk := make_row m (by omega)
    go_enter Yba.func5, Yba.ntmps5
    go_wp2_with fail
    refine HG.out.mono ?_
    rintro e w1 ⟨rfl, rfl⟩
    go_wp2_with (at_builtin; refine wpList_append_is rfl _ _ _ _ rfl _ _ _ rfl rfl HA.out ?_)
    go_ret
    exact ⟨rfl, rfl⟩

end Go.Proofs.Ybulkouk.awalks
