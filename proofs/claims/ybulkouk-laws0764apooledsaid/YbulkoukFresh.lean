/-
  THE WALK of 'LawS0764AFresh'.
-/
import Derived.Test.YbulkoukRows
import Derived.Test.YbulkoukEq
import Derived.Test.YbulkoukCopy
import Derived.OpenShut
namespace Go.Proofs.Ybulkouk.awalks
open Go.RowKit

theorem below_cells {B : Nat} {a w : World} (h : Below B a w) {b : Nat} (hb : B ≤ b) : ∀ (vs : List Value) (o : Nat), Below B a (w.setCells b o vs)
  | vs, o => by
    induction vs generalizing o w with
    | nil => exact h
    | cons v vs ih => exact ih (h.setCell (p := ⟨b, o, none⟩) hb v) (o + 1)

/-- The cells of a slice of bytes that came in, as a source of an append in a later world. -/
theorem src_later {w wx : World} (b off n c : Nat) (zs : List Int) (hz : n ≤ zs.length) (hc : ∀ j, j < zs.length → w.cell? ⟨b, off + j, none⟩ = some (.int .u8 (zs.getD j 0))) (hb : Below w.heap.size w wx) :
    Src Yba.prog 1 22 (.slice (some ⟨b, off, none⟩) n c) n ((zs.take n).map (Value.int .u8)) wx := by
  refine Src.ofSlice wx Yba.underlying22 _ n c _ (by simp; omega) (fun j u hj => ?_) (fun u hu => ?_)
  · rw [List.getElem?_map, Option.map_eq_some_iff] at hj
    obtain ⟨z, hz1, rfl⟩ := hj
    have hlt : j < zs.length := by
      have := (List.getElem?_eq_some_iff.1 hz1).1
      simp at this; omega
    have hcell := hc j hlt
    have e : zs.getD j 0 = z := by
      rw [List.getElem?_take] at hz1
      split at hz1
      · simp [List.getD, hz1]
      · cases hz1
    rw [e] at hcell
    rw [Addr.add_lit]
    exact cell_later hb hcell
  · obtain ⟨z, _, rfl⟩ := List.mem_map.1 hu
    rfl

/-- What a row holds behind the append. -/
theorem row_holds {w : World} (b n : Nat) (zs : List Int) (hz : n ≤ zs.length) (hc : ∀ j, j < n → (w.cell? ⟨b, j, none⟩).isSome = true) :
    ∀ i, i < n → (w.setCells b 0 ((zs.take n).map (Value.int .u8))).cell? ⟨b, 0 + i, none⟩ = some (.int .u8 (zs.getD i 0)) := by
  intro i hi
  have hl : ((zs.take n).map (Value.int .u8)).length = n := by simp; omega
  rw [World.cell?_setCells_in b _ 0 w (fun j hj => by simpa using hc j (by omega)) i (by omega)]
  simp [List.getD]
  rw [List.getElem?_eq_getElem (by omega)]
  rfl

theorem fresh_big (a : Option Addr) (n c : Nat) (bs : Int) (w : World) (hn : (n : Int) > 4096) :
    Calls Yba.prog 3 #[.slice a n c, .int .u16 bs] w fun e w' => e = .returned (.bool true) ∧ Below w.heap.size w w' := by
  go_enter Yba.func3, Yba.ntmps3
  go_wp2_with fail
  go_ret
  exact ⟨rfl, Below.refl _ _⟩

theorem fresh_empty (a : Option Addr) (c : Nat) (bs : Int) (w : World) (h0 : 0 ≤ bs) (h1 : bs ≤ 65535) :
    Calls Yba.prog 3 #[.slice a 0 c, .int .u16 bs] w fun e w' => e = .returned (.bool true) ∧ Below w.heap.size w w' := by
  go_enter Yba.func3, Yba.ntmps3
  go_wp2_with fail
  refine (copy_none _ _ _ _ ?_).mono ?_
  · go_simp
  rintro e w1 ⟨rfl, rfl⟩
  go_wp2_with fail
  refine (eq_empty _ _ _ _ _).mono ?_
  rintro e w1 ⟨rfl, m, rfl⟩
  go_wp2_with fail
  go_ret
  exact ⟨rfl, below_drewN ((Below.refl _ _).alloc (Nat.le_refl _) _) _⟩

set_option maxHeartbeats 400000 in
theorem fresh_full (b off n c : Nat) (zs : List Int) (bs : Int) (w : World) (h0 : 0 ≤ bs) (h1 : bs ≤ 65535) (hn0 : 0 < n) (hn : n ≤ 4096) (hz : n ≤ zs.length)
    (hc : ∀ j, j < zs.length → w.cell? ⟨b, off + j, none⟩ = some (.int .u8 (zs.getD j 0))) :
    Calls Yba.prog 3 #[.slice (some ⟨b, off, none⟩) n c, .int .u16 bs] w fun e w' => e = .returned (.bool true) ∧ Below w.heap.size w w' := by
  have HC : Hid (∀ j, j < zs.length → w.cell? ⟨b, off + j, none⟩ = some (.int .u8 (zs.getD j 0))) := hc
  clear hc
  have hn1 : ¬ (n : Int) > 4096 := by omega
  have hn2 : ((n : Int) == 0) = false := by rw [beq_eq_false_iff_ne]; omega
  go_enter Yba.func3, Yba.ntmps3
  go_wp2_with fail
  obtain ⟨B, hB⟩ := Int.eq_ofNat_of_zero_le (show 0 ≤ bs % 512 by omega)
  have hB2 : B ≤ 511 := by omega
  rw [hB]
  clear hB h0 h1
  obtain ⟨m, hm⟩ : ∃ m, (n < B ∧ m = B) ∨ (B ≤ n ∧ m = n) := by
    by_cases h : n < B
    · exact ⟨B, .inl ⟨h, rfl⟩⟩
    · exact ⟨n, .inr ⟨by omega, rfl⟩⟩
  generalize hE : (Obj.cells #[Value.pointer none, Value.int IntKind.i64 (B : Int), Value.nilFunc, Value.nilFunc, Value.chan none, Value.chan none, Value.chan none, Value.chan none] 36) = E
  have h6 : (w.alloc E).cell? ⟨w.heap.size, 6, none⟩ = some (.chan none) := by rw [← hE]; simp
  have h1 : (w.alloc E).cell? ⟨w.heap.size, 1, none⟩ = some (.int .i64 (B : Int)) := by rw [← hE]; simp
  clear hE
  have hbel : Below w.heap.size w ((w.alloc E).alloc (.cells (madeCells #[.int .u8 0] m) 5)) := ((Below.refl _ _).alloc (Nat.le_refl _) _).alloc (by simp) _
  have hget : Calls Yba.prog 7 #[.chan none] (w.alloc E) fun e w' => e = .returned (.slice none 0 0) ∧ (w.alloc E) = w' := (get_nil _).mono (by rintro e w' ⟨rfl, rfl⟩; exact ⟨rfl, rfl⟩)
  refine (copy_new _ none n c 0 0 w.heap.size B m (.chan none) _ _ (w.alloc E) h6 h1 hget (by omega) hn hB2 hm (src_later b off n c zs hz HC.out hbel)).mono ?_
  clear h6 h1 hget
  rintro e w1 ⟨rfl, hw1⟩
  have hcs : ∀ j, j < n → (((w.alloc E).alloc (.cells (madeCells #[.int .u8 0] m) 5)).cell? ⟨(w.alloc E).heap.size, j, none⟩).isSome = true := by
    intro j hj
    rw [World.cell?_alloc_new]
    simp [size_madeCells]
    omega
  have hrow := row_holds (w := (w.alloc E).alloc (.cells (madeCells #[.int .u8 0] m) 5)) (w.alloc E).heap.size n zs hz hcs
  have hbel1 : Below w.heap.size w w1 := by rw [hw1]; exact below_cells hbel (by simp) _ _
  rw [← hw1] at hrow
  clear hw1 hcs hbel
  have hdat : ∀ i, i < n → w1.cell? ⟨b, off + i, none⟩ = some (.int .u8 (zs.getD i 0)) := fun i hi => cell_later hbel1 (HC.out i (by omega))
  have HR : Hid (∀ i, i < n → w1.cell? ⟨(w.alloc E).heap.size, 0 + i, none⟩ = some (.int .u8 (zs.getD i 0))) := hrow
  have HD : Hid (∀ i, i < n → w1.cell? ⟨b, off + i, none⟩ = some (.int .u8 (zs.getD i 0))) := hdat
  clear hrow hdat HC
  generalize (w.alloc E).heap.size = bb at *
  go_wp2_with fail
  refine (eq_full bb 0 b off n m c (fun i => zs.getD i 0) w1 hn HR.out HD.out).mono ?_
  rintro e w2 ⟨rfl, k, rfl⟩
  rcases hm with ⟨hm, rfl⟩ | ⟨hm, rfl⟩
  · go_wp2_with fail
    go_ret
    exact ⟨rfl, below_drewN hbel1 _⟩
  · have hm' : ¬ (m : Int) < (B : Int) := by omega
    go_wp2_with fail
    go_ret
    exact ⟨rfl, below_drewN hbel1 _⟩

end Go.Proofs.Ybulkouk.awalks
