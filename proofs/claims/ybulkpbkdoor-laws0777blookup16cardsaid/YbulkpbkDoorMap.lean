/-
  WHAT THE LAWS' MAP IS KNOWN TO HOLD AT ONE KEY, in plain words; the walks of valueName (6, 7).
-/
import Derived.Test.YbulkpbkDoorFmt
import Derived.Test.YbulkpbkDoorDec
import Derived.Maps.OwnSet
import Derived.Maps.StringElems
import Derived.WalkSpells
import Derived.WalkLawsBesides
namespace Go.Proofs.YbulkpbkDoor.bwalks
open Go.RowKit Go.Maps

/-- Is the key v among the first k? -/
def hit (v : Int) (ks : List Int) : Nat → Bool
  | 0 => false
  | k + 1 => if ks.getD k 0 = v then true else hit v ks k
/-- What it was given last; d where it was given nothing. -/
def last (v : Int) (ks : List Int) (ss : List ByteArray) (d : ByteArray) : Nat → ByteArray
  | 0 => d
  | k + 1 => if ks.getD k 0 = v then ss.getD k ByteArray.empty else last v ks ss d k

theorem last_miss (v : Int) (ks : List Int) (ss : List ByteArray) (d : ByteArray) : ∀ k, hit v ks k = false → last v ks ss d k = d
  | 0, _ => rfl
  | k + 1, h => by
    unfold hit at h
    unfold last
    split at h
    · cases h
    · rename_i hn
      rw [if_neg hn]
      exact last_miss v ks ss d k h

/-- At the key kl the map holds s, or nothing. -/
structure Look (D : DataW Unit) (kl : Lit) (h : Bool) (s : ByteArray) : Prop where
  has : Maps.has D kl = h
  there : h = true → ∀ z, D.atKey kl z = .lit (.string s.data.toList)

theorem look_made (kl : Lit) (s : ByteArray) : Look (.map []) kl false s := ⟨rfl, fun h => by cases h⟩
theorem look_same {D : DataW Unit} {kl : Lit} {h : Bool} {s : ByteArray} (_ : Look D kl h s) (hD : IsMap D) (hk : WideAt.IsKeyLit kl) (t : ByteArray) : Look (D.put kl (.lit (.string t.data.toList))) kl true t :=
  ⟨Maps.has_put_same hD hk _, fun _ z => Maps.atKey_put_same hD hk _ z⟩
theorem look_other {D : DataW Unit} {kl kl' : Lit} {h : Bool} {s : ByteArray} (L : Look D kl h s) (hne : kl ≠ kl') (d : DataW Unit) : Look (D.put kl' d) kl h s :=
  ⟨(Maps.has_put_other hne d).trans L.has, fun hh z => (Maps.atKey_put_other hne d z).trans (L.there hh z)⟩

theorem string_inj {s t : ByteArray} (h : s.data.toList = t.data.toList) : s = t := by
  cases s; cases t
  simp only [Array.toList_inj] at h
  rw [h]

theorem zero9 (w : World) : (zeroValue 9).run Ybad.prog w = .ok (.string ⟨#[]⟩) w := by kernel_rfl

/-- A look-up at the key, in whatever later world. -/
theorem look_run {w : World} {t k b n : Nat} {D : DataW Unit} {kl : Lit} {h : Bool} {s : ByteArray} {key : Value} (hown : w.ownsMap Ybad.prog k (plainElem Ybad.prog 9) b n D) (K : Keyed Ybad.prog k)
    (ht : Ybad.prog.underlying t = some (.map k 9)) (hkey : keyOf Ybad.prog k key = some kl) (L : Look D kl h s) :
    ∃ x : ByteArray, (Instr.lookup t (.map (some b)) key true).run Ybad.prog w = .ok (.tuple #[.string x, .bool h]) w ∧ (h = true → x = s) := by
  obtain ⟨v, ps, hrun, hv⟩ := hown.look_ok (zd := .lit (.string [])) (zp := []) K ht (zero9 w) (plainElem_string Ybad.underlying9 (s := ⟨#[]⟩) (by decide)) hkey
  obtain ⟨x, rfl, hx, _⟩ := plainElem_string_inv Ybad.underlying9 hv
  rw [L.has] at hrun
  refine ⟨x, hrun, fun hh => ?_⟩
  rw [L.there hh] at hx
  simp only [Prod.mk.injEq, DataW.lit.injEq, Lit.string.injEq] at hx
  exact (string_inj hx.1).symm

theorem value16_hit (v : Int) (mv : Value) (s : ByteArray) (w : World) (hl : (Instr.lookup 25 mv (.int .u16 v) true).run Ybad.prog w = .ok (.tuple #[.string s, .bool true]) w) :
    Calls Ybad.prog 6 #[.int .u16 v, mv] w fun e w' => e = .returned (.string s) ∧ Below w.heap.size w w' := by
  go_enter Ybad.func6, Ybad.ntmps6
  go_wp2_with fail
  go_ret
  exact ⟨rfl, Below.refl _ _⟩

theorem value16_miss (v : Nat) (hv : v ≤ 65535) (mv : Value) (s : ByteArray) (w : World) (hl : (Instr.lookup 25 mv (.int .u16 (v : Int)) true).run Ybad.prog w = .ok (.tuple #[.string s, .bool false]) w)
    (htab : Lib.TabIs Ybad.prog w (Rows.lawS0777BLookup16Row.named.headD "") .u64 Lib.pow10Tab) :
    Calls Ybad.prog 6 #[.int .u16 (v : Int), mv] w fun e w' => e = .returned (.string ⟨(Lib.decDigits v).toArray⟩) ∧ Below w.heap.size w w' := by
  have HF := Lib.hid (format v (by omega) w htab)
  clear htab
  go_enter Ybad.func6, Ybad.ntmps6
  go_wp2_with fail
  refine HF.out.mono ?_
  rintro e w' ⟨rfl, hb⟩
  have HB := Lib.hid hb
  clear hb hl
  go_wp2_with fail
  go_ret
  exact ⟨rfl, HB.out⟩

theorem value32_hit (v : Int) (mv : Value) (s : ByteArray) (w : World) (hl : (Instr.lookup 32 mv (.int .u32 v) true).run Ybad.prog w = .ok (.tuple #[.string s, .bool true]) w) :
    Calls Ybad.prog 7 #[.int .u32 v, mv] w fun e w' => e = .returned (.string s) ∧ Below w.heap.size w w' := by
  go_enter Ybad.func7, Ybad.ntmps7
  go_wp2_with fail
  go_ret
  exact ⟨rfl, Below.refl _ _⟩

theorem value32_miss (v : Nat) (hv : v ≤ 4294967295) (mv : Value) (s : ByteArray) (w : World) (hl : (Instr.lookup 32 mv (.int .u32 (v : Int)) true).run Ybad.prog w = .ok (.tuple #[.string s, .bool false]) w)
    (htab : Lib.TabIs Ybad.prog w (Rows.lawS0777BLookup16Row.named.headD "") .u64 Lib.pow10Tab) :
    Calls Ybad.prog 7 #[.int .u32 (v : Int), mv] w fun e w' => e = .returned (.string ⟨(Lib.decDigits v).toArray⟩) ∧ Below w.heap.size w w' := by
  have HF := Lib.hid (format v (by omega) w htab)
  clear htab
  go_enter Ybad.func7, Ybad.ntmps7
  go_wp2_with fail
  refine HF.out.mono ?_
  rintro e w' ⟨rfl, hb⟩
  have HB := Lib.hid hb
  clear hb hl
  go_wp2_with fail
  go_ret
  exact ⟨rfl, HB.out⟩

end Go.Proofs.YbulkpbkDoor.bwalks
