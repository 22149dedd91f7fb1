/-
  THREE CONTRACTS OF THE KIT's SHELF AT THIS PROGRAM, in plain words (written by the kit's lay-shelf.mjs and lay-plain.mjs for this dump): internal/strconv.small (10), numDigits (11), formatBase10 (12).
-/
import Derived.Shelf.Strconv.Itoa0
import Derived.Shelf.Strconv.Itoa1
import Derived.Shelf.LaysM
import Derived.Shelf.Strconv.Itoa2
import Derived.Test.YbulkpbkDoorRows
namespace Go.Proofs.YbulkpbkDoor.shelf
open Go.Shelf
def lays283_ren : Go.Shelf.Ren := ⟨fun | 283 => 10 | n => n, fun | 3 => 3 | 9 => 9 | 4 => 4 | n => n, fun | n => n⟩
theorem lays283 : Go.Proofs.Lays.n283 Ybad.prog lays283_ren := {
  mixed := by kernel_rfl
  f283 := Ybad.func10.trans (congrArg some (by kernel_rfl))
  t3 := Ybad.underlying3
  a3 := Ybad.isAgg3
  z3 := Ybad.sizeOf3
  v3 := Ybad.zeroValue3
  t4 := Ybad.underlying4
  a4 := Ybad.isAgg4
  z4 := Ybad.sizeOf4
  v4 := Ybad.zeroValue4
  t9 := Ybad.underlying9
  a9 := Ybad.isAgg9
  z9 := Ybad.sizeOf9
  v9 := Ybad.zeroValue9 }
open Go.Lib in
theorem internal_strconv_small (i : Nat) (h : i < 100) (w : World) :
    Calls Ybad.prog 10 #[.int .i64 i] w fun e w' => e = .returned (.string ⟨(Lib.decDigits i).toArray⟩) ∧ w' = w := Any.internal_strconv_small lays283 i h w
def laysM284_ren : Go.Shelf.Ren := ⟨fun | 284 => 11 | 129 => 15 | 317 => 14 | 318 => 16 | n => n, fun | 53 => 27 | 3 => 3 | 212 => 47 | 0 => 0 | 4 => 4 | 46 => 50 | 5 => 5 | 9 => 9 | n => n, fun | 17 => 0 | n => n⟩
theorem laysM284 : Go.Proofs.LaysM.n284 Ybad.prog laysM284_ren := {
  mixed := by kernel_rfl
  f129 := Ybad.func15.trans (congrArg some (by kernel_rfl))
  f284 := Ybad.func11.trans (congrArg some (by kernel_rfl))
  f317 := Ybad.func14.trans (congrArg some (by kernel_rfl))
  f318 := Ybad.func16.trans (congrArg some (by kernel_rfl))
  t0 := Ybad.underlying0
  a0 := Ybad.isAgg0
  z0 := Ybad.sizeOf0
  v0 := Ybad.zeroValue0
  t3 := Ybad.underlying3
  a3 := Ybad.isAgg3
  z3 := Ybad.sizeOf3
  v3 := Ybad.zeroValue3
  t4 := Ybad.underlying4
  a4 := Ybad.isAgg4
  z4 := Ybad.sizeOf4
  v4 := Ybad.zeroValue4
  t5 := Ybad.underlying5
  a5 := Ybad.isAgg5
  z5 := Ybad.sizeOf5
  v5 := Ybad.zeroValue5
  t9 := Ybad.underlying9
  a9 := Ybad.isAgg9
  z9 := Ybad.sizeOf9
  v9 := Ybad.zeroValue9
  t46 := Ybad.underlying50
  a46 := Ybad.isAgg50
  z46 := Ybad.sizeOf50
  v46 := Ybad.zeroValue50
  t53 := Ybad.underlying27
  a53 := Ybad.isAgg27
  z53 := Ybad.sizeOf27
  v53 := Ybad.zeroValue27
  t212 := Ybad.underlying47
  a212 := Ybad.isAgg47
  z212 := Ybad.sizeOf47
  v212 := Ybad.zeroValue47
  g17 := by kernel_rfl
  i0 := by kernel_rfl
  i3 := by kernel_rfl
  i4 := by kernel_rfl
  i5 := by kernel_rfl
  i9 := by kernel_rfl
  i46 := by kernel_rfl
  i53 := by kernel_rfl
  i212 := by kernel_rfl
  m17 := by kernel_rfl }
open Go.Lib in
theorem internal_strconv_numDigits (u : Nat) (h1 : 1 ≤ u) (h2 : u < 18446744073709551616) (w : World) (htab : Lib.TabIs Ybad.prog w (Rows.lawS0777BLookup16Row.named.headD "") .u64 Lib.pow10Tab) :
    Calls Ybad.prog 11 #[.int .u64 u] w fun e w' => e = .returned (.int .i64 (Lib.nDigits u)) ∧ w' = w := Any.internal_strconv_numDigits laysM284 u h1 h2 w htab
def lays285_ren : Go.Shelf.Ren := ⟨fun | 285 => 12 | n => n, fun | 37 => 36 | 53 => 27 | 3 => 3 | 4 => 4 | 51 => 30 | 9 => 9 | 5 => 5 | 0 => 0 | n => n, fun | n => n⟩
theorem lays285 : Go.Proofs.Lays.n285 Ybad.prog lays285_ren := {
  mixed := by kernel_rfl
  f285 := Ybad.func12.trans (congrArg some (by kernel_rfl))
  t0 := Ybad.underlying0
  a0 := Ybad.isAgg0
  z0 := Ybad.sizeOf0
  v0 := Ybad.zeroValue0
  t3 := Ybad.underlying3
  a3 := Ybad.isAgg3
  z3 := Ybad.sizeOf3
  v3 := Ybad.zeroValue3
  t4 := Ybad.underlying4
  a4 := Ybad.isAgg4
  z4 := Ybad.sizeOf4
  v4 := Ybad.zeroValue4
  t5 := Ybad.underlying5
  a5 := Ybad.isAgg5
  z5 := Ybad.sizeOf5
  v5 := Ybad.zeroValue5
  t9 := Ybad.underlying9
  a9 := Ybad.isAgg9
  z9 := Ybad.sizeOf9
  v9 := Ybad.zeroValue9
  t37 := Ybad.underlying36
  a37 := Ybad.isAgg36
  z37 := Ybad.sizeOf36
  v37 := Ybad.zeroValue36
  t51 := Ybad.underlying30
  a51 := Ybad.isAgg30
  z51 := Ybad.sizeOf30
  v51 := Ybad.zeroValue30
  t53 := Ybad.underlying27
  a53 := Ybad.isAgg27
  z53 := Ybad.sizeOf27
  v53 := Ybad.zeroValue27 }
open Go.RowKit Go.Sort Go.Lib in
theorem internal_strconv_formatBase10 (blk off cap : Nat) (u : Nat) (d : Array UInt8) (w : World) (hH : Holds (fun (b : UInt8) => Value.int .u8 (b.toNat : Int)) w blk off d) (hu : u < 10 ^ d.size) (hu64 : u < 18446744073709551616) (hsz : d.size < 4611686018427387904) :
    Calls Ybad.prog 12 #[.slice (some ⟨blk, off, none⟩) d.size cap, .int .u64 u] w fun e w' =>
      e = .returned (.tuple #[]) ∧ ∃ (n v' : Nat) (dk : Array UInt8), w' = (putRow (fun (b : UInt8) => Value.int .u8 (b.toNat : Int)) w blk off dk).drewN n ∧ FmtInv d.size u 0 v' dk := Any.internal_strconv_formatBase10 lays285 blk off cap u d w hH hu hu64 hsz
end Go.Proofs.YbulkpbkDoor.shelf
