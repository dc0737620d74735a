/-
  THE SHELF's CONTRACTS AT THIS DUMP, in plain words, as the kit's lay-shelf.mjs and lay-plain.mjs wrote them for this program (internal/strconv: small, numDigits, formatBase10). 'Tab': the table of powers of ten reads as its initialiser lays it.
-/
import Derived.Shelf.LaysM
import Derived.Shelf.Strconv.Itoa1
import Derived.Shelf.Strconv.Itoa2
import Derived.Lib.ItoaMem
import Derived.Test.Qxb6616850aDoorRows
namespace Go.Proofs
open Go.Shelf

/-- The name of the table of powers of ten, off the row's own list. -/
def Qxb6616850aDoor.powName : String := ((Qxb6616850aDoor.Rows.fnCommandSplitsAtAnyCutRow.laid.map Prod.fst)[2]?).getD ""
/-- The table of powers of ten reads as its initialiser lays it. -/
def Qxb6616850aDoor.Tab (w : World) : Prop := Lib.TabIs Tryd.prog w Qxb6616850aDoor.powName .u64 Lib.pow10Tab

def Tryd.lays283_ren : Go.Shelf.Ren := ⟨fun | 283 => 49 | n => n, fun | 3 => 3 | 9 => 9 | 4 => 4 | n => n, fun | n => n⟩
theorem Tryd.lays283 : Go.Proofs.Lays.n283 Tryd.prog Tryd.lays283_ren := {
  mixed := by kernel_rfl
  f283 := Tryd.func49.trans (congrArg some (by kernel_rfl))
  t3 := Tryd.underlying3
  a3 := Tryd.isAgg3
  z3 := Tryd.sizeOf3
  v3 := Tryd.zeroValue3
  t4 := Tryd.underlying4
  a4 := Tryd.isAgg4
  z4 := Tryd.sizeOf4
  v4 := Tryd.zeroValue4
  t9 := Tryd.underlying9
  a9 := Tryd.isAgg9
  z9 := Tryd.sizeOf9
  v9 := Tryd.zeroValue9 }
open Go.Lib in
/-- internal/strconv.small. -/
theorem Tryd.internal_strconv_small (i : Nat) (h : i < 100) (w : World) :
    Calls Tryd.prog 49 #[.int .i64 i] w fun e w' => e = .returned (.string ⟨(Lib.decDigits i).toArray⟩) ∧ w' = w := Any.internal_strconv_small Tryd.lays283 i h w
def Tryd.laysM284_ren : Go.Shelf.Ren := ⟨fun | 284 => 50 | 129 => 54 | 317 => 53 | 318 => 55 | n => n, fun | 53 => 64 | 3 => 3 | 212 => 90 | 0 => 0 | 4 => 4 | 46 => 94 | 5 => 5 | 9 => 9 | n => n, fun | 17 => 1 | n => n⟩
theorem Tryd.laysM284 : Go.Proofs.LaysM.n284 Tryd.prog Tryd.laysM284_ren := {
  mixed := by kernel_rfl
  f129 := Tryd.func54.trans (congrArg some (by kernel_rfl))
  f284 := Tryd.func50.trans (congrArg some (by kernel_rfl))
  f317 := Tryd.func53.trans (congrArg some (by kernel_rfl))
  f318 := Tryd.func55.trans (congrArg some (by kernel_rfl))
  t0 := Tryd.underlying0
  a0 := Tryd.isAgg0
  z0 := Tryd.sizeOf0
  v0 := Tryd.zeroValue0
  t3 := Tryd.underlying3
  a3 := Tryd.isAgg3
  z3 := Tryd.sizeOf3
  v3 := Tryd.zeroValue3
  t4 := Tryd.underlying4
  a4 := Tryd.isAgg4
  z4 := Tryd.sizeOf4
  v4 := Tryd.zeroValue4
  t5 := Tryd.underlying5
  a5 := Tryd.isAgg5
  z5 := Tryd.sizeOf5
  v5 := Tryd.zeroValue5
  t9 := Tryd.underlying9
  a9 := Tryd.isAgg9
  z9 := Tryd.sizeOf9
  v9 := Tryd.zeroValue9
  t46 := Tryd.underlying94
  a46 := Tryd.isAgg94
  z46 := Tryd.sizeOf94
  v46 := Tryd.zeroValue94
  t53 := Tryd.underlying64
  a53 := Tryd.isAgg64
  z53 := Tryd.sizeOf64
  v53 := Tryd.zeroValue64
  t212 := Tryd.underlying90
  a212 := Tryd.isAgg90
  z212 := Tryd.sizeOf90
  v212 := Tryd.zeroValue90
  g17 := by kernel_rfl
  i0 := by kernel_rfl
  i3 := by kernel_rfl
  i4 := by kernel_rfl
  i5 := by kernel_rfl
  i9 := by kernel_rfl
  i46 := by kernel_rfl
  i53 := by kernel_rfl
  i212 := by kernel_rfl
  m17 := by kernel_rfl }
/-- internal/strconv.numDigits, at a d that is not 0. -/
theorem Tryd.internal_strconv_numDigits (u : Nat) (h1 : 1 ≤ u) (h2 : u < 18446744073709551616) (w : World) (htab : Qxb6616850aDoor.Tab w) :
    Calls Tryd.prog 50 #[.int .u64 u] w fun e w' => e = .returned (.int .i64 (Lib.nDigits u)) ∧ w' = w := Any.internal_strconv_numDigits Tryd.laysM284 u h1 h2 w htab
def Tryd.lays285_ren : Go.Shelf.Ren := ⟨fun | 285 => 51 | n => n, fun | 37 => 23 | 53 => 64 | 3 => 3 | 4 => 4 | 51 => 91 | 9 => 9 | 5 => 5 | 0 => 0 | n => n, fun | n => n⟩
theorem Tryd.lays285 : Go.Proofs.Lays.n285 Tryd.prog Tryd.lays285_ren := {
  mixed := by kernel_rfl
  f285 := Tryd.func51.trans (congrArg some (by kernel_rfl))
  t0 := Tryd.underlying0
  a0 := Tryd.isAgg0
  z0 := Tryd.sizeOf0
  v0 := Tryd.zeroValue0
  t3 := Tryd.underlying3
  a3 := Tryd.isAgg3
  z3 := Tryd.sizeOf3
  v3 := Tryd.zeroValue3
  t4 := Tryd.underlying4
  a4 := Tryd.isAgg4
  z4 := Tryd.sizeOf4
  v4 := Tryd.zeroValue4
  t5 := Tryd.underlying5
  a5 := Tryd.isAgg5
  z5 := Tryd.sizeOf5
  v5 := Tryd.zeroValue5
  t9 := Tryd.underlying9
  a9 := Tryd.isAgg9
  z9 := Tryd.sizeOf9
  v9 := Tryd.zeroValue9
  t37 := Tryd.underlying23
  a37 := Tryd.isAgg23
  z37 := Tryd.sizeOf23
  v37 := Tryd.zeroValue23
  t51 := Tryd.underlying91
  a51 := Tryd.isAgg91
  z51 := Tryd.sizeOf91
  v51 := Tryd.zeroValue91
  t53 := Tryd.underlying64
  a53 := Tryd.isAgg64
  z53 := Tryd.sizeOf64
  v53 := Tryd.zeroValue64 }
open Go.RowKit Go.Sort Go.Lib in
/-- internal/strconv.formatBase10. -/
theorem Tryd.internal_strconv_formatBase10 (blk off cap : Nat) (u : Nat) (d : Array UInt8) (w : World) (hH : Holds (fun (b : UInt8) => Value.int .u8 (b.toNat : Int)) w blk off d) (hu : u < 10 ^ d.size) (hu64 : u < 18446744073709551616) (hsz : d.size < 4611686018427387904) :
    Calls Tryd.prog 51 #[.slice (some ⟨blk, off, none⟩) d.size cap, .int .u64 u] w fun e w' =>
      e = .returned (.tuple #[]) ∧ ∃ (n v' : Nat) (dk : Array UInt8), w' = (putRow (fun (b : UInt8) => Value.int .u8 (b.toNat : Int)) w blk off dk).drewN n ∧ FmtInv d.size u 0 v' dk := Any.internal_strconv_formatBase10 Tryd.lays285 blk off cap u d w hH hu hu64 hsz
end Go.Proofs
