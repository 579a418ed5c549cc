/-
  THE SHELF's CONTRACTS FOR internal/strconv.small, numDigits, formatBase10 AT THIS PROGRAM, in plain words: the tables of numbers and the fields as the kit's tools lay-shelf and lay-plain wrote them for this program; trimmed to the three that are used.
-/
import Derived.Shelf.LaysM
import Derived.Shelf.Strconv.Itoa1
import Derived.Shelf.Strconv.Itoa2
import Derived.Test.Qxb6600469aDoorRows
namespace Go.Proofs.Qxb6600469aDoor
open Go.Shelf Go.RowKit Go.Sort Go.Lib

/-- The name of the table of powers of ten, as the row names it. -/
abbrev powName : String := Rows.fnWireTypeStringCaseTableRow.named.headD ""

def smallLays_ren : Go.Shelf.Ren := ⟨fun | 283 => 26 | n => n, fun | 3 => 3 | 9 => 9 | 4 => 4 | n => n, fun | n => n⟩
theorem smallLays : Go.Proofs.Lays.n283 Tryd.prog smallLays_ren := {
  mixed := by kernel_rfl
  f283 := Tryd.func26.trans (congrArg some (by kernel_rfl))
  t3 := Tryd.underlying3
  a3 := Tryd.isAgg3
  z3 := Tryd.sizeOf3
  v3 := Tryd.zeroValue3
  t4 := Tryd.underlying4
  a4 := Tryd.isAgg4
  z4 := Tryd.sizeOf4
  v4 := Tryd.zeroValue4
  t9 := Tryd.underlying9
  a9 := Tryd.isAgg9
  z9 := Tryd.sizeOf9
  v9 := Tryd.zeroValue9 }
def digitsLays_ren : Go.Shelf.Ren := ⟨fun | 284 => 27 | 129 => 35 | 317 => 34 | 318 => 36 | n => n, fun | 53 => 22 | 3 => 3 | 212 => 72 | 0 => 0 | 4 => 4 | 46 => 76 | 5 => 5 | 9 => 9 | n => n, fun | 17 => 0 | n => n⟩
theorem digitsLays : Go.Proofs.LaysM.n284 Tryd.prog digitsLays_ren := {
  mixed := by kernel_rfl
  f129 := Tryd.func35.trans (congrArg some (by kernel_rfl))
  f284 := Tryd.func27.trans (congrArg some (by kernel_rfl))
  f317 := Tryd.func34.trans (congrArg some (by kernel_rfl))
  f318 := Tryd.func36.trans (congrArg some (by kernel_rfl))
  t0 := Tryd.underlying0
  a0 := Tryd.isAgg0
  z0 := Tryd.sizeOf0
  v0 := Tryd.zeroValue0
  t3 := Tryd.underlying3
  a3 := Tryd.isAgg3
  z3 := Tryd.sizeOf3
  v3 := Tryd.zeroValue3
  t4 := Tryd.underlying4
  a4 := Tryd.isAgg4
  z4 := Tryd.sizeOf4
  v4 := Tryd.zeroValue4
  t5 := Tryd.underlying5
  a5 := Tryd.isAgg5
  z5 := Tryd.sizeOf5
  v5 := Tryd.zeroValue5
  t9 := Tryd.underlying9
  a9 := Tryd.isAgg9
  z9 := Tryd.sizeOf9
  v9 := Tryd.zeroValue9
  t46 := Tryd.underlying76
  a46 := Tryd.isAgg76
  z46 := Tryd.sizeOf76
  v46 := Tryd.zeroValue76
  t53 := Tryd.underlying22
  a53 := Tryd.isAgg22
  z53 := Tryd.sizeOf22
  v53 := Tryd.zeroValue22
  t212 := Tryd.underlying72
  a212 := Tryd.isAgg72
  z212 := Tryd.sizeOf72
  v212 := Tryd.zeroValue72
  g17 := by kernel_rfl
  i0 := by kernel_rfl
  i3 := by kernel_rfl
  i4 := by kernel_rfl
  i5 := by kernel_rfl
  i9 := by kernel_rfl
  i46 := by kernel_rfl
  i53 := by kernel_rfl
  i212 := by kernel_rfl
  m17 := by kernel_rfl }
def base10Lays_ren : Go.Shelf.Ren := ⟨fun | 285 => 28 | n => n, fun | 37 => 63 | 53 => 22 | 3 => 3 | 4 => 4 | 51 => 73 | 9 => 9 | 5 => 5 | 0 => 0 | n => n, fun | n => n⟩
theorem base10Lays : Go.Proofs.Lays.n285 Tryd.prog base10Lays_ren := {
  mixed := by kernel_rfl
  f285 := Tryd.func28.trans (congrArg some (by kernel_rfl))
  t0 := Tryd.underlying0
  a0 := Tryd.isAgg0
  z0 := Tryd.sizeOf0
  v0 := Tryd.zeroValue0
  t3 := Tryd.underlying3
  a3 := Tryd.isAgg3
  z3 := Tryd.sizeOf3
  v3 := Tryd.zeroValue3
  t4 := Tryd.underlying4
  a4 := Tryd.isAgg4
  z4 := Tryd.sizeOf4
  v4 := Tryd.zeroValue4
  t5 := Tryd.underlying5
  a5 := Tryd.isAgg5
  z5 := Tryd.sizeOf5
  v5 := Tryd.zeroValue5
  t9 := Tryd.underlying9
  a9 := Tryd.isAgg9
  z9 := Tryd.sizeOf9
  v9 := Tryd.zeroValue9
  t37 := Tryd.underlying63
  a37 := Tryd.isAgg63
  z37 := Tryd.sizeOf63
  v37 := Tryd.zeroValue63
  t51 := Tryd.underlying73
  a51 := Tryd.isAgg73
  z51 := Tryd.sizeOf73
  v51 := Tryd.zeroValue73
  t53 := Tryd.underlying22
  a53 := Tryd.isAgg22
  z53 := Tryd.sizeOf22
  v53 := Tryd.zeroValue22 }

theorem small_any (i : Nat) (h : i < 100) (w : World) :
    Calls Tryd.prog 26 #[.int .i64 i] w fun e w' => e = .returned (.string ⟨(Lib.decDigits i).toArray⟩) ∧ w' = w := Any.internal_strconv_small smallLays i h w

theorem digits_any (u : Nat) (h1 : 1 ≤ u) (h2 : u < 18446744073709551616) (w : World) (htab : Lib.TabIs Tryd.prog w powName .u64 Lib.pow10Tab) :
    Calls Tryd.prog 27 #[.int .u64 u] w fun e w' => e = .returned (.int .i64 (Lib.nDigits u)) ∧ w' = w := Any.internal_strconv_numDigits digitsLays u h1 h2 w htab

theorem base10_any (blk off cap : Nat) (u : Nat) (d : Array UInt8) (w : World) (hH : Holds (fun (b : UInt8) => Value.int .u8 (b.toNat : Int)) w blk off d) (hu : u < 10 ^ d.size) (hu64 : u < 18446744073709551616) (hsz : d.size < 4611686018427387904) :
    Calls Tryd.prog 28 #[.slice (some ⟨blk, off, none⟩) d.size cap, .int .u64 u] w fun e w' =>
      e = .returned (.tuple #[]) ∧ ∃ (n v' : Nat) (dk : Array UInt8), w' = (putRow (fun (b : UInt8) => Value.int .u8 (b.toNat : Int)) w blk off dk).drewN n ∧ FmtInv d.size u 0 v' dk := Any.internal_strconv_formatBase10 base10Lays blk off cap u d w hH hu hu64 hsz

end Go.Proofs.Qxb6600469aDoor
