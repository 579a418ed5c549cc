/-
  THE SHELF's CONTRACT FOR strconv.Itoa AT THIS PROGRAM, in plain words: the tables of numbers and the fields as the kit's tools lay-shelf and lay-plain wrote them for this program; trimmed to the one contract that is used.
-/
import Derived.Shelf.LaysM
import Derived.Shelf.Strconv.Itoa3
import Derived.Test.Qxb6002464aDoorRows
namespace Go.Proofs.Qxb6002464aDoor
open Go.Shelf Go.RowKit Go.Sort Go.Lib

/-- The name of the table of powers of ten, as the row names it. -/
abbrev powName : String := Rows.fnStatusStringRoundTripRow.named.headD ""

def itoaLays_ren : Go.Shelf.Ren := ⟨fun | 171 => 15 | 243 => 21 | 246 => 28 | 283 => 30 | 284 => 31 | 285 => 32 | 286 => 33 | 129 => 36 | 317 => 35 | 318 => 37 | 319 => 38 | 320 => 39 | 337 => 40 | 338 => 41 | n => n, fun | 3 => 3 | 9 => 9 | 2 => 2 | 4 => 4 | 171 => 40 | 0 => 0 | 53 => 31 | 37 => 33 | 5 => 5 | 173 => 43 | 212 => 53 | 51 => 54 | 20 => 20 | 213 => 55 | 46 => 50 | 232 => 58 | 233 => 59 | n => n, fun | 17 => 2 | 18 => 3 | 19 => 4 | n => n⟩
theorem itoaLays : Go.Proofs.LaysM.n171 Tryd.prog itoaLays_ren := {
  mixed := by kernel_rfl
  f129 := Tryd.func36.trans (congrArg some (by kernel_rfl))
  f171 := Tryd.func15.trans (congrArg some (by kernel_rfl))
  f243 := Tryd.func21.trans (congrArg some (by kernel_rfl))
  f246 := Tryd.func28.trans (congrArg some (by kernel_rfl))
  f283 := Tryd.func30.trans (congrArg some (by kernel_rfl))
  f284 := Tryd.func31.trans (congrArg some (by kernel_rfl))
  f285 := Tryd.func32.trans (congrArg some (by kernel_rfl))
  f286 := Tryd.func33.trans (congrArg some (by kernel_rfl))
  f317 := Tryd.func35.trans (congrArg some (by kernel_rfl))
  f318 := Tryd.func37.trans (congrArg some (by kernel_rfl))
  f319 := Tryd.func38.trans (congrArg some (by kernel_rfl))
  f320 := Tryd.func39.trans (congrArg some (by kernel_rfl))
  f337 := Tryd.func40.trans (congrArg some (by kernel_rfl))
  f338 := Tryd.func41.trans (congrArg some (by kernel_rfl))
  t0 := Tryd.underlying0
  a0 := Tryd.isAgg0
  z0 := Tryd.sizeOf0
  v0 := Tryd.zeroValue0
  t2 := Tryd.underlying2
  a2 := Tryd.isAgg2
  z2 := Tryd.sizeOf2
  v2 := Tryd.zeroValue2
  t3 := Tryd.underlying3
  a3 := Tryd.isAgg3
  z3 := Tryd.sizeOf3
  v3 := Tryd.zeroValue3
  t4 := Tryd.underlying4
  a4 := Tryd.isAgg4
  z4 := Tryd.sizeOf4
  v4 := Tryd.zeroValue4
  t5 := Tryd.underlying5
  a5 := Tryd.isAgg5
  z5 := Tryd.sizeOf5
  v5 := Tryd.zeroValue5
  t9 := Tryd.underlying9
  a9 := Tryd.isAgg9
  z9 := Tryd.sizeOf9
  v9 := Tryd.zeroValue9
  t20 := Tryd.underlying20
  a20 := Tryd.isAgg20
  z20 := Tryd.sizeOf20
  v20 := Tryd.zeroValue20
  t37 := Tryd.underlying33
  a37 := Tryd.isAgg33
  z37 := Tryd.sizeOf33
  v37 := Tryd.zeroValue33
  t46 := Tryd.underlying50
  a46 := Tryd.isAgg50
  z46 := Tryd.sizeOf50
  v46 := Tryd.zeroValue50
  t51 := Tryd.underlying54
  a51 := Tryd.isAgg54
  z51 := Tryd.sizeOf54
  v51 := Tryd.zeroValue54
  t53 := Tryd.underlying31
  a53 := Tryd.isAgg31
  z53 := Tryd.sizeOf31
  v53 := Tryd.zeroValue31
  t171 := Tryd.underlying40
  a171 := Tryd.isAgg40
  z171 := Tryd.sizeOf40
  v171 := Tryd.zeroValue40
  t173 := Tryd.underlying43
  a173 := Tryd.isAgg43
  z173 := Tryd.sizeOf43
  v173 := Tryd.zeroValue43
  t212 := Tryd.underlying53
  a212 := Tryd.isAgg53
  z212 := Tryd.sizeOf53
  v212 := Tryd.zeroValue53
  t213 := Tryd.underlying55
  a213 := Tryd.isAgg55
  z213 := Tryd.sizeOf55
  t232 := Tryd.underlying58
  a232 := Tryd.isAgg58
  z232 := Tryd.sizeOf58
  v232 := Tryd.zeroValue58
  t233 := Tryd.underlying59
  a233 := Tryd.isAgg59
  z233 := Tryd.sizeOf59
  v233 := Tryd.zeroValue59
  g17 := by kernel_rfl
  g18 := by kernel_rfl
  g19 := by kernel_rfl
  i0 := by kernel_rfl
  i2 := by kernel_rfl
  i3 := by kernel_rfl
  i4 := by kernel_rfl
  i5 := by kernel_rfl
  i9 := by kernel_rfl
  i20 := by kernel_rfl
  i37 := by kernel_rfl
  i46 := by kernel_rfl
  i51 := by kernel_rfl
  i53 := by kernel_rfl
  i171 := by kernel_rfl
  i173 := by kernel_rfl
  i212 := by kernel_rfl
  i232 := by kernel_rfl
  i233 := by kernel_rfl
  m17 := by kernel_rfl
  m18 := by kernel_rfl
  m19 := by kernel_rfl }

/-- strconv.Itoa at every int: the decimal numeral; new blocks, draws. -/
theorem itoa_any (n : Int) (h0 : -9223372036854775808 ≤ n) (h1 : n ≤ 9223372036854775807) (w : World) (htab : Lib.TabIs Tryd.prog w powName .u64 Lib.pow10Tab) :
    Calls Tryd.prog 15 #[.int .i64 n] w fun e w' => e = .returned (.string ⟨(Lib.itoa n).toArray⟩) ∧ ∃ k os, w' = grow (w.drewN k) os := Any.strconv_Itoa itoaLays n h0 h1 w htab

end Go.Proofs.Qxb6002464aDoor
