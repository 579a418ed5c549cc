/-
  THE SHELF's CONTRACT FOR slices.BinarySearch AT THIS PROGRAM's []int64, in plain words: the table of numbers and the fields as the kit's tools lay-shelf and lay-plain wrote them for this program; trimmed to the one contract that is used.
-/
import Derived.Ground.SlgnProg
import Derived.Shelf.SlicesG.SearchI
import Derived.Test.Qxb6600607aProg
namespace Go.Proofs.Qxb6600607a
open Go.Shelf Go.RowKit Go.Lib

def searchLays_ren : Go.Shelf.Ren := ⟨fun | 49 => 16 | 59 => 17 | 60 => 18 | 68 => 19 | n => n, fun | 22 => 22 | 23 => 2 | 3 => 3 | 4 => 4 | 51 => 38 | 0 => 0 | n => n, fun | n => n⟩
theorem searchLays : Go.Proofs.SlLaysN.n49 Try.prog searchLays_ren := {
  mixed := by kernel_rfl
  f49 := ⟨Try.f16.name, by decide, Try.func16.trans (congrArg some (by kernel_rfl))⟩
  f59 := ⟨Try.f17.name, by decide, Try.func17.trans (congrArg some (by kernel_rfl))⟩
  f60 := ⟨Try.f18.name, by decide, Try.func18.trans (congrArg some (by kernel_rfl))⟩
  f68 := ⟨Try.f19.name, by decide, Try.func19.trans (congrArg some (by kernel_rfl))⟩
  t0 := Try.underlying0
  a0 := Try.isAgg0
  z0 := Try.sizeOf0
  v0 := Try.zeroValue0
  t3 := Try.underlying3
  a3 := Try.isAgg3
  z3 := Try.sizeOf3
  v3 := Try.zeroValue3
  t4 := Try.underlying4
  a4 := Try.isAgg4
  z4 := Try.sizeOf4
  v4 := Try.zeroValue4
  t22 := Try.underlying22
  a22 := Try.isAgg22
  z22 := Try.sizeOf22
  v22 := Try.zeroValue22
  t23 := Try.underlying2
  a23 := Try.isAgg2
  z23 := Try.sizeOf2
  v23 := Try.zeroValue2
  t51 := Try.underlying38
  a51 := Try.isAgg38
  z51 := Try.sizeOf38
  v51 := Try.zeroValue38 }

theorem search_any (b off n c : Nat) (zs : List Int) (x : Int) (w : World) (hz : n ≤ zs.length) (hbig : n < 4611686018427387904) (hc : ∀ j, j < zs.length → w.cell? ⟨b, off + j, none⟩ = some (.int .i64 (zs.getD j 0))) (hs : (zs.take n).Pairwise (· ≤ ·)) :
    Calls Try.prog 16 #[.slice (some ⟨b, off, none⟩) n c, .int .i64 x] w fun e w' => e = .returned (.tuple #[.int .i64 ((zs.take n).countP (· < x) : Nat), .bool ((zs.take n).contains x)]) ∧ ∃ q, w' = w.drewN q := AnyG.slices_BinarySearch_int searchLays b off n c zs x w hz hbig hc hs

end Go.Proofs.Qxb6600607a
