/-
  THE WALK of strconv.FormatUint at base 10: the decimal numeral, for every uint64.
-/
import Derived.Test.Qxb6600469aDoorShelf
import Derived.Lib.Walk
import Derived.Lib.ItoaMem
import Derived.Lib.ItoaLen
import Derived.WalkKit
import Derived.WalkSpells
import Derived.WalkLawsBesides
import Derived.BigCall
import Derived.BigGuard
namespace Go.Proofs.Qxb6600469aDoor
open Go.RowKit Go.Sort Go.Lib
set_option linter.unusedVariables false

set_option maxHeartbeats 400000 in
theorem inner_small (u : Nat) (hu : u < 100) (w : World) :
    Calls Tryd.prog 21 #[.int .u64 u, .int .i64 10] w fun e w' => e = .returned (.string ⟨(decDigits u).toArray⟩) ∧ Below w.heap.size w w' := by
  go_enter Tryd.func21, Tryd.ntmps21
  go_wp2_with (go_at_call 26; refine (small_any u hu _).mono ?_; rintro e w' ⟨rfl, rfl⟩)
  go_ret
  exact ⟨rfl, Below.refl _ _⟩

/-- The new block's bytes are a row of zeros. -/
theorem zeros_hold (w : World) (T : TypeId) (nd : Nat) (hs : nd ≤ 24) : Holds (fun (b : UInt8) => Value.int .u8 (b.toNat : Int)) (w.alloc (.cells zeros24 T)) w.heap.size 0 (Array.replicate nd (0 : UInt8)) := fun j hj => by
  have hj' : j < nd := by simpa using hj
  refine ⟨?_, World.frozen?_alloc_new _ _ _ _⟩
  rw [World.cell?_alloc_new, zeros24_at _ (by omega), getElem!_pos _ j hj]
  simp

theorem put_below (w : World) (o : Obj) (dk : Array UInt8) (k : Nat) : Below w.heap.size w ((putRow (fun (b : UInt8) => Value.int .u8 (b.toNat : Int)) (w.alloc o) w.heap.size 0 dk).drewN k) := by
  obtain ⟨os', _, e⟩ := putRow_grow_new (fun (b : UInt8) => Value.int .u8 (b.toNat : Int)) w #[o] w.heap.size 0 dk (Nat.le_refl _)
  rw [alloc_eq_grow, e]
  exact ⟨rfl, rfl, rfl, by simp [grow], fun i hi => by simp [grow, Array.getElem?_append, hi]⟩

set_option maxHeartbeats 1600000 in
set_option maxRecDepth 100000 in
theorem inner_big (u : Nat) (hu : 100 ≤ u) (hu64 : u < 18446744073709551616) (w : World) (htab : TabIs Tryd.prog w powName .u64 pow10Tab) :
    Calls Tryd.prog 21 #[.int .u64 u, .int .i64 10] w fun e w' => e = .returned (.string ⟨(decDigits u).toArray⟩) ∧ Below w.heap.size w w' := by
  have hnd20 := nDigits_le20 u hu64
  have hb3 : nDigits u ≤ 24 := by omega
  have hal : Tryd.prog.arrayLen 60 = 24 := by kernel_rfl
  -- 'a[:nd]', for the walk to take
  have hsl : ∀ W, (Instr.sliceAt 60 (.pointer (some ⟨w.heap.size, 0, none⟩)) none (some (.int .i64 (nDigits u : Int))) none).run Tryd.prog W = .ok (.slice (some ⟨w.heap.size, 0, none⟩) (nDigits u) 24) W := fun W => by
    rw [run_sliceAt_array_h W 60 ⟨w.heap.size, 0, none⟩ (by simp [Program.arrayLen, Program.elem, Tryd.underlying60]) .i64 (nDigits u : Int) (by omega) (by rw [hal]; omega)]
    go_simp
  have hH0 := zeros_hold w 60 (nDigits u) (by omega)
  have hfmt := base10_any w.heap.size 0 24 u (Array.replicate (nDigits u) 0) (w.alloc (.cells zeros24 60)) hH0 (by rw [Array.size_replicate]; exact lt_pow_nDigits u) hu64 (by rw [Array.size_replicate]; omega)
  rw [Array.size_replicate] at hfmt
  have HD := Lib.hid (digits_any u (by omega) hu64 _ (tabIs_alloc htab (.cells zeros24 60)))
  have HH0 := Lib.hid hH0
  have HF := Lib.hid hfmt
  clear hH0 hal hfmt htab hu64
  go_enter Tryd.func21, Tryd.ntmps21
  go_wp2_with fail
  refine HD.out.mono ?_
  rintro e w' ⟨rfl, rfl⟩
  go_wp2_with fail
  refine HF.out.mono ?_
  rintro e w' ⟨rfl, k, v', dk, rfl, hF⟩
  -- 'string(a[:nd])', for the walk to take: the row reads as the numeral
  have hcv : (convert 63 9 (.slice (some ⟨w.heap.size, 0, none⟩) (nDigits u) 24)).run Tryd.prog ((putRow (fun (b : UInt8) => Value.int .u8 (b.toNat : Int)) (w.alloc (.cells zeros24 60)) w.heap.size 0 dk).drewN k) = .ok (.string ⟨(decDigits u).toArray⟩) ((putRow (fun (b : UInt8) => Value.int .u8 (b.toNat : Int)) (w.alloc (.cells zeros24 60)) w.heap.size 0 dk).drewN k) := by
    have h := run_convert_bytes_back (P := Tryd.prog) ((putRow (fun (b : UInt8) => Value.int .u8 (b.toNat : Int)) (w.alloc (.cells zeros24 60)) w.heap.size 0 dk).drewN k) 63 9 5 ⟨w.heap.size, 0, none⟩ 24 (decDigits u) Tryd.underlying63 Tryd.underlying5 Tryd.underlying9 (fun j hj => by
      rw [row_is_numeral hF j hj, Lib.add_plain, World.cell?_drewN]
      exact cell?_putRow (fun (b : UInt8) => Value.int .u8 (b.toNat : Int)) _ w.heap.size 0 _ dk HH0.out (by rw [hF.size, Array.size_replicate]) j (by rw [hF.size]; rw [decDigits_length] at hj; exact hj))
    rw [decDigits_length] at h
    exact h
  go_wp2
  go_ret
  exact ⟨rfl, put_below _ _ _ _⟩

end Go.Proofs.Qxb6600469aDoor
