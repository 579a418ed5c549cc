/-
  THE WALKS of the law FnFieldHoldsValueSpec, a case each.
-/
import Derived.Test.Qxb6600469aField
import Derived.Lib.Hide
namespace Go.Proofs.Qxb6600469a
open Go.RowKit
set_option linter.unusedVariables false

/-- The clone of a slice of no element. -/
theorem clone_none (a : Option Addr) (cap : Nat) (w : World) (hnil : a = none → cap = 0) : Calls Try.prog 6 #[.slice a 0 cap] w fun e w' => (∃ av cv, e = .returned (.slice av 0 cv)) ∧ Below w.heap.size w w' := by
  cases a with
  | none =>
    obtain rfl := hnil rfl
    refine (clone_nil w).mono ?_
    rintro e w' ⟨rfl, rfl⟩
    exact ⟨⟨_, _, rfl⟩, Below.refl _ _⟩
  | some x =>
    refine (clone_empty x cap w).mono ?_
    rintro e w' ⟨rfl, hb, _⟩
    exact ⟨⟨_, _, rfl⟩, hb⟩

set_option maxHeartbeats 400000 in
/-- Too long: the law's own bound. -/
theorem law_long (a0 a1 : Int) (a : Option Addr) (len cap : Nat) (w : World) (hlen : 1048576 < len) (hmax : len ≤ 9223372036854775807) :
    Calls Try.prog 3 #[.int .u64 a0, .int .u64 a1, .slice a len cap] w fun e w' => e = .returned (.bool true) ∧ Below w.heap.size w w' := by
  go_enter Try.func3, Try.ntmps3
  go_wp2
  go_ret
  exact ⟨rfl, Below.refl _ _⟩

set_option maxHeartbeats 400000 in
theorem law_empty_zero (a1 : Int) (a : Option Addr) (cap : Nat) (w : World) (hnil : a = none → cap = 0) :
    Calls Try.prog 3 #[.int .u64 0, .int .u64 a1, .slice a 0 cap] w fun e w' => e = .returned (.bool true) ∧ Below w.heap.size w w' := by
  have hcl := Lib.hid (clone_none a cap w hnil)
  clear hnil
  go_enter Try.func3, Try.ntmps3
  go_wp2_with (first
    | (go_at_call 6; refine (hcl.out).mono ?_; rintro e w1 ⟨⟨av, cv, rfl⟩, hb⟩)
    | (go_at_call 7; refine (field_zero _ _ _ _ _).mono ?_; rintro e w2 ⟨rfl, o, rfl⟩)
    | go_in)
  go_ret
  exact ⟨rfl, hb.alloc hb.size _⟩

set_option maxHeartbeats 400000 in
theorem law_empty_two (a1 : Int) (a : Option Addr) (cap : Nat) (w : World) (hnil : a = none → cap = 0) :
    Calls Try.prog 3 #[.int .u64 2, .int .u64 a1, .slice a 0 cap] w fun e w' => e = .returned (.bool true) ∧ Below w.heap.size w w' := by
  have hcl := Lib.hid (clone_none a cap w hnil)
  clear hnil
  go_enter Try.func3, Try.ntmps3
  go_wp2_with (first
    | (go_at_call 6; refine (hcl.out).mono ?_; rintro e w1 ⟨⟨av, cv, rfl⟩, hb⟩)
    | (go_at_call 7; refine (field_two _ _ 0 _ _ (by omega)).mono ?_; rintro e w2 ⟨rfl, o, rfl⟩)
    | go_in)
  go_ret
  exact ⟨rfl, hb.alloc hb.size _⟩

set_option maxHeartbeats 400000 in
theorem law_empty_other (a0 a1 : Int) (a : Option Addr) (cap : Nat) (w : World) (hnil : a = none → cap = 0) (h0 : (a0 == 0) = false) (h2 : (a0 == 2) = false) :
    Calls Try.prog 3 #[.int .u64 a0, .int .u64 a1, .slice a 0 cap] w fun e w' => e = .returned (.bool true) ∧ Below w.heap.size w w' := by
  have hcl := Lib.hid (clone_none a cap w hnil)
  clear hnil
  go_enter Try.func3, Try.ntmps3
  go_wp2_with (first
    | (go_at_call 6; refine (hcl.out).mono ?_; rintro e w1 ⟨⟨av, cv, rfl⟩, hb⟩)
    | (go_at_call 7; refine (field_empty _ _ _ _ _ h0 h2).mono ?_; rintro e w2 ⟨rfl, o, rfl⟩)
    | go_in)
  refine wp_loop_rounds 1 ?_
  rw [rounds_succ]
  go_wp2
  go_ret
  exact ⟨rfl, hb.alloc hb.size _⟩

/-- The clone of a row, as the law's walk takes it. -/
theorem clone_some (b off len cap : Nat) (zs : List Int) (w : World) (hlen : len ≤ 1048576) (hz : len ≤ zs.length)
    (hc : ∀ j, j < zs.length → w.cell? ⟨b, off + j, none⟩ = some (.int .u8 (zs.getD j 0))) (hpos : 0 < len) :
    Calls Try.prog 6 #[.slice (some ⟨b, off, none⟩) len cap] w fun e w' => e = .returned (.slice (some ⟨w.heap.size, 0, none⟩) len len) ∧ (∀ j, j < len → w'.cell? ⟨w.heap.size, 0 + j, none⟩ = some (.int .u8 (zs.getD j 0))) ∧ Below w.heap.size w w' := by
  have hb : b < w.heap.size := World.block_lt_of_cell? w _ (hc 0 (by omega))
  refine (clone_row b off len cap zs w hlen hz hb hc).mono ?_
  rintro e w' ⟨rfl, hrow, hbel, _⟩
  refine ⟨rfl, fun j hj => ?_, hbel⟩
  rw [Nat.zero_add, hrow.cell hj]
  simp [filled, hj]

set_option maxHeartbeats 400000 in
theorem law_row_zero (a1 : Int) (b off len cap : Nat) (zs : List Int) (w : World) (hlen : len ≤ 1048576) (hz : len ≤ zs.length)
    (hc : ∀ j, j < zs.length → w.cell? ⟨b, off + j, none⟩ = some (.int .u8 (zs.getD j 0))) (hpos : 0 < len) :
    Calls Try.prog 3 #[.int .u64 0, .int .u64 a1, .slice (some ⟨b, off, none⟩) len cap] w fun e w' => e = .returned (.bool true) ∧ Below w.heap.size w w' := by
  have hcl := Lib.hid (clone_some b off len cap zs w hlen hz hc hpos)
  clear hc hz
  go_enter Try.func3, Try.ntmps3
  go_wp2_with (first
    | (go_at_call 6; refine (hcl.out).mono ?_; rintro e w1 ⟨rfl, _, hb⟩)
    | (go_at_call 7; refine (field_zero _ _ _ _ _).mono ?_; rintro e w2 ⟨rfl, o, rfl⟩)
    | go_in)
  go_ret
  exact ⟨rfl, hb.alloc hb.size _⟩

set_option maxHeartbeats 400000 in
theorem law_row_two (a1 : Int) (b off len cap : Nat) (zs : List Int) (w : World) (hlen : len ≤ 1048576) (hz : len ≤ zs.length)
    (hc : ∀ j, j < zs.length → w.cell? ⟨b, off + j, none⟩ = some (.int .u8 (zs.getD j 0))) (hpos : 0 < len) :
    Calls Try.prog 3 #[.int .u64 2, .int .u64 a1, .slice (some ⟨b, off, none⟩) len cap] w fun e w' => e = .returned (.bool true) ∧ Below w.heap.size w w' := by
  have hcl := Lib.hid (clone_some b off len cap zs w hlen hz hc hpos)
  clear hc hz
  go_enter Try.func3, Try.ntmps3
  go_wp2_with (first
    | (go_at_call 6; refine (hcl.out).mono ?_; rintro e w1 ⟨rfl, _, hb⟩)
    | (go_at_call 7; refine (field_two _ _ _ _ _ (by omega)).mono ?_; rintro e w2 ⟨rfl, o, rfl⟩)
    | go_in)
  go_ret
  exact ⟨by simp, hb.alloc hb.size _⟩

theorem or_zero (a b : Int) (h1 : 0 ≤ a) (h2 : a < 256) (h3 : 0 ≤ b) (h4 : b < 256) : (bits .or .u8 a b = 0 ↔ a = 0 ∧ b = 0) ∧ 0 ≤ bits .or .u8 a b ∧ bits .or .u8 a b < 256 := by
  rw [u8_or a b h1 h2 h3 h4]
  have hlt : a.toNat ||| b.toNat < 256 := Nat.or_lt_two_pow (n := 8) (by omega) (by omega)
  have hz : a.toNat ||| b.toNat = 0 ↔ a.toNat = 0 ∧ b.toNat = 0 := Nat.or_eq_zero_iff
  refine ⟨⟨fun h => ?_, fun h => ?_⟩, by omega, by omega⟩
  · have := hz.1 (by omega)
    omega
  · have := hz.2 (by omega)
    omega

set_option maxHeartbeats 400000 in
theorem law_row_other (a0 a1 : Int) (b off len cap : Nat) (zs : List Int) (w : World) (h0 : (a0 == 0) = false) (h2 : (a0 == 2) = false) (hlen : len ≤ 1048576) (hz : len ≤ zs.length)
    (hc : ∀ j, j < zs.length → w.cell? ⟨b, off + j, none⟩ = some (.int .u8 (zs.getD j 0))) (hwf : ∀ j, 0 ≤ zs.getD j 0 ∧ zs.getD j 0 < 256) (hpos : 0 < len) (r : Bool) (hr : anyNZ zs len = r) :
    Calls Try.prog 3 #[.int .u64 a0, .int .u64 a1, .slice (some ⟨b, off, none⟩) len cap] w fun e w' => e = .returned (.bool true) ∧ Below w.heap.size w w' := by
  have hcl := Lib.hid (clone_some b off len cap zs w hlen hz hc hpos)
  have hfl : ∀ w1 : World, (∀ j, j < len → w1.cell? ⟨w.heap.size, 0 + j, none⟩ = some (.int .u8 (zs.getD j 0))) →
      Calls Try.prog 7 #[.int .u64 a0, .int .u64 a1, .slice (some ⟨w.heap.size, 0, none⟩) len len] w1 fun e w' => e = .returned (.bool r) ∧ ∃ o, w' = w1.alloc o := by
    intro w1 h1
    cases r
    · exact field_none a0 a1 w.heap.size 0 len len zs w1 h0 h2 hlen hz h1 hr
    · exact field_some a0 a1 w.heap.size 0 len len zs w1 h0 h2 hlen hz h1 hr
  have HF := Lib.hid hfl
  have HR := Lib.hid hr
  have HW := Lib.hid hwf
  clear hc hfl hr hwf
  go_enter Try.func3, Try.ntmps3
  go_wp2_with (first
    | (go_at_call 6; refine (hcl.out).mono ?_; rintro e w1 ⟨rfl, hcc, hb⟩; have HCC := Lib.hid hcc; clear hcc)
    | (go_at_call 7; refine (HF.out _ HCC.out).mono ?_; rintro e w2 ⟨rfl, o, rfl⟩)
    | go_in)
  go_loop [8, 9] (fun t i => ∃ k : Nat, k ≤ len ∧ i = .int .i64 k ∧ ∃ m : Int, t = .int .u8 m ∧ 0 ≤ m ∧ m < 256 ∧ Hid (m = 0 ↔ anyNZ zs k = false)) (fun _ i => len - (intOf i).toNat)
  case atStart => exact ⟨0, Nat.zero_le _, rfl, 0, rfl, by omega, by omega, by unfold Hid; simp [anyNZ_zero]⟩
  case round =>
    obtain ⟨k, hk, rfl, m, rfl, hm0, hm1, HM⟩ := hrel
    by_cases hlt : k < len
    · have hcx : (w1.alloc o).cell? ⟨w.heap.size, k, none⟩ = some (.int .u8 (zs.getD k 0)) := Lib.cell?_alloc_some o (by have := HCC.out k hlt; rwa [Nat.zero_add] at this)
      have HO := Lib.hid (or_zero m (zs.getD k 0) hm0 hm1 (HW.out k).1 (HW.out k).2)
      go_wp2
      go_round
      case rel =>
        refine ⟨k + 1, by omega, by go_num, _, rfl, HO.out.2.1, HO.out.2.2, ?_⟩
        unfold Hid
        rw [anyNZ_succ zs k (by omega), Bool.or_eq_false_iff, ← HM.out]
        have := HO.out.1
        simpa using this
      case measure => simp [intOf]; omega
    · have hkl : k = len := by omega
      have hfin : (r == (m != 0)) = true := by
        have h1 := HM.out
        rw [hkl, HR.out] at h1
        cases r
        · simp at h1; simp [h1]
        · simp at h1; simp [h1]
      clear hkl
      go_wp2
      go_ret
      exact ⟨rfl, hb.alloc hb.size _⟩

end Go.Proofs.Qxb6600469a
