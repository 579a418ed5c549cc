/-
  THE WALKS of slices.IndexFunc at the one predicate of the text ('b != 0'), and of ZZFieldHoldsValue.
-/
import Derived.Test.Qxb6600469aClone
import Derived.Laws.BitsAllLaws
namespace Go.Proofs.Qxb6600469a
open Go.RowKit
set_option linter.unusedVariables false

/-- Is one of the first n numbers not nought? -/
def anyNZ (zs : List Int) (n : Nat) : Bool := (zs.take n).any (fun z => z != 0)

theorem anyNZ_zero (zs : List Int) : anyNZ zs 0 = false := by simp [anyNZ]
theorem anyNZ_succ (zs : List Int) (k : Nat) (hk : k < zs.length) : anyNZ zs (k + 1) = (anyNZ zs k || (zs.getD k 0 != 0)) := by
  unfold anyNZ
  rw [List.take_add_one, List.any_append]
  simp [List.getD, List.getElem?_eq_getElem hk]
theorem anyNZ_mono (zs : List Int) (k n : Nat) (hkn : k ≤ n) (h : anyNZ zs n = false) : anyNZ zs k = false := by
  unfold anyNZ at *
  rw [List.any_eq_false] at *
  intro x hx
  exact h x ((List.take_subset_take_left zs hkn) hx)

set_option maxHeartbeats 400000 in
/-- No element: -1. -/
theorem idx_empty (a : Option Addr) (cap : Nat) (w : World) :
    Calls Try.prog 12 #[.slice a 0 cap, .func (.func 11) #[] #[]] w fun e w' => e = .returned (.int .i64 (-1)) ∧ w' = w := by
  go_enter Try.func12, Try.ntmps12
  go_wp2
  refine wp_loop_rounds 1 ?_
  rw [rounds_succ]
  go_wp2
  go_ret
  exact ⟨rfl, rfl⟩

set_option maxHeartbeats 400000 in
/-- Every element is nought: -1. -/
theorem idx_none (b off len cap : Nat) (zs : List Int) (w : World) (hlen : len ≤ 1048576) (hz : len ≤ zs.length)
    (hc : ∀ j, j < len → w.cell? ⟨b, off + j, none⟩ = some (.int .u8 (zs.getD j 0))) (hany : anyNZ zs len = false) :
    Calls Try.prog 12 #[.slice (some ⟨b, off, none⟩) len cap, .func (.func 11) #[] #[]] w fun e w' => e = .returned (.int .i64 (-1)) ∧ w' = w := by
  have HC : ∀ j, j < len → Hid (w.cell? ⟨b, off + j, none⟩ = some (.int .u8 (zs.getD j 0))) := hc
  have HA : Hid (anyNZ zs len = false) := hany
  clear hc hany
  go_enter Try.func12, Try.ntmps12
  go_wp2
  go_loop [8] (fun i => ∃ k : Nat, k ≤ len ∧ i = .int .i64 k) (fun i => len - (intOf i).toNat)
  case atStart => exact ⟨0, Nat.zero_le _, rfl⟩
  case round =>
    obtain ⟨k, hk, rfl⟩ := hrel
    by_cases hlt : k < len
    · have hz0 : zs.getD k 0 = 0 := by
        have h1 := anyNZ_mono zs (k + 1) len hlt HA.out
        rw [anyNZ_succ zs k (by omega)] at h1
        simpa using (Bool.or_eq_false_iff.1 h1).2
      have hcx : w.cell? ⟨b, off + k, none⟩ = some (.int .u8 0) := by rw [← hz0]; exact (HC k hlt).out
      clear hz0
      go_wp2
      go_round
      case rel => exact ⟨k + 1, by omega, by go_num⟩
      case measure => simp [intOf]; omega
    · go_wp2
      go_ret
      exact ⟨rfl, rfl⟩

set_option maxHeartbeats 400000 in
/-- One is not: its place. -/
theorem idx_some (b off len cap : Nat) (zs : List Int) (w : World) (hlen : len ≤ 1048576) (hz : len ≤ zs.length)
    (hc : ∀ j, j < len → w.cell? ⟨b, off + j, none⟩ = some (.int .u8 (zs.getD j 0))) (hany : anyNZ zs len = true) :
    Calls Try.prog 12 #[.slice (some ⟨b, off, none⟩) len cap, .func (.func 11) #[] #[]] w fun e w' => (∃ k : Nat, k < len ∧ e = .returned (.int .i64 k)) ∧ w' = w := by
  have HC : ∀ j, j < len → Hid (w.cell? ⟨b, off + j, none⟩ = some (.int .u8 (zs.getD j 0))) := hc
  have HA : Hid (anyNZ zs len = true) := hany
  clear hc hany
  go_enter Try.func12, Try.ntmps12
  go_wp2
  go_loop [8] (fun i => ∃ k : Nat, k ≤ len ∧ i = .int .i64 k ∧ Hid (anyNZ zs k = false)) (fun i => len - (intOf i).toNat)
  case atStart => exact ⟨0, Nat.zero_le _, rfl, anyNZ_zero zs⟩
  case round =>
    obtain ⟨k, hk, rfl, hno⟩ := hrel
    by_cases hlt : k < len
    · by_cases hz0 : zs.getD k 0 = 0
      · have hcx : w.cell? ⟨b, off + k, none⟩ = some (.int .u8 0) := by rw [← hz0]; exact (HC k hlt).out
        have HZ : Hid (zs.getD k 0 = 0) := hz0
        clear hz0
        go_wp2
        go_round
        case rel => exact ⟨k + 1, by omega, by go_num, by unfold Hid; rw [anyNZ_succ zs k (by omega), hno.out, HZ.out]; rfl⟩
        case measure => simp [intOf]; omega
      · obtain ⟨z, hzz⟩ : ∃ z, z = zs.getD k 0 := ⟨_, rfl⟩
        have hcx : w.cell? ⟨b, off + k, none⟩ = some (.int .u8 z) := by rw [hzz]; exact (HC k hlt).out
        have hne : (z == 0) = false := by rw [hzz]; simpa using hz0
        clear hzz hz0
        go_wp2
        go_ret
        exact ⟨⟨k, hlt, rfl⟩, rfl⟩
    · exfalso
      have := hno.out
      rw [show k = len by omega, HA.out] at this
      exact Bool.noConfusion this

end Go.Proofs.Qxb6600469a
