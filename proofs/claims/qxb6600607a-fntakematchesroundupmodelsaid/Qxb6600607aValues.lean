/-
  THE WALKS of Take and of the model where a list of values is given; of zzTakeSorted; of zzTakePolicy.
-/
import Derived.Test.Qxb6600607aTake
import Derived.Lib.Hide
namespace Go.Proofs.Qxb6600607a
open Go.RowKit
set_option linter.unusedVariables false

set_option maxHeartbeats 1000000 in
/-- The search comes to the list's end. -/
theorem take_values_none (w : World) (b B len : Nat) (value deft : Int) (ranged : Bool) (minV step : Int) (capped : Bool) (maxV asked : Int) (f : Bool) (hlen : len ≤ 131072)
    (hp : Pol w b value deft (.slice (some ⟨B, 0, none⟩) len len) ranged minV step capped maxV)
    (hbs : Calls Try.prog 16 #[.slice (some ⟨B, 0, none⟩) len len, .int .i64 asked] w fun e w' => e = .returned (.tuple #[.int .i64 (len : Nat), .bool f]) ∧ ∃ q, w' = w.drewN q) :
    Calls Try.prog 11 #[.pointer (some ⟨b, 0, none⟩), .int .i64 asked, .bool true] w fun e w' => e = .returned (.tuple #[.int .i64 0, .bool false]) ∧ ∃ n, w' = w.drewN n := by
  obtain ⟨c0, c1, c2, c3, c4, c5, c6, c7⟩ := hp
  clear c3 c4 c5 c6 c7
  have hn := fun w' a n c => run_neq_slice_nil_any (P := Try.prog) w' 22 2 a n c 0 0 Try.underlying22
  have HB := Lib.hid hbs
  clear hbs
  go_enter Try.func11, Try.ntmps11
  go_wp2_with (go_at_call 16; refine (HB.out).mono ?_; rintro e w' ⟨rfl, q, rfl⟩)
  go_ret2
  exact ⟨rfl, _, rfl⟩

set_option maxHeartbeats 1000000 in
/-- The search stands at an element. -/
theorem take_values_met (w : World) (b B len i : Nat) (z : Int) (value deft : Int) (ranged : Bool) (minV step : Int) (capped : Bool) (maxV asked : Int) (f : Bool) (hlen : len ≤ 131072) (hi : i < len)
    (hp : Pol w b value deft (.slice (some ⟨B, 0, none⟩) len len) ranged minV step capped maxV) (hz : w.cell? ⟨B, i, none⟩ = some (.int .i64 z))
    (hbs : Calls Try.prog 16 #[.slice (some ⟨B, 0, none⟩) len len, .int .i64 asked] w fun e w' => e = .returned (.tuple #[.int .i64 (i : Nat), .bool f]) ∧ ∃ q, w' = w.drewN q) :
    Calls Try.prog 11 #[.pointer (some ⟨b, 0, none⟩), .int .i64 asked, .bool true] w fun e w' => e = .returned (.tuple #[.int .i64 z, .bool (decide (z ≤ value))]) ∧ ∃ n, w' = w.drewN n := by
  obtain ⟨c0, c1, c2, c3, c4, c5, c6, c7⟩ := hp
  clear c3 c4 c5 c6 c7
  have hn := fun w' a n c => run_neq_slice_nil_any (P := Try.prog) w' 22 2 a n c 0 0 Try.underlying22
  have hne : ((i : Int) == (len : Int)) = false := beq_eq_false_iff_ne.2 (by omega)
  have HB := Lib.hid hbs
  clear hbs
  go_enter Try.func11, Try.ntmps11
  go_wp2_with (go_at_call 16; refine (HB.out).mono ?_; rintro e w' ⟨rfl, q, rfl⟩)
  go_quiet (fail)
  go_wp2
  go_ret2
  exact ⟨rfl, _, by first | rfl | rw [World.drewN_drewN]⟩

set_option maxHeartbeats 1000000 in
/-- Every element is below the ask. -/
theorem model_values_none (w : World) (B len : Nat) (ys : List Int) (value deft : Int) (ranged : Bool) (minV step : Int) (capped : Bool) (maxV asked : Int) (hlen : len ≤ 131072)
    (hc : ∀ j, j < len → w.cell? ⟨B, j, none⟩ = some (.int .i64 (ys.getD j 0))) (hlow : ∀ j, j < len → ys.getD j 0 < asked) :
    Calls Try.prog 12 #[.int .i64 value, .int .i64 deft, .slice (some ⟨B, 0, none⟩) len len, .bool ranged, .int .i64 minV, .int .i64 step, .bool capped, .int .i64 maxV, .int .i64 asked, .bool true] w fun e w' => e = .returned (.tuple #[.int .i64 0, .bool false]) ∧ ∃ n, w' = w.drewN n := by
  have hn := fun w' a n c => run_neq_slice_nil_any (P := Try.prog) w' 22 2 a n c 0 0 Try.underlying22
  have HC : Hid _ := hc
  have HL : Hid _ := hlow
  clear hc hlow
  go_enter Try.func12, Try.ntmps12
  go_wp2
  go_loop [22] (fun i => ∃ k : Nat, k ≤ len ∧ i = .int .i64 k) (fun i => len - (intOf i).toNat)
  case atStart => exact ⟨0, Nat.zero_le _, rfl⟩
  case round =>
    obtain ⟨k, hk, rfl⟩ := hrel
    by_cases hlt : k < len
    · obtain ⟨z, hz⟩ : ∃ z, z = ys.getD k 0 := ⟨_, rfl⟩
      have hcx : w.cell? ⟨B, k, none⟩ = some (.int .i64 z) := by rw [hz]; exact HC.out k hlt
      have hzl : z < asked := by rw [hz]; exact HL.out k hlt
      clear hz
      go_wp2
      go_round
      case rel => exact ⟨k + 1, by omega, by go_num⟩
      case measure => simp [intOf]; omega
    · go_wp2
      go_ret2
      exact ⟨rfl, 0, rfl⟩

set_option maxHeartbeats 1000000 in
/-- The first element that is not. -/
theorem model_values_met (w : World) (B len i : Nat) (z : Int) (ys : List Int) (value deft : Int) (ranged : Bool) (minV step : Int) (capped : Bool) (maxV asked : Int) (hlen : len ≤ 131072) (hi : i < len)
    (hc : ∀ j, j < len → w.cell? ⟨B, j, none⟩ = some (.int .i64 (ys.getD j 0))) (hlow : ∀ j, j < i → ys.getD j 0 < asked) (hz : ys.getD i 0 = z) (hge : asked ≤ z) :
    Calls Try.prog 12 #[.int .i64 value, .int .i64 deft, .slice (some ⟨B, 0, none⟩) len len, .bool ranged, .int .i64 minV, .int .i64 step, .bool capped, .int .i64 maxV, .int .i64 asked, .bool true] w fun e w' => e = .returned (.tuple #[.int .i64 z, .bool (decide (z ≤ value))]) ∧ ∃ n, w' = w.drewN n := by
  have hn := fun w' a n c => run_neq_slice_nil_any (P := Try.prog) w' 22 2 a n c 0 0 Try.underlying22
  have HC : Hid _ := hc
  have HL : Hid _ := hlow
  have HZ : Hid _ := hz
  clear hc hlow hz
  go_enter Try.func12, Try.ntmps12
  go_wp2
  go_loop [22] (fun t => ∃ k : Nat, k ≤ i ∧ t = .int .i64 k) (fun t => i + 1 - (intOf t).toNat)
  case atStart => exact ⟨0, Nat.zero_le _, rfl⟩
  case round =>
    obtain ⟨k, hk, rfl⟩ := hrel
    have hkl : k < len := by omega
    rcases Nat.lt_or_ge k i with hlt | hge2
    · obtain ⟨y, hy⟩ : ∃ y, y = ys.getD k 0 := ⟨_, rfl⟩
      have hcx : w.cell? ⟨B, k, none⟩ = some (.int .i64 y) := by rw [hy]; exact HC.out k hkl
      have hyl : y < asked := by rw [hy]; exact HL.out k hlt
      clear hy
      go_wp2
      go_round
      case rel => exact ⟨k + 1, by omega, by go_num⟩
      case measure => simp [intOf]; omega
    · have hki : k = i := by omega
      have hcx : w.cell? ⟨B, k, none⟩ = some (.int .i64 z) := by rw [hki, ← HZ.out]; exact HC.out i hi
      clear hki
      go_wp2
      go_quiet (fail)
      go_wp2
      go_ret2
      exact ⟨rfl, _, by first | rfl | rw [World.drewN_drewN]⟩

end Go.Proofs.Qxb6600607a
