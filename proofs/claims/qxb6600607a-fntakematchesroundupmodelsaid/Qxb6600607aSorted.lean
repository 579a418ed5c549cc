/-
  THE WALKS of zzTakeSorted and of zzTakePolicy.
-/
import Derived.Test.Qxb6600607aValues
namespace Go.Proofs.Qxb6600607a
open Go.RowKit
set_option linter.unusedVariables false

set_option maxHeartbeats 400000 in
theorem sorted_short (a : Option Addr) (len cap : Nat) (w : World) (hlen : len ≤ 1) :
    Calls Try.prog 7 #[.slice a len cap] w fun e w' => e = .returned (.bool true) ∧ ∃ n, w' = w.drewN n := by
  go_enter Try.func7, Try.ntmps7
  go_wp2
  refine wp_loop_rounds 1 ?_
  rw [rounds_succ]
  go_wp2
  go_ret
  exact ⟨rfl, 0, rfl⟩

set_option maxHeartbeats 1000000 in
theorem sorted_yes (b off len cap : Nat) (zs : List Int) (w : World) (hlen : len ≤ 131072) (h1 : 1 ≤ len)
    (hc : ∀ j, j < len → w.cell? ⟨b, off + j, none⟩ = some (.int .i64 (zs.getD j 0))) (hs : ∀ m, m + 1 < len → zs.getD m 0 ≤ zs.getD (m + 1) 0) :
    Calls Try.prog 7 #[.slice (some ⟨b, off, none⟩) len cap] w fun e w' => e = .returned (.bool true) ∧ ∃ n, w' = w.drewN n := by
  have HC : ∀ j, j < len → Hid (w.cell? ⟨b, off + j, none⟩ = some (.int .i64 (zs.getD j 0))) := hc
  have HS : Hid (∀ m, m + 1 < len → zs.getD m 0 ≤ zs.getD (m + 1) 0) := hs
  clear hc hs
  go_enter Try.func7, Try.ntmps7
  go_wp2
  go_loopw [3] (fun i wr => ∃ m : Nat, m + 1 ≤ len ∧ i = .int .i64 ((m : Int) + 1) ∧ ∃ n, wr = w.drewN n) (fun i _ => len - (intOf i).toNat)
  case atStart => exact ⟨0, h1, rfl, 0, rfl⟩
  case round =>
    obtain ⟨m, hm, rfl, n, hwr⟩ := hrel
    subst hwr
    by_cases hlt : m + 1 < len
    · obtain ⟨y, hy⟩ : ∃ y, y = zs.getD m 0 := ⟨_, rfl⟩
      obtain ⟨z, hz⟩ : ∃ z, z = zs.getD (m + 1) 0 := ⟨_, rfl⟩
      have hcy : w.cell? ⟨b, off + m, none⟩ = some (.int .i64 y) := by rw [hy]; exact (HC m (by omega)).out
      have hcz : w.cell? ⟨b, off + (m + 1), none⟩ = some (.int .i64 z) := by rw [hz]; exact (HC (m + 1) hlt).out
      have hyz : y ≤ z := by rw [hy, hz]; exact HS.out m hlt
      clear hy hz
      have hb1 : (m : Int) + 1 < (len : Int) := by omega
      go_wp2
      go_quiet (fail)
      go_wp2
      go_roundw
      case rel => exact ⟨m + 1, by omega, by go_num, _, rfl⟩
      case measure => simp [intOf]; omega
    · go_wp2
      go_ret
      exact ⟨rfl, n, rfl⟩

set_option maxHeartbeats 1000000 in
theorem sorted_no (b off len cap : Nat) (zs : List Int) (w : World) (hlen : len ≤ 131072) (v : Nat) (hv : v + 1 < len)
    (hc : ∀ j, j < len → w.cell? ⟨b, off + j, none⟩ = some (.int .i64 (zs.getD j 0))) (hs : zs.getD (v + 1) 0 < zs.getD v 0) :
    Calls Try.prog 7 #[.slice (some ⟨b, off, none⟩) len cap] w fun e w' => e = .returned (.bool false) ∧ ∃ n, w' = w.drewN n := by
  have HC : ∀ j, j < len → Hid (w.cell? ⟨b, off + j, none⟩ = some (.int .i64 (zs.getD j 0))) := hc
  have HS : Hid (zs.getD (v + 1) 0 < zs.getD v 0) := hs
  clear hc hs
  go_enter Try.func7, Try.ntmps7
  go_wp2
  go_loopw [3] (fun i wr => ∃ m : Nat, m ≤ v ∧ i = .int .i64 ((m : Int) + 1) ∧ ∃ n, wr = w.drewN n) (fun i _ => len - (intOf i).toNat)
  case atStart => exact ⟨0, Nat.zero_le _, rfl, 0, rfl⟩
  case round =>
    obtain ⟨m, hm, rfl, n, hwr⟩ := hrel
    subst hwr
    have hlt : m + 1 < len := by omega
    obtain ⟨y, hy⟩ : ∃ y, y = zs.getD m 0 := ⟨_, rfl⟩
    obtain ⟨z, hz⟩ : ∃ z, z = zs.getD (m + 1) 0 := ⟨_, rfl⟩
    have hcy : w.cell? ⟨b, off + m, none⟩ = some (.int .i64 y) := by rw [hy]; exact (HC m (by omega)).out
    have hcz : w.cell? ⟨b, off + (m + 1), none⟩ = some (.int .i64 z) := by rw [hz]; exact (HC (m + 1) hlt).out
    have hb1 : (m : Int) + 1 < (len : Int) := by omega
    rcases Int.lt_or_le z y with hyz | hyz
    · clear hy hz
      go_wp2
      go_quiet (fail)
      go_wp2
      go_ret
      exact ⟨rfl, _, by first | rfl | rw [World.drewN_drewN]⟩
    · have hmv : m + 1 ≤ v := by
        rcases Nat.lt_or_ge m v with h | h
        · exact h
        · have e : m = v := by omega
          subst e
          have := HS.out
          rw [← hy, ← hz] at this
          omega
      clear hy hz
      go_wp2
      go_quiet (fail)
      go_wp2
      go_roundw
      case rel => exact ⟨m + 1, hmv, by go_num, _, rfl⟩
      case measure => simp [intOf]; omega

set_option maxHeartbeats 400000 in
/-- The policy as a value: a struct; it lies in a block of its own first. -/
theorem policy_any (value deft : Int) (a : Option Addr) (len cap : Nat) (ranged : Bool) (minV step : Int) (capped : Bool) (maxV : Int) (w : World) :
    Calls Try.prog 10 #[.int .i64 value, .int .i64 deft, .slice a len cap, .bool ranged, .int .i64 minV, .int .i64 step, .bool capped, .int .i64 maxV] w fun e w' =>
      e = .returned (.agg #[.int .i64 value, .int .i64 deft, .slice a len cap, .bool ranged, .int .i64 minV, .int .i64 step, .bool capped, .int .i64 maxV, .bool false]) ∧ ∃ o, w' = w.alloc o := by
  go_enter Try.func10, Try.ntmps10
  go_wp2
  exact bodyPost_ret (v := .agg #[.int .i64 value, .int .i64 deft, .slice a len cap, .bool ranged, .int .i64 minV, .int .i64 step, .bool capped, .int .i64 maxV, .bool false]) (by simp [results, Try.results10, go_sem]) rfl ⟨rfl, _, rfl⟩

end Go.Proofs.Qxb6600607a
