/-
  THE WALK of the bound on total length: it answers something, and where it answers true every key is short.
-/
import Derived.Test.Qxb6604993aCopy
namespace Go.Proofs.Qxb6604993a
open Go.RowKit
set_option linter.unusedVariables false

def Short (ss : List ByteArray) (n : Nat) : Prop := ∀ j, j < n → (strAt ss j).size ≤ 1048576

theorem short_zero (ss : List ByteArray) : Short ss 0 := fun j hj => by omega
theorem short_succ {ss : List ByteArray} {k : Nat} (h : Short ss k) (hk : (strAt ss k).size ≤ 1048576) : Short ss (k + 1) := fun j hj => by
  rcases Nat.lt_or_ge j k with h1 | h1
  · exact h j h1
  · rw [show j = k by omega]; exact hk

/-- What it answers: something; where it is true every key is short. -/
def Ans (ss : List ByteArray) (len : Nat) (e : Ending) : Prop := ∃ r, e = .returned (.bool r) ∧ (r = true → Short ss len)
theorem ans_false (ss : List ByteArray) (len : Nat) : Ans ss len (.returned (.bool false)) := ⟨_, rfl, fun h => by cases h⟩
theorem ans_true {ss : List ByteArray} {len : Nat} (h : Short ss len) : Ans ss len (.returned (.bool true)) := ⟨_, rfl, fun _ => h⟩

set_option maxHeartbeats 400000 in
theorem bytes_long (a : Option Addr) (len cap : Nat) (q : ByteArray) (w : World) (hlen : 1048576 < len) (hmax : len ≤ 9223372036854775807) :
    Calls Try.prog 4 #[.slice a len cap, .string q] w fun e w' => e = .returned (.bool false) ∧ w' = w := by
  go_enter Try.func4, Try.ntmps4
  go_wp2
  go_ret
  exact ⟨rfl, rfl⟩

set_option maxHeartbeats 1000000 in
theorem bytes_none (a : Option Addr) (cap : Nat) (q : ByteArray) (w : World) (hq : q.size ≤ 9223372036854775807) :
    Calls Try.prog 4 #[.slice a 0 cap, .string q] w fun e w' => Ans [] 0 e ∧ w' = w := by
  rcases Nat.lt_or_ge 1048576 q.size with h | h
  · go_enter Try.func4, Try.ntmps4
    go_wp2
    refine wp_loop_rounds 1 ?_
    rw [rounds_succ]
    go_wp2
    go_ret
    exact ⟨ans_false _ _, rfl⟩
  · go_enter Try.func4, Try.ntmps4
    go_wp2
    refine wp_loop_rounds 1 ?_
    rw [rounds_succ]
    go_wp2
    go_ret
    exact ⟨ans_true (short_zero _), rfl⟩

set_option maxHeartbeats 1000000 in
theorem bytes_row (b off len cap : Nat) (ss : List ByteArray) (q : ByteArray) (w : World) (hlen : len ≤ 1048576) (hq : q.size ≤ 9223372036854775807)
    (hc : ∀ j, j < len → w.cell? ⟨b, off + j, none⟩ = some (.string (strAt ss j))) (hm : ∀ j, (strAt ss j).size ≤ 9223372036854775807) :
    Calls Try.prog 4 #[.slice (some ⟨b, off, none⟩) len cap, .string q] w fun e w' => Ans ss len e ∧ w' = w := by
  have HC : ∀ j, j < len → Hid (w.cell? ⟨b, off + j, none⟩ = some (.string (strAt ss j))) := hc
  have HM := Lib.hid hm
  clear hc hm
  go_enter Try.func4, Try.ntmps4
  go_wp2
  go_loop [5, 6] (fun t i => ∃ k : Nat, k ≤ len ∧ i = .int .i64 k ∧ (∃ m : Int, t = .int .i64 m ∧ 0 ≤ m ∧ m ≤ 1048576) ∧ Hid (Short ss k)) (fun _ i => len - (intOf i).toNat)
  case atStart => exact ⟨0, Nat.zero_le _, rfl, ⟨_, rfl, by omega, by omega⟩, short_zero ss⟩
  case round =>
    obtain ⟨k, hk, rfl, ⟨m, rfl, m0, m1⟩, hsh⟩ := hrel
    by_cases hlt : k < len
    · obtain ⟨s, hs⟩ : ∃ s, s = strAt ss k := ⟨_, rfl⟩
      have hcx : w.cell? ⟨b, off + k, none⟩ = some (.string s) := by rw [hs]; exact (HC k hlt).out
      have hms : s.size ≤ 9223372036854775807 := by rw [hs]; exact HM.out k
      have HS := Lib.hid hs
      clear hs
      rcases Nat.lt_or_ge 1048576 s.size with h1 | h1
      · go_wp2
        go_ret
        exact ⟨ans_false ss len, rfl⟩
      · rcases Int.lt_or_le 1048576 (m + s.size) with h2 | h2
        · go_wp2
          go_ret
          exact ⟨ans_false ss len, rfl⟩
        · go_wp2
          go_round
          case rel => exact ⟨k + 1, by omega, by go_num, ⟨_, rfl, by omega, h2⟩, short_succ hsh.out (by rw [← HS.out]; exact h1)⟩
          case measure => simp [intOf]; omega
    · have hkl : k = len := by omega
      rcases Nat.lt_or_ge 1048576 q.size with h1 | h1
      · go_wp2
        go_ret
        exact ⟨ans_false ss len, rfl⟩
      · rcases Int.lt_or_le 1048576 (m + q.size) with h2 | h2
        · go_wp2
          go_ret
          exact ⟨ans_false ss len, rfl⟩
        · go_wp2
          go_ret
          exact ⟨ans_true (hkl ▸ hsh.out), rfl⟩

end Go.Proofs.Qxb6604993a
