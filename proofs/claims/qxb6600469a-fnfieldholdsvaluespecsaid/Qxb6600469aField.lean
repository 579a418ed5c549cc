/-
  THE WALKS of ZZFieldHoldsValue, and of the law itself behind the clone.
-/
import Derived.Test.Qxb6600469aHolds
namespace Go.Proofs.Qxb6600469a
open Go.RowKit
set_option linter.unusedVariables false

set_option maxHeartbeats 400000 in
theorem field_zero (a1 : Int) (a : Option Addr) (len cap : Nat) (w : World) :
    Calls Try.prog 7 #[.int .u64 0, .int .u64 a1, .slice a len cap] w fun e w' => e = .returned (.bool (a1 != 0)) ∧ ∃ o, w' = w.alloc o := by
  go_enter Try.func7, Try.ntmps7
  go_wp2
  go_ret
  exact ⟨rfl, _, rfl⟩

set_option maxHeartbeats 400000 in
theorem field_two (a1 : Int) (a : Option Addr) (len cap : Nat) (w : World) (hlen : len ≤ 1048576) :
    Calls Try.prog 7 #[.int .u64 2, .int .u64 a1, .slice a len cap] w fun e w' => e = .returned (.bool ((len : Int) != 0)) ∧ ∃ o, w' = w.alloc o := by
  by_cases h : 0 < len
  · have e : ((len : Int) != 0) = true := by simp; omega
    rw [e]
    clear e
    go_enter Try.func7, Try.ntmps7
    go_wp2
    go_ret
    exact ⟨rfl, _, rfl⟩
  · obtain rfl : len = 0 := by omega
    clear h
    go_enter Try.func7, Try.ntmps7
    go_wp2
    go_ret
    exact ⟨rfl, _, rfl⟩

set_option maxHeartbeats 400000 in
theorem field_empty (a0 a1 : Int) (a : Option Addr) (cap : Nat) (w : World) (h0 : (a0 == 0) = false) (h2 : (a0 == 2) = false) :
    Calls Try.prog 7 #[.int .u64 a0, .int .u64 a1, .slice a 0 cap] w fun e w' => e = .returned (.bool false) ∧ ∃ o, w' = w.alloc o := by
  go_enter Try.func7, Try.ntmps7
  go_wp2_with (first | (go_at_call 12; refine (idx_empty _ _ _).mono ?_; rintro e w' ⟨rfl, rfl⟩) | go_in)
  go_ret
  exact ⟨rfl, _, rfl⟩

set_option maxHeartbeats 400000 in
theorem field_none (a0 a1 : Int) (b off len cap : Nat) (zs : List Int) (w : World) (h0 : (a0 == 0) = false) (h2 : (a0 == 2) = false) (hlen : len ≤ 1048576) (hz : len ≤ zs.length)
    (hc : ∀ j, j < len → w.cell? ⟨b, off + j, none⟩ = some (.int .u8 (zs.getD j 0))) (hany : anyNZ zs len = false) :
    Calls Try.prog 7 #[.int .u64 a0, .int .u64 a1, .slice (some ⟨b, off, none⟩) len cap] w fun e w' => e = .returned (.bool false) ∧ ∃ o, w' = w.alloc o := by
  have hcon := fun o => idx_none b off len cap zs (w.alloc o) hlen hz (fun j hj => Lib.cell?_alloc_some o (hc j hj)) hany
  have HC : Hid (∀ o, Calls Try.prog 12 #[.slice (some ⟨b, off, none⟩) len cap, .func (.func 11) #[] #[]] (w.alloc o) fun e w' => e = .returned (.int .i64 (-1)) ∧ w' = w.alloc o) := hcon
  clear hcon hc hany
  go_enter Try.func7, Try.ntmps7
  go_wp2_with (first | (go_at_call 12; refine (HC.out _).mono ?_; rintro e w' ⟨rfl, rfl⟩) | go_in)
  go_ret
  exact ⟨rfl, _, rfl⟩

set_option maxHeartbeats 400000 in
theorem field_some (a0 a1 : Int) (b off len cap : Nat) (zs : List Int) (w : World) (h0 : (a0 == 0) = false) (h2 : (a0 == 2) = false) (hlen : len ≤ 1048576) (hz : len ≤ zs.length)
    (hc : ∀ j, j < len → w.cell? ⟨b, off + j, none⟩ = some (.int .u8 (zs.getD j 0))) (hany : anyNZ zs len = true) :
    Calls Try.prog 7 #[.int .u64 a0, .int .u64 a1, .slice (some ⟨b, off, none⟩) len cap] w fun e w' => e = .returned (.bool true) ∧ ∃ o, w' = w.alloc o := by
  have hcon := fun o => idx_some b off len cap zs (w.alloc o) hlen hz (fun j hj => Lib.cell?_alloc_some o (hc j hj)) hany
  have HC : Hid (∀ o, Calls Try.prog 12 #[.slice (some ⟨b, off, none⟩) len cap, .func (.func 11) #[] #[]] (w.alloc o) fun e w' => (∃ k : Nat, k < len ∧ e = .returned (.int .i64 k)) ∧ w' = w.alloc o) := hcon
  clear hcon hc hany
  go_enter Try.func7, Try.ntmps7
  go_wp2_with (first | (go_at_call 12; refine (HC.out _).mono ?_; rintro e w' ⟨⟨k, hk, rfl⟩, rfl⟩) | go_in)
  go_ret
  exact ⟨rfl, _, rfl⟩

end Go.Proofs.Qxb6600469a
