/-
  THE WALKS of the law FnExcludesIsMembership, a case each.
-/
import Derived.Test.Qxb6604993aSet
namespace Go.Proofs.Qxb6604993a
open Go.RowKit Go.Maps Go.WideMaps
set_option linter.unusedVariables false

set_option maxHeartbeats 400000 in
theorem law_long (a : Option Addr) (len cap : Nat) (q : ByteArray) (w : World) (hlen : 1048576 < len) (hmax : len ≤ 9223372036854775807) :
    Calls Try.prog 3 #[.slice a len cap, .string q] w fun e w' => e = .returned (.bool true) ∧ Below w.heap.size w w' := by
  go_enter Try.func3, Try.ntmps3
  go_wp2_with (go_at_call 4; refine (bytes_long a len cap q _ hlen hmax).mono ?_; rintro e w1 ⟨rfl, rfl⟩)
  go_ret
  exact ⟨rfl, Below.refl _ _⟩

set_option maxHeartbeats 400000 in
theorem law_longer (a : Option Addr) (len cap : Nat) (ss : List ByteArray) (q : ByteArray) (w : World) (hlen : 65536 < len) (hmax : len ≤ 1048576)
    (hb : Calls Try.prog 4 #[.slice a len cap, .string q] w fun e w' => Ans ss len e ∧ w' = w) :
    Calls Try.prog 3 #[.slice a len cap, .string q] w fun e w' => e = .returned (.bool true) ∧ Below w.heap.size w w' := by
  have HB := Lib.hid hb
  clear hb
  go_enter Try.func3, Try.ntmps3
  go_wp2_with fail
  refine HB.out.mono ?_
  rintro e w1 ⟨⟨r, rfl, _⟩, rfl⟩
  cases r
  · go_wp2
    go_ret
    exact ⟨rfl, Below.refl _ _⟩
  · go_wp2
    go_ret
    exact ⟨rfl, Below.refl _ _⟩

set_option maxHeartbeats 400000 in
theorem law_member (a : Option Addr) (len cap : Nat) (ss : List ByteArray) (q : ByteArray) (w : World) (hlen : len ≤ 65536) (hq : 1048576 < q.size) (hqm : q.size ≤ 9223372036854775807)
    (hb : Calls Try.prog 4 #[.slice a len cap, .string q] w fun e w' => Ans ss len e ∧ w' = w) :
    Calls Try.prog 3 #[.slice a len cap, .string q] w fun e w' => e = .returned (.bool true) ∧ Below w.heap.size w w' := by
  have HB := Lib.hid hb
  clear hb
  go_enter Try.func3, Try.ntmps3
  go_wp2_with fail
  refine HB.out.mono ?_
  rintro e w1 ⟨⟨r, rfl, _⟩, rfl⟩
  cases r
  · go_wp2
    go_ret
    exact ⟨rfl, Below.refl _ _⟩
  · go_wp2
    go_ret
    exact ⟨rfl, Below.refl _ _⟩

/-- The copy of a slice of no element. -/
theorem copy_none (a : Option Addr) (cap : Nat) (w : World) (hnil : a = none → cap = 0) : Calls Try.prog 5 #[.slice a 0 cap] w fun e w' => (∃ av cv, e = .returned (.slice av 0 cv)) ∧ Below w.heap.size w w' := by
  cases a with
  | none =>
    obtain rfl := hnil rfl
    refine (copy_nil w).mono ?_
    rintro e w' ⟨rfl, rfl⟩
    exact ⟨⟨_, _, rfl⟩, Below.refl _ _⟩
  | some x =>
    refine (copy_empty x cap w).mono ?_
    rintro e w' ⟨rfl, hb⟩
    exact ⟨⟨_, _, rfl⟩, hb⟩

set_option maxHeartbeats 1000000 in
/-- No key. -/
theorem law_none (a : Option Addr) (cap : Nat) (q : ByteArray) (w : World) (hq : q.size ≤ 1048576) (hnil : a = none → cap = 0) :
    Calls Try.prog 3 #[.slice a 0 cap, .string q] w fun e w' => e = .returned (.bool true) ∧ Below w.heap.size w w' := by
  have HB := Lib.hid (bytes_none a cap q w (by omega))
  have HC := Lib.hid (copy_none a cap w hnil)
  have HE := Lib.hid (fun w' => excl_nil q w' (by unfold maxLen; omega))
  clear hnil
  go_enter Try.func3, Try.ntmps3
  go_wp2_with fail
  refine HB.out.mono ?_
  rintro e w1 ⟨⟨r, rfl, _⟩, rfl⟩
  cases r
  · go_wp2
    go_ret
    exact ⟨rfl, Below.refl _ _⟩
  · go_wp2
    refine wp_loop_rounds 1 ?_
    rw [rounds_succ]
    go_wp2_with fail
    refine HC.out.mono ?_
    rintro e w2 ⟨⟨av, cv, rfl⟩, hb⟩
    go_wp2
    refine wp_loop_rounds 1 ?_
    rw [rounds_succ]
    go_wp2_with fail
    refine (HE.out _).mono ?_
    rintro e w3 ⟨rfl, o, rfl⟩
    go_wp2_with fail
    refine (in_empty _ _ _ _).mono ?_
    rintro e w4 ⟨rfl, rfl⟩
    go_wp2_with fail
    refine (HE.out _).mono ?_
    rintro e w5 ⟨rfl, o2, rfl⟩
    go_wp2
    go_ret
    exact ⟨rfl, (hb.alloc hb.size _).alloc (by have := hb.size; simp; omega) _⟩

end Go.Proofs.Qxb6604993a
