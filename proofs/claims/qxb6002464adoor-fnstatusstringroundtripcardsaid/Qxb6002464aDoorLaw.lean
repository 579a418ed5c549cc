/-
  THE WALKS of (Status).String and of the law FnStatusStringRoundTrip.
-/
import Derived.Test.Qxb6002464aDoorShelf
import Derived.Test.Qxb6002464aDoorParse
import Derived.Test.Qxb6002464aDoorPlain
namespace Go.Proofs.Qxb6002464aDoor
open Go.RowKit Go.Sort
set_option linter.unusedVariables false

set_option maxHeartbeats 400000 in
theorem string_zero (w : World) : Calls Tryd.prog 7 #[.int .i64 0] w fun e w' => e = .returned (.string { data := #[101, 114, 114, 111, 114] }) ∧ w' = w := by
  go_enter Tryd.func7, Tryd.ntmps7
  go_wp2
  go_ret
  exact ⟨rfl, rfl⟩

set_option maxHeartbeats 400000 in
theorem string_one (w : World) : Calls Tryd.prog 7 #[.int .i64 1] w fun e w' => e = .returned (.string { data := #[111, 107] }) ∧ w' = w := by
  go_enter Tryd.func7, Tryd.ntmps7
  go_wp2
  go_ret
  exact ⟨rfl, rfl⟩

/-- The word of the third form round a numeral. -/
def word (t : ByteArray) : ByteArray := ({ data := #[83, 116, 97, 116, 117, 115, 40] } : ByteArray) ++ t ++ ({ data := #[41] } : ByteArray)

theorem below_grow (w : World) (k : Nat) (os : Array Obj) : Below w.heap.size w (grow (w.drewN k) os) :=
  ⟨rfl, rfl, rfl, by simp [grow], fun i hi => by simp [grow, Array.getElem?_append, hi]⟩

set_option maxHeartbeats 400000 in
theorem string_other (n : Int) (h0 : -9223372036854775808 ≤ n) (h1 : n ≤ 9223372036854775807) (w : World) (htab : Lib.TabIs Tryd.prog w powName .u64 Lib.pow10Tab)
    (hn0 : (n == 0) = false) (hn1 : (n == 1) = false) :
    Calls Tryd.prog 7 #[.int .i64 n] w fun e w' => e = .returned (.string (word ⟨(Lib.itoa n).toArray⟩)) ∧ Below w.heap.size w w' := by
  have hlen := Lib.itoa_length_le n h0 h1
  obtain ⟨t, ht⟩ : ∃ t : ByteArray, t = ⟨(Lib.itoa n).toArray⟩ := ⟨_, rfl⟩
  have hcon := itoa_any n h0 h1 w htab
  rw [← ht] at hcon ⊢
  have hts : t.size ≤ 21 := by rw [ht]; simpa [ByteArray.size] using hlen
  have HC := Lib.hid hcon
  clear hcon ht hlen htab h0 h1
  unfold word
  go_enter Tryd.func7, Tryd.ntmps7
  go_wp2_with (go_at_call 15; refine (HC.out).mono ?_; rintro e w' ⟨rfl, k, os, rfl⟩)
  go_ret
  exact ⟨rfl, below_grow _ _ _⟩

end Go.Proofs.Qxb6002464aDoor
