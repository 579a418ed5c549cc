/-
  THE WALKS of (*SharePolicy).Take, a case each.
-/
import Derived.Test.Qxb6600607aClone
import Derived.Deep.QuietTactic
import Derived.BigQuiet
namespace Go.Proofs.Qxb6600607a
open Go.RowKit
set_option linter.unusedVariables false

/-- The policy's eight cells. -/
structure Pol (w : World) (b : Nat) (value deft : Int) (vs : Value) (ranged : Bool) (minV step : Int) (capped : Bool) (maxV : Int) : Prop where
  c0 : w.cell? ⟨b, 0, none⟩ = some (.int .i64 value)
  c1 : w.cell? ⟨b, 1, none⟩ = some (.int .i64 deft)
  c2 : w.cell? ⟨b, 2, none⟩ = some vs
  c3 : w.cell? ⟨b, 3, none⟩ = some (.bool ranged)
  c4 : w.cell? ⟨b, 4, none⟩ = some (.int .i64 minV)
  c5 : w.cell? ⟨b, 5, none⟩ = some (.int .i64 step)
  c6 : w.cell? ⟨b, 6, none⟩ = some (.bool capped)
  c7 : w.cell? ⟨b, 7, none⟩ = some (.int .i64 maxV)

set_option maxHeartbeats 1000000 in
theorem take_unnamed (w : World) (b : Nat) (value deft : Int) (vs : Value) (ranged : Bool) (minV step : Int) (capped : Bool) (maxV asked : Int) (hp : Pol w b value deft vs ranged minV step capped maxV) :
    Calls Try.prog 11 #[.pointer (some ⟨b, 0, none⟩), .int .i64 asked, .bool false] w fun e w' => e = .returned (.tuple #[.int .i64 (deft), .bool (decide (deft ≤ value))]) ∧ ∃ n, w' = w.drewN n := by
  obtain ⟨c0, c1, c2, c3, c4, c5, c6, c7⟩ := hp
  clear c2 c3 c4 c5 c6 c7
  go_enter Try.func11, Try.ntmps11
  go_wp2
  go_quiet (fail)
  go_wp2
  go_ret2
  exact ⟨rfl, _, by first | rfl | rw [World.drewN_drewN]⟩

set_option maxHeartbeats 1000000 in
theorem take_plain (w : World) (b : Nat) (value deft : Int) (minV step : Int) (capped : Bool) (maxV asked : Int) (hp : Pol w b value deft (.slice none 0 0) false minV step capped maxV) :
    Calls Try.prog 11 #[.pointer (some ⟨b, 0, none⟩), .int .i64 asked, .bool true] w fun e w' => e = .returned (.tuple #[.int .i64 (asked), .bool (decide (asked ≤ value))]) ∧ ∃ n, w' = w.drewN n := by
  obtain ⟨c0, c1, c2, c3, c4, c5, c6, c7⟩ := hp
  clear c4 c5 c6 c7
  have hn := fun w' a n c => run_neq_slice_nil_any (P := Try.prog) w' 22 2 a n c 0 0 Try.underlying22
  go_enter Try.func11, Try.ntmps11
  go_wp2
  go_quiet (fail)
  go_wp2
  go_ret2
  exact ⟨rfl, _, by first | rfl | rw [World.drewN_drewN]⟩

set_option maxHeartbeats 1000000 in
theorem take_range_below_free (w : World) (b : Nat) (value deft : Int) (minV step : Int) (maxV asked : Int) (hp : Pol w b value deft (.slice none 0 0) true minV step false maxV) (hs : step ≤ 0) (ham : asked < minV)  :
    Calls Try.prog 11 #[.pointer (some ⟨b, 0, none⟩), .int .i64 asked, .bool true] w fun e w' => e = .returned (.tuple #[.int .i64 (minV), .bool (decide (minV ≤ value))]) ∧ ∃ n, w' = w.drewN n := by
  obtain ⟨c0, c1, c2, c3, c4, c5, c6, c7⟩ := hp
  have hn := fun w' a n c => run_neq_slice_nil_any (P := Try.prog) w' 22 2 a n c 0 0 Try.underlying22
  go_enter Try.func11, Try.ntmps11
  go_wp2
  go_quiet (fail)
  go_wp2
  go_ret2
  exact ⟨rfl, _, by first | rfl | rw [World.drewN_drewN]⟩

set_option maxHeartbeats 1000000 in
theorem take_range_below_in (w : World) (b : Nat) (value deft : Int) (minV step : Int) (maxV asked : Int) (hp : Pol w b value deft (.slice none 0 0) true minV step true maxV) (hs : step ≤ 0) (ham : asked < minV) (hcap : minV ≤ maxV) :
    Calls Try.prog 11 #[.pointer (some ⟨b, 0, none⟩), .int .i64 asked, .bool true] w fun e w' => e = .returned (.tuple #[.int .i64 (minV), .bool (decide (minV ≤ value))]) ∧ ∃ n, w' = w.drewN n := by
  obtain ⟨c0, c1, c2, c3, c4, c5, c6, c7⟩ := hp
  have hn := fun w' a n c => run_neq_slice_nil_any (P := Try.prog) w' 22 2 a n c 0 0 Try.underlying22
  go_enter Try.func11, Try.ntmps11
  go_wp2
  go_quiet (fail)
  go_wp2
  go_ret2
  exact ⟨rfl, _, by first | rfl | rw [World.drewN_drewN]⟩

set_option maxHeartbeats 1000000 in
theorem take_range_below_out (w : World) (b : Nat) (value deft : Int) (minV step : Int) (maxV asked : Int) (hp : Pol w b value deft (.slice none 0 0) true minV step true maxV) (hs : step ≤ 0) (ham : asked < minV) (hcap : maxV < minV) :
    Calls Try.prog 11 #[.pointer (some ⟨b, 0, none⟩), .int .i64 asked, .bool true] w fun e w' => e = .returned (.tuple #[.int .i64 (0), .bool (false)]) ∧ ∃ n, w' = w.drewN n := by
  obtain ⟨c0, c1, c2, c3, c4, c5, c6, c7⟩ := hp
  have hn := fun w' a n c => run_neq_slice_nil_any (P := Try.prog) w' 22 2 a n c 0 0 Try.underlying22
  go_enter Try.func11, Try.ntmps11
  go_wp2
  go_ret2
  exact ⟨rfl, 0, rfl⟩

set_option maxHeartbeats 1000000 in
theorem take_range_above_free (w : World) (b : Nat) (value deft : Int) (minV step : Int) (maxV asked : Int) (hp : Pol w b value deft (.slice none 0 0) true minV step false maxV) (hs : step ≤ 0) (ham : minV ≤ asked)  :
    Calls Try.prog 11 #[.pointer (some ⟨b, 0, none⟩), .int .i64 asked, .bool true] w fun e w' => e = .returned (.tuple #[.int .i64 (asked), .bool (decide (asked ≤ value))]) ∧ ∃ n, w' = w.drewN n := by
  obtain ⟨c0, c1, c2, c3, c4, c5, c6, c7⟩ := hp
  have hn := fun w' a n c => run_neq_slice_nil_any (P := Try.prog) w' 22 2 a n c 0 0 Try.underlying22
  go_enter Try.func11, Try.ntmps11
  go_wp2
  go_quiet (fail)
  go_wp2
  go_ret2
  exact ⟨rfl, _, by first | rfl | rw [World.drewN_drewN]⟩

set_option maxHeartbeats 1000000 in
theorem take_range_above_in (w : World) (b : Nat) (value deft : Int) (minV step : Int) (maxV asked : Int) (hp : Pol w b value deft (.slice none 0 0) true minV step true maxV) (hs : step ≤ 0) (ham : minV ≤ asked) (hcap : asked ≤ maxV) :
    Calls Try.prog 11 #[.pointer (some ⟨b, 0, none⟩), .int .i64 asked, .bool true] w fun e w' => e = .returned (.tuple #[.int .i64 (asked), .bool (decide (asked ≤ value))]) ∧ ∃ n, w' = w.drewN n := by
  obtain ⟨c0, c1, c2, c3, c4, c5, c6, c7⟩ := hp
  have hn := fun w' a n c => run_neq_slice_nil_any (P := Try.prog) w' 22 2 a n c 0 0 Try.underlying22
  go_enter Try.func11, Try.ntmps11
  go_wp2
  go_quiet (fail)
  go_wp2
  go_ret2
  exact ⟨rfl, _, by first | rfl | rw [World.drewN_drewN]⟩

set_option maxHeartbeats 1000000 in
theorem take_range_above_out (w : World) (b : Nat) (value deft : Int) (minV step : Int) (maxV asked : Int) (hp : Pol w b value deft (.slice none 0 0) true minV step true maxV) (hs : step ≤ 0) (ham : minV ≤ asked) (hcap : maxV < asked) :
    Calls Try.prog 11 #[.pointer (some ⟨b, 0, none⟩), .int .i64 asked, .bool true] w fun e w' => e = .returned (.tuple #[.int .i64 (0), .bool (false)]) ∧ ∃ n, w' = w.drewN n := by
  obtain ⟨c0, c1, c2, c3, c4, c5, c6, c7⟩ := hp
  have hn := fun w' a n c => run_neq_slice_nil_any (P := Try.prog) w' 22 2 a n c 0 0 Try.underlying22
  go_enter Try.func11, Try.ntmps11
  go_wp2
  go_ret2
  exact ⟨rfl, 0, rfl⟩

set_option maxHeartbeats 1000000 in
theorem take_step_below_free (w : World) (b : Nat) (value deft : Int) (minV step : Int) (maxV asked : Int) (hp : Pol w b value deft (.slice none 0 0) true minV step false maxV) (hs : 0 < step) (hs2 : step ≤ 9223372036854775807) (v1 : -1152921504606846976 ≤ value) (v2 : value ≤ 1152921504606846976) (m1 : -1152921504606846976 ≤ minV) (m2 : minV ≤ 1152921504606846976) (a1 : -1152921504606846976 ≤ asked) (a2 : asked ≤ 1152921504606846976) (hvm : minV ≤ value) (Q : Int) (hQ : (value - minV) / step = Q) (Q0 : 0 ≤ Q) (Q1 : Q ≤ 2305843009213693952) (ham : asked < minV)  :
    Calls Try.prog 11 #[.pointer (some ⟨b, 0, none⟩), .int .i64 asked, .bool true] w fun e w' => e = .returned (.tuple #[.int .i64 (minV), .bool (true)]) ∧ ∃ n, w' = w.drewN n := by
  obtain ⟨c0, c1, c2, c3, c4, c5, c6, c7⟩ := hp
  have hn := fun w' a n c => run_neq_slice_nil_any (P := Try.prog) w' 22 2 a n c 0 0 Try.underlying22
  go_enter Try.func11, Try.ntmps11
  go_wp2
  go_quiet (fail)
  go_wp2
  go_quiet (fail)
  go_wp2
  go_quiet (fail)
  go_wp2
  go_ret2
  exact ⟨rfl, _, by first | rfl | rw [World.drewN_drewN]⟩

set_option maxHeartbeats 1000000 in
theorem take_step_below_in (w : World) (b : Nat) (value deft : Int) (minV step : Int) (maxV asked : Int) (hp : Pol w b value deft (.slice none 0 0) true minV step true maxV) (hs : 0 < step) (hs2 : step ≤ 9223372036854775807) (v1 : -1152921504606846976 ≤ value) (v2 : value ≤ 1152921504606846976) (m1 : -1152921504606846976 ≤ minV) (m2 : minV ≤ 1152921504606846976) (a1 : -1152921504606846976 ≤ asked) (a2 : asked ≤ 1152921504606846976) (hvm : minV ≤ value) (Q : Int) (hQ : (value - minV) / step = Q) (Q0 : 0 ≤ Q) (Q1 : Q ≤ 2305843009213693952) (ham : asked < minV) (hcap : minV ≤ maxV) :
    Calls Try.prog 11 #[.pointer (some ⟨b, 0, none⟩), .int .i64 asked, .bool true] w fun e w' => e = .returned (.tuple #[.int .i64 (minV), .bool (true)]) ∧ ∃ n, w' = w.drewN n := by
  obtain ⟨c0, c1, c2, c3, c4, c5, c6, c7⟩ := hp
  have hn := fun w' a n c => run_neq_slice_nil_any (P := Try.prog) w' 22 2 a n c 0 0 Try.underlying22
  go_enter Try.func11, Try.ntmps11
  go_wp2
  go_quiet (fail)
  go_wp2
  go_quiet (fail)
  go_wp2
  go_quiet (fail)
  go_wp2
  go_ret2
  exact ⟨rfl, _, by first | rfl | rw [World.drewN_drewN]⟩

set_option maxHeartbeats 1000000 in
theorem take_step_below_out (w : World) (b : Nat) (value deft : Int) (minV step : Int) (maxV asked : Int) (hp : Pol w b value deft (.slice none 0 0) true minV step true maxV) (hs : 0 < step) (hs2 : step ≤ 9223372036854775807) (v1 : -1152921504606846976 ≤ value) (v2 : value ≤ 1152921504606846976) (m1 : -1152921504606846976 ≤ minV) (m2 : minV ≤ 1152921504606846976) (a1 : -1152921504606846976 ≤ asked) (a2 : asked ≤ 1152921504606846976) (hvm : minV ≤ value) (Q : Int) (hQ : (value - minV) / step = Q) (Q0 : 0 ≤ Q) (Q1 : Q ≤ 2305843009213693952) (ham : asked < minV) (hcap : maxV < minV) :
    Calls Try.prog 11 #[.pointer (some ⟨b, 0, none⟩), .int .i64 asked, .bool true] w fun e w' => e = .returned (.tuple #[.int .i64 (0), .bool (false)]) ∧ ∃ n, w' = w.drewN n := by
  obtain ⟨c0, c1, c2, c3, c4, c5, c6, c7⟩ := hp
  have hn := fun w' a n c => run_neq_slice_nil_any (P := Try.prog) w' 22 2 a n c 0 0 Try.underlying22
  go_enter Try.func11, Try.ntmps11
  go_wp2
  go_quiet (fail)
  go_wp2
  go_quiet (fail)
  go_wp2
  go_ret2
  exact ⟨rfl, _, by first | rfl | rw [World.drewN_drewN]⟩

set_option maxHeartbeats 1000000 in
theorem take_step_zero_over (w : World) (b : Nat) (value deft : Int) (minV step : Int) (capped : Bool) (maxV asked : Int) (hp : Pol w b value deft (.slice none 0 0) true minV step capped maxV) (hs : 0 < step) (hs2 : step ≤ 9223372036854775807) (v1 : -1152921504606846976 ≤ value) (v2 : value ≤ 1152921504606846976) (m1 : -1152921504606846976 ≤ minV) (m2 : minV ≤ 1152921504606846976) (a1 : -1152921504606846976 ≤ asked) (a2 : asked ≤ 1152921504606846976) (hvm : minV ≤ value) (Q : Int) (hQ : (value - minV) / step = Q) (Q0 : 0 ≤ Q) (Q1 : Q ≤ 2305843009213693952) (ham : minV ≤ asked) (q : Int) (hq : (asked - minV) / step = q) (q0 : 0 ≤ q) (q1 : q ≤ 2305843009213693952) (hr : ((asked - minV) % step != 0) = false) (hover : Q < q) :
    Calls Try.prog 11 #[.pointer (some ⟨b, 0, none⟩), .int .i64 asked, .bool true] w fun e w' => e = .returned (.tuple #[.int .i64 (0), .bool (false)]) ∧ ∃ n, w' = w.drewN n := by
  obtain ⟨c0, c1, c2, c3, c4, c5, c6, c7⟩ := hp
  have hn := fun w' a n c => run_neq_slice_nil_any (P := Try.prog) w' 22 2 a n c 0 0 Try.underlying22
  go_enter Try.func11, Try.ntmps11
  go_wp2
  go_quiet (fail)
  go_wp2
  go_ret2
  exact ⟨rfl, _, by first | rfl | rw [World.drewN_drewN]⟩

set_option maxHeartbeats 1000000 in
theorem take_step_zero_free (w : World) (b : Nat) (value deft : Int) (minV step : Int) (maxV asked : Int) (hp : Pol w b value deft (.slice none 0 0) true minV step false maxV) (hs : 0 < step) (hs2 : step ≤ 9223372036854775807) (v1 : -1152921504606846976 ≤ value) (v2 : value ≤ 1152921504606846976) (m1 : -1152921504606846976 ≤ minV) (m2 : minV ≤ 1152921504606846976) (a1 : -1152921504606846976 ≤ asked) (a2 : asked ≤ 1152921504606846976) (hvm : minV ≤ value) (Q : Int) (hQ : (value - minV) / step = Q) (Q0 : 0 ≤ Q) (Q1 : Q ≤ 2305843009213693952) (ham : minV ≤ asked) (q : Int) (hq : (asked - minV) / step = q) (q0 : 0 ≤ q) (q1 : q ≤ 2305843009213693952) (hr : ((asked - minV) % step != 0) = false) (hover : q ≤ Q) (s0 : 0 ≤ q * step) (s1 : minV + q * step ≤ value)  :
    Calls Try.prog 11 #[.pointer (some ⟨b, 0, none⟩), .int .i64 asked, .bool true] w fun e w' => e = .returned (.tuple #[.int .i64 (minV + q * step), .bool (true)]) ∧ ∃ n, w' = w.drewN n := by
  obtain ⟨c0, c1, c2, c3, c4, c5, c6, c7⟩ := hp
  have hn := fun w' a n c => run_neq_slice_nil_any (P := Try.prog) w' 22 2 a n c 0 0 Try.underlying22
  go_enter Try.func11, Try.ntmps11
  go_wp2
  go_quiet (fail)
  go_wp2
  go_quiet (fail)
  go_wp2
  go_quiet (fail)
  go_wp2
  go_ret2
  exact ⟨rfl, _, by first | rfl | rw [World.drewN_drewN]⟩

set_option maxHeartbeats 1000000 in
theorem take_step_zero_in (w : World) (b : Nat) (value deft : Int) (minV step : Int) (maxV asked : Int) (hp : Pol w b value deft (.slice none 0 0) true minV step true maxV) (hs : 0 < step) (hs2 : step ≤ 9223372036854775807) (v1 : -1152921504606846976 ≤ value) (v2 : value ≤ 1152921504606846976) (m1 : -1152921504606846976 ≤ minV) (m2 : minV ≤ 1152921504606846976) (a1 : -1152921504606846976 ≤ asked) (a2 : asked ≤ 1152921504606846976) (hvm : minV ≤ value) (Q : Int) (hQ : (value - minV) / step = Q) (Q0 : 0 ≤ Q) (Q1 : Q ≤ 2305843009213693952) (ham : minV ≤ asked) (q : Int) (hq : (asked - minV) / step = q) (q0 : 0 ≤ q) (q1 : q ≤ 2305843009213693952) (hr : ((asked - minV) % step != 0) = false) (hover : q ≤ Q) (s0 : 0 ≤ q * step) (s1 : minV + q * step ≤ value) (hcap : minV + q * step ≤ maxV) :
    Calls Try.prog 11 #[.pointer (some ⟨b, 0, none⟩), .int .i64 asked, .bool true] w fun e w' => e = .returned (.tuple #[.int .i64 (minV + q * step), .bool (true)]) ∧ ∃ n, w' = w.drewN n := by
  obtain ⟨c0, c1, c2, c3, c4, c5, c6, c7⟩ := hp
  have hn := fun w' a n c => run_neq_slice_nil_any (P := Try.prog) w' 22 2 a n c 0 0 Try.underlying22
  go_enter Try.func11, Try.ntmps11
  go_wp2
  go_quiet (fail)
  go_wp2
  go_quiet (fail)
  go_wp2
  go_quiet (fail)
  go_wp2
  go_ret2
  exact ⟨rfl, _, by first | rfl | rw [World.drewN_drewN]⟩

set_option maxHeartbeats 1000000 in
theorem take_step_zero_out (w : World) (b : Nat) (value deft : Int) (minV step : Int) (maxV asked : Int) (hp : Pol w b value deft (.slice none 0 0) true minV step true maxV) (hs : 0 < step) (hs2 : step ≤ 9223372036854775807) (v1 : -1152921504606846976 ≤ value) (v2 : value ≤ 1152921504606846976) (m1 : -1152921504606846976 ≤ minV) (m2 : minV ≤ 1152921504606846976) (a1 : -1152921504606846976 ≤ asked) (a2 : asked ≤ 1152921504606846976) (hvm : minV ≤ value) (Q : Int) (hQ : (value - minV) / step = Q) (Q0 : 0 ≤ Q) (Q1 : Q ≤ 2305843009213693952) (ham : minV ≤ asked) (q : Int) (hq : (asked - minV) / step = q) (q0 : 0 ≤ q) (q1 : q ≤ 2305843009213693952) (hr : ((asked - minV) % step != 0) = false) (hover : q ≤ Q) (s0 : 0 ≤ q * step) (s1 : minV + q * step ≤ value) (hcap : maxV < minV + q * step) :
    Calls Try.prog 11 #[.pointer (some ⟨b, 0, none⟩), .int .i64 asked, .bool true] w fun e w' => e = .returned (.tuple #[.int .i64 (0), .bool (false)]) ∧ ∃ n, w' = w.drewN n := by
  obtain ⟨c0, c1, c2, c3, c4, c5, c6, c7⟩ := hp
  have hn := fun w' a n c => run_neq_slice_nil_any (P := Try.prog) w' 22 2 a n c 0 0 Try.underlying22
  go_enter Try.func11, Try.ntmps11
  go_wp2
  go_quiet (fail)
  go_wp2
  go_quiet (fail)
  go_wp2
  go_ret2
  exact ⟨rfl, _, by first | rfl | rw [World.drewN_drewN]⟩

set_option maxHeartbeats 1000000 in
theorem take_step_more_over (w : World) (b : Nat) (value deft : Int) (minV step : Int) (capped : Bool) (maxV asked : Int) (hp : Pol w b value deft (.slice none 0 0) true minV step capped maxV) (hs : 0 < step) (hs2 : step ≤ 9223372036854775807) (v1 : -1152921504606846976 ≤ value) (v2 : value ≤ 1152921504606846976) (m1 : -1152921504606846976 ≤ minV) (m2 : minV ≤ 1152921504606846976) (a1 : -1152921504606846976 ≤ asked) (a2 : asked ≤ 1152921504606846976) (hvm : minV ≤ value) (Q : Int) (hQ : (value - minV) / step = Q) (Q0 : 0 ≤ Q) (Q1 : Q ≤ 2305843009213693952) (ham : minV ≤ asked) (q : Int) (hq : (asked - minV) / step = q) (q0 : 0 ≤ q) (q1 : q ≤ 2305843009213693952) (hr : ((asked - minV) % step != 0) = true) (hover : Q < (q + 1)) :
    Calls Try.prog 11 #[.pointer (some ⟨b, 0, none⟩), .int .i64 asked, .bool true] w fun e w' => e = .returned (.tuple #[.int .i64 (0), .bool (false)]) ∧ ∃ n, w' = w.drewN n := by
  obtain ⟨c0, c1, c2, c3, c4, c5, c6, c7⟩ := hp
  have hn := fun w' a n c => run_neq_slice_nil_any (P := Try.prog) w' 22 2 a n c 0 0 Try.underlying22
  go_enter Try.func11, Try.ntmps11
  go_wp2
  go_quiet (fail)
  go_wp2
  go_ret2
  exact ⟨rfl, _, by first | rfl | rw [World.drewN_drewN]⟩

set_option maxHeartbeats 1000000 in
theorem take_step_more_free (w : World) (b : Nat) (value deft : Int) (minV step : Int) (maxV asked : Int) (hp : Pol w b value deft (.slice none 0 0) true minV step false maxV) (hs : 0 < step) (hs2 : step ≤ 9223372036854775807) (v1 : -1152921504606846976 ≤ value) (v2 : value ≤ 1152921504606846976) (m1 : -1152921504606846976 ≤ minV) (m2 : minV ≤ 1152921504606846976) (a1 : -1152921504606846976 ≤ asked) (a2 : asked ≤ 1152921504606846976) (hvm : minV ≤ value) (Q : Int) (hQ : (value - minV) / step = Q) (Q0 : 0 ≤ Q) (Q1 : Q ≤ 2305843009213693952) (ham : minV ≤ asked) (q : Int) (hq : (asked - minV) / step = q) (q0 : 0 ≤ q) (q1 : q ≤ 2305843009213693952) (hr : ((asked - minV) % step != 0) = true) (hover : (q + 1) ≤ Q) (s0 : 0 ≤ (q + 1) * step) (s1 : minV + (q + 1) * step ≤ value)  :
    Calls Try.prog 11 #[.pointer (some ⟨b, 0, none⟩), .int .i64 asked, .bool true] w fun e w' => e = .returned (.tuple #[.int .i64 (minV + (q + 1) * step), .bool (true)]) ∧ ∃ n, w' = w.drewN n := by
  obtain ⟨c0, c1, c2, c3, c4, c5, c6, c7⟩ := hp
  have hn := fun w' a n c => run_neq_slice_nil_any (P := Try.prog) w' 22 2 a n c 0 0 Try.underlying22
  go_enter Try.func11, Try.ntmps11
  go_wp2
  go_quiet (fail)
  go_wp2
  go_quiet (fail)
  go_wp2
  go_quiet (fail)
  go_wp2
  go_ret2
  exact ⟨rfl, _, by first | rfl | rw [World.drewN_drewN]⟩

set_option maxHeartbeats 1000000 in
theorem take_step_more_in (w : World) (b : Nat) (value deft : Int) (minV step : Int) (maxV asked : Int) (hp : Pol w b value deft (.slice none 0 0) true minV step true maxV) (hs : 0 < step) (hs2 : step ≤ 9223372036854775807) (v1 : -1152921504606846976 ≤ value) (v2 : value ≤ 1152921504606846976) (m1 : -1152921504606846976 ≤ minV) (m2 : minV ≤ 1152921504606846976) (a1 : -1152921504606846976 ≤ asked) (a2 : asked ≤ 1152921504606846976) (hvm : minV ≤ value) (Q : Int) (hQ : (value - minV) / step = Q) (Q0 : 0 ≤ Q) (Q1 : Q ≤ 2305843009213693952) (ham : minV ≤ asked) (q : Int) (hq : (asked - minV) / step = q) (q0 : 0 ≤ q) (q1 : q ≤ 2305843009213693952) (hr : ((asked - minV) % step != 0) = true) (hover : (q + 1) ≤ Q) (s0 : 0 ≤ (q + 1) * step) (s1 : minV + (q + 1) * step ≤ value) (hcap : minV + (q + 1) * step ≤ maxV) :
    Calls Try.prog 11 #[.pointer (some ⟨b, 0, none⟩), .int .i64 asked, .bool true] w fun e w' => e = .returned (.tuple #[.int .i64 (minV + (q + 1) * step), .bool (true)]) ∧ ∃ n, w' = w.drewN n := by
  obtain ⟨c0, c1, c2, c3, c4, c5, c6, c7⟩ := hp
  have hn := fun w' a n c => run_neq_slice_nil_any (P := Try.prog) w' 22 2 a n c 0 0 Try.underlying22
  go_enter Try.func11, Try.ntmps11
  go_wp2
  go_quiet (fail)
  go_wp2
  go_quiet (fail)
  go_wp2
  go_quiet (fail)
  go_wp2
  go_ret2
  exact ⟨rfl, _, by first | rfl | rw [World.drewN_drewN]⟩

set_option maxHeartbeats 1000000 in
theorem take_step_more_out (w : World) (b : Nat) (value deft : Int) (minV step : Int) (maxV asked : Int) (hp : Pol w b value deft (.slice none 0 0) true minV step true maxV) (hs : 0 < step) (hs2 : step ≤ 9223372036854775807) (v1 : -1152921504606846976 ≤ value) (v2 : value ≤ 1152921504606846976) (m1 : -1152921504606846976 ≤ minV) (m2 : minV ≤ 1152921504606846976) (a1 : -1152921504606846976 ≤ asked) (a2 : asked ≤ 1152921504606846976) (hvm : minV ≤ value) (Q : Int) (hQ : (value - minV) / step = Q) (Q0 : 0 ≤ Q) (Q1 : Q ≤ 2305843009213693952) (ham : minV ≤ asked) (q : Int) (hq : (asked - minV) / step = q) (q0 : 0 ≤ q) (q1 : q ≤ 2305843009213693952) (hr : ((asked - minV) % step != 0) = true) (hover : (q + 1) ≤ Q) (s0 : 0 ≤ (q + 1) * step) (s1 : minV + (q + 1) * step ≤ value) (hcap : maxV < minV + (q + 1) * step) :
    Calls Try.prog 11 #[.pointer (some ⟨b, 0, none⟩), .int .i64 asked, .bool true] w fun e w' => e = .returned (.tuple #[.int .i64 (0), .bool (false)]) ∧ ∃ n, w' = w.drewN n := by
  obtain ⟨c0, c1, c2, c3, c4, c5, c6, c7⟩ := hp
  have hn := fun w' a n c => run_neq_slice_nil_any (P := Try.prog) w' 22 2 a n c 0 0 Try.underlying22
  go_enter Try.func11, Try.ntmps11
  go_wp2
  go_quiet (fail)
  go_wp2
  go_quiet (fail)
  go_wp2
  go_ret2
  exact ⟨rfl, _, by first | rfl | rw [World.drewN_drewN]⟩

end Go.Proofs.Qxb6600607a
