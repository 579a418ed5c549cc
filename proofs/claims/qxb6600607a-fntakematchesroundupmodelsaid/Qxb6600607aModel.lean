/-
  THE WALKS of zzTakeModel, a case each.
-/
import Derived.Test.Qxb6600607aClone
import Derived.Deep.QuietTactic
import Derived.BigQuiet
namespace Go.Proofs.Qxb6600607a
open Go.RowKit
set_option linter.unusedVariables false

set_option maxHeartbeats 1000000 in
theorem model_unnamed (w : World) (value deft : Int) (a : Option Addr) (len cap : Nat) (ranged : Bool) (minV step : Int) (capped : Bool) (maxV asked : Int) :
    Calls Try.prog 12 #[.int .i64 value, .int .i64 deft, .slice a len cap, .bool ranged, .int .i64 minV, .int .i64 step, .bool capped, .int .i64 maxV, .int .i64 asked, .bool false] w fun e w' => e = .returned (.tuple #[.int .i64 (deft), .bool (decide (deft ≤ value))]) ∧ w' = w := by
  go_enter Try.func12, Try.ntmps12
  go_wp2
  go_ret2
  exact ⟨rfl, rfl⟩

set_option maxHeartbeats 1000000 in
theorem model_plain (w : World) (value deft : Int) (minV step : Int) (capped : Bool) (maxV asked : Int) :
    Calls Try.prog 12 #[.int .i64 value, .int .i64 deft, .slice none 0 0, .bool false, .int .i64 minV, .int .i64 step, .bool capped, .int .i64 maxV, .int .i64 asked, .bool true] w fun e w' => e = .returned (.tuple #[.int .i64 (asked), .bool (decide (asked ≤ value))]) ∧ w' = w := by
  have hn := fun w' a n c => run_neq_slice_nil_any (P := Try.prog) w' 22 2 a n c 0 0 Try.underlying22
  go_enter Try.func12, Try.ntmps12
  go_wp2
  go_ret2
  exact ⟨rfl, rfl⟩

set_option maxHeartbeats 1000000 in
theorem model_range_below_free (w : World) (value deft : Int) (minV step : Int) (maxV asked : Int) (hs : step ≤ 0) (ham : asked < minV)  :
    Calls Try.prog 12 #[.int .i64 value, .int .i64 deft, .slice none 0 0, .bool true, .int .i64 minV, .int .i64 step, .bool false, .int .i64 maxV, .int .i64 asked, .bool true] w fun e w' => e = .returned (.tuple #[.int .i64 (minV), .bool (decide (minV ≤ value))]) ∧ w' = w := by
  have hn := fun w' a n c => run_neq_slice_nil_any (P := Try.prog) w' 22 2 a n c 0 0 Try.underlying22
  go_enter Try.func12, Try.ntmps12
  go_wp2
  go_ret2
  exact ⟨rfl, rfl⟩

set_option maxHeartbeats 1000000 in
theorem model_range_below_in (w : World) (value deft : Int) (minV step : Int) (maxV asked : Int) (hs : step ≤ 0) (ham : asked < minV) (hcap : minV ≤ maxV) :
    Calls Try.prog 12 #[.int .i64 value, .int .i64 deft, .slice none 0 0, .bool true, .int .i64 minV, .int .i64 step, .bool true, .int .i64 maxV, .int .i64 asked, .bool true] w fun e w' => e = .returned (.tuple #[.int .i64 (minV), .bool (decide (minV ≤ value))]) ∧ w' = w := by
  have hn := fun w' a n c => run_neq_slice_nil_any (P := Try.prog) w' 22 2 a n c 0 0 Try.underlying22
  go_enter Try.func12, Try.ntmps12
  go_wp2
  go_ret2
  exact ⟨rfl, rfl⟩

set_option maxHeartbeats 1000000 in
theorem model_range_below_out (w : World) (value deft : Int) (minV step : Int) (maxV asked : Int) (hs : step ≤ 0) (ham : asked < minV) (hcap : maxV < minV) :
    Calls Try.prog 12 #[.int .i64 value, .int .i64 deft, .slice none 0 0, .bool true, .int .i64 minV, .int .i64 step, .bool true, .int .i64 maxV, .int .i64 asked, .bool true] w fun e w' => e = .returned (.tuple #[.int .i64 (0), .bool (false)]) ∧ w' = w := by
  have hn := fun w' a n c => run_neq_slice_nil_any (P := Try.prog) w' 22 2 a n c 0 0 Try.underlying22
  go_enter Try.func12, Try.ntmps12
  go_wp2
  go_ret2
  exact ⟨rfl, rfl⟩

set_option maxHeartbeats 1000000 in
theorem model_range_above_free (w : World) (value deft : Int) (minV step : Int) (maxV asked : Int) (hs : step ≤ 0) (ham : minV ≤ asked)  :
    Calls Try.prog 12 #[.int .i64 value, .int .i64 deft, .slice none 0 0, .bool true, .int .i64 minV, .int .i64 step, .bool false, .int .i64 maxV, .int .i64 asked, .bool true] w fun e w' => e = .returned (.tuple #[.int .i64 (asked), .bool (decide (asked ≤ value))]) ∧ w' = w := by
  have hn := fun w' a n c => run_neq_slice_nil_any (P := Try.prog) w' 22 2 a n c 0 0 Try.underlying22
  go_enter Try.func12, Try.ntmps12
  go_wp2
  go_ret2
  exact ⟨rfl, rfl⟩

set_option maxHeartbeats 1000000 in
theorem model_range_above_in (w : World) (value deft : Int) (minV step : Int) (maxV asked : Int) (hs : step ≤ 0) (ham : minV ≤ asked) (hcap : asked ≤ maxV) :
    Calls Try.prog 12 #[.int .i64 value, .int .i64 deft, .slice none 0 0, .bool true, .int .i64 minV, .int .i64 step, .bool true, .int .i64 maxV, .int .i64 asked, .bool true] w fun e w' => e = .returned (.tuple #[.int .i64 (asked), .bool (decide (asked ≤ value))]) ∧ w' = w := by
  have hn := fun w' a n c => run_neq_slice_nil_any (P := Try.prog) w' 22 2 a n c 0 0 Try.underlying22
  go_enter Try.func12, Try.ntmps12
  go_wp2
  go_ret2
  exact ⟨rfl, rfl⟩

set_option maxHeartbeats 1000000 in
theorem model_range_above_out (w : World) (value deft : Int) (minV step : Int) (maxV asked : Int) (hs : step ≤ 0) (ham : minV ≤ asked) (hcap : maxV < asked) :
    Calls Try.prog 12 #[.int .i64 value, .int .i64 deft, .slice none 0 0, .bool true, .int .i64 minV, .int .i64 step, .bool true, .int .i64 maxV, .int .i64 asked, .bool true] w fun e w' => e = .returned (.tuple #[.int .i64 (0), .bool (false)]) ∧ w' = w := by
  have hn := fun w' a n c => run_neq_slice_nil_any (P := Try.prog) w' 22 2 a n c 0 0 Try.underlying22
  go_enter Try.func12, Try.ntmps12
  go_wp2
  go_ret2
  exact ⟨rfl, rfl⟩

set_option maxHeartbeats 1000000 in
theorem model_step_below_free (w : World) (value deft : Int) (minV step : Int) (maxV asked : Int) (hs : 0 < step) (hs2 : step ≤ 9223372036854775807) (v1 : -1152921504606846976 ≤ value) (v2 : value ≤ 1152921504606846976) (m1 : -1152921504606846976 ≤ minV) (m2 : minV ≤ 1152921504606846976) (a1 : -1152921504606846976 ≤ asked) (a2 : asked ≤ 1152921504606846976) (hvm : minV ≤ value) (ham : asked < minV)  :
    Calls Try.prog 12 #[.int .i64 value, .int .i64 deft, .slice none 0 0, .bool true, .int .i64 minV, .int .i64 step, .bool false, .int .i64 maxV, .int .i64 asked, .bool true] w fun e w' => e = .returned (.tuple #[.int .i64 (minV), .bool (true)]) ∧ w' = w := by
  have hn := fun w' a n c => run_neq_slice_nil_any (P := Try.prog) w' 22 2 a n c 0 0 Try.underlying22
  go_enter Try.func12, Try.ntmps12
  go_wp2
  go_ret2
  exact ⟨rfl, rfl⟩

set_option maxHeartbeats 1000000 in
theorem model_step_below_in (w : World) (value deft : Int) (minV step : Int) (maxV asked : Int) (hs : 0 < step) (hs2 : step ≤ 9223372036854775807) (v1 : -1152921504606846976 ≤ value) (v2 : value ≤ 1152921504606846976) (m1 : -1152921504606846976 ≤ minV) (m2 : minV ≤ 1152921504606846976) (a1 : -1152921504606846976 ≤ asked) (a2 : asked ≤ 1152921504606846976) (hvm : minV ≤ value) (ham : asked < minV) (hcap : minV ≤ maxV) :
    Calls Try.prog 12 #[.int .i64 value, .int .i64 deft, .slice none 0 0, .bool true, .int .i64 minV, .int .i64 step, .bool true, .int .i64 maxV, .int .i64 asked, .bool true] w fun e w' => e = .returned (.tuple #[.int .i64 (minV), .bool (true)]) ∧ w' = w := by
  have hn := fun w' a n c => run_neq_slice_nil_any (P := Try.prog) w' 22 2 a n c 0 0 Try.underlying22
  go_enter Try.func12, Try.ntmps12
  go_wp2
  go_ret2
  exact ⟨rfl, rfl⟩

set_option maxHeartbeats 1000000 in
theorem model_step_below_out (w : World) (value deft : Int) (minV step : Int) (maxV asked : Int) (hs : 0 < step) (hs2 : step ≤ 9223372036854775807) (v1 : -1152921504606846976 ≤ value) (v2 : value ≤ 1152921504606846976) (m1 : -1152921504606846976 ≤ minV) (m2 : minV ≤ 1152921504606846976) (a1 : -1152921504606846976 ≤ asked) (a2 : asked ≤ 1152921504606846976) (hvm : minV ≤ value) (ham : asked < minV) (hcap : maxV < minV) :
    Calls Try.prog 12 #[.int .i64 value, .int .i64 deft, .slice none 0 0, .bool true, .int .i64 minV, .int .i64 step, .bool true, .int .i64 maxV, .int .i64 asked, .bool true] w fun e w' => e = .returned (.tuple #[.int .i64 (0), .bool (false)]) ∧ w' = w := by
  have hn := fun w' a n c => run_neq_slice_nil_any (P := Try.prog) w' 22 2 a n c 0 0 Try.underlying22
  go_enter Try.func12, Try.ntmps12
  go_wp2
  go_ret2
  exact ⟨rfl, rfl⟩

set_option maxHeartbeats 1000000 in
theorem model_step_zero_over (w : World) (value deft : Int) (minV step : Int) (capped : Bool) (maxV asked : Int) (hs : 0 < step) (hs2 : step ≤ 9223372036854775807) (v1 : -1152921504606846976 ≤ value) (v2 : value ≤ 1152921504606846976) (m1 : -1152921504606846976 ≤ minV) (m2 : minV ≤ 1152921504606846976) (a1 : -1152921504606846976 ≤ asked) (a2 : asked ≤ 1152921504606846976) (hvm : minV ≤ value) (ham : minV ≤ asked) (r : Int) (hr : (asked - minV) % step = r) (hrz : (r != 0) = false) (hover : value - asked < 0) :
    Calls Try.prog 12 #[.int .i64 value, .int .i64 deft, .slice none 0 0, .bool true, .int .i64 minV, .int .i64 step, .bool capped, .int .i64 maxV, .int .i64 asked, .bool true] w fun e w' => e = .returned (.tuple #[.int .i64 (0), .bool (false)]) ∧ w' = w := by
  have hn := fun w' a n c => run_neq_slice_nil_any (P := Try.prog) w' 22 2 a n c 0 0 Try.underlying22
  go_enter Try.func12, Try.ntmps12
  go_wp2
  go_ret2
  exact ⟨rfl, rfl⟩

set_option maxHeartbeats 1000000 in
theorem model_step_zero_free (w : World) (value deft : Int) (minV step : Int) (maxV asked : Int) (hs : 0 < step) (hs2 : step ≤ 9223372036854775807) (v1 : -1152921504606846976 ≤ value) (v2 : value ≤ 1152921504606846976) (m1 : -1152921504606846976 ≤ minV) (m2 : minV ≤ 1152921504606846976) (a1 : -1152921504606846976 ≤ asked) (a2 : asked ≤ 1152921504606846976) (hvm : minV ≤ value) (ham : minV ≤ asked) (r : Int) (hr : (asked - minV) % step = r) (hrz : (r != 0) = false) (hover : 0 ≤ value - asked)  :
    Calls Try.prog 12 #[.int .i64 value, .int .i64 deft, .slice none 0 0, .bool true, .int .i64 minV, .int .i64 step, .bool false, .int .i64 maxV, .int .i64 asked, .bool true] w fun e w' => e = .returned (.tuple #[.int .i64 (asked), .bool (true)]) ∧ w' = w := by
  have hn := fun w' a n c => run_neq_slice_nil_any (P := Try.prog) w' 22 2 a n c 0 0 Try.underlying22
  go_enter Try.func12, Try.ntmps12
  go_wp2
  go_ret2
  exact ⟨rfl, rfl⟩

set_option maxHeartbeats 1000000 in
theorem model_step_zero_in (w : World) (value deft : Int) (minV step : Int) (maxV asked : Int) (hs : 0 < step) (hs2 : step ≤ 9223372036854775807) (v1 : -1152921504606846976 ≤ value) (v2 : value ≤ 1152921504606846976) (m1 : -1152921504606846976 ≤ minV) (m2 : minV ≤ 1152921504606846976) (a1 : -1152921504606846976 ≤ asked) (a2 : asked ≤ 1152921504606846976) (hvm : minV ≤ value) (ham : minV ≤ asked) (r : Int) (hr : (asked - minV) % step = r) (hrz : (r != 0) = false) (hover : 0 ≤ value - asked) (hcap : asked ≤ maxV) :
    Calls Try.prog 12 #[.int .i64 value, .int .i64 deft, .slice none 0 0, .bool true, .int .i64 minV, .int .i64 step, .bool true, .int .i64 maxV, .int .i64 asked, .bool true] w fun e w' => e = .returned (.tuple #[.int .i64 (asked), .bool (true)]) ∧ w' = w := by
  have hn := fun w' a n c => run_neq_slice_nil_any (P := Try.prog) w' 22 2 a n c 0 0 Try.underlying22
  go_enter Try.func12, Try.ntmps12
  go_wp2
  go_ret2
  exact ⟨rfl, rfl⟩

set_option maxHeartbeats 1000000 in
theorem model_step_zero_out (w : World) (value deft : Int) (minV step : Int) (maxV asked : Int) (hs : 0 < step) (hs2 : step ≤ 9223372036854775807) (v1 : -1152921504606846976 ≤ value) (v2 : value ≤ 1152921504606846976) (m1 : -1152921504606846976 ≤ minV) (m2 : minV ≤ 1152921504606846976) (a1 : -1152921504606846976 ≤ asked) (a2 : asked ≤ 1152921504606846976) (hvm : minV ≤ value) (ham : minV ≤ asked) (r : Int) (hr : (asked - minV) % step = r) (hrz : (r != 0) = false) (hover : 0 ≤ value - asked) (hcap : maxV < asked) :
    Calls Try.prog 12 #[.int .i64 value, .int .i64 deft, .slice none 0 0, .bool true, .int .i64 minV, .int .i64 step, .bool true, .int .i64 maxV, .int .i64 asked, .bool true] w fun e w' => e = .returned (.tuple #[.int .i64 (0), .bool (false)]) ∧ w' = w := by
  have hn := fun w' a n c => run_neq_slice_nil_any (P := Try.prog) w' 22 2 a n c 0 0 Try.underlying22
  go_enter Try.func12, Try.ntmps12
  go_wp2
  go_ret2
  exact ⟨rfl, rfl⟩

set_option maxHeartbeats 1000000 in
theorem model_step_more_over (w : World) (value deft : Int) (minV step : Int) (capped : Bool) (maxV asked : Int) (hs : 0 < step) (hs2 : step ≤ 9223372036854775807) (v1 : -1152921504606846976 ≤ value) (v2 : value ≤ 1152921504606846976) (m1 : -1152921504606846976 ≤ minV) (m2 : minV ≤ 1152921504606846976) (a1 : -1152921504606846976 ≤ asked) (a2 : asked ≤ 1152921504606846976) (hvm : minV ≤ value) (ham : minV ≤ asked) (r : Int) (hr : (asked - minV) % step = r) (hrz : (r != 0) = true) (r0 : 0 ≤ r) (r1 : r < step) (hover : value - asked < (step - r)) :
    Calls Try.prog 12 #[.int .i64 value, .int .i64 deft, .slice none 0 0, .bool true, .int .i64 minV, .int .i64 step, .bool capped, .int .i64 maxV, .int .i64 asked, .bool true] w fun e w' => e = .returned (.tuple #[.int .i64 (0), .bool (false)]) ∧ w' = w := by
  have hn := fun w' a n c => run_neq_slice_nil_any (P := Try.prog) w' 22 2 a n c 0 0 Try.underlying22
  go_enter Try.func12, Try.ntmps12
  go_wp2
  go_ret2
  exact ⟨rfl, rfl⟩

set_option maxHeartbeats 1000000 in
theorem model_step_more_free (w : World) (value deft : Int) (minV step : Int) (maxV asked : Int) (hs : 0 < step) (hs2 : step ≤ 9223372036854775807) (v1 : -1152921504606846976 ≤ value) (v2 : value ≤ 1152921504606846976) (m1 : -1152921504606846976 ≤ minV) (m2 : minV ≤ 1152921504606846976) (a1 : -1152921504606846976 ≤ asked) (a2 : asked ≤ 1152921504606846976) (hvm : minV ≤ value) (ham : minV ≤ asked) (r : Int) (hr : (asked - minV) % step = r) (hrz : (r != 0) = true) (r0 : 0 ≤ r) (r1 : r < step) (hover : (step - r) ≤ value - asked)  :
    Calls Try.prog 12 #[.int .i64 value, .int .i64 deft, .slice none 0 0, .bool true, .int .i64 minV, .int .i64 step, .bool false, .int .i64 maxV, .int .i64 asked, .bool true] w fun e w' => e = .returned (.tuple #[.int .i64 (asked + (step - r)), .bool (true)]) ∧ w' = w := by
  have hn := fun w' a n c => run_neq_slice_nil_any (P := Try.prog) w' 22 2 a n c 0 0 Try.underlying22
  go_enter Try.func12, Try.ntmps12
  go_wp2
  go_ret2
  exact ⟨rfl, rfl⟩

set_option maxHeartbeats 1000000 in
theorem model_step_more_in (w : World) (value deft : Int) (minV step : Int) (maxV asked : Int) (hs : 0 < step) (hs2 : step ≤ 9223372036854775807) (v1 : -1152921504606846976 ≤ value) (v2 : value ≤ 1152921504606846976) (m1 : -1152921504606846976 ≤ minV) (m2 : minV ≤ 1152921504606846976) (a1 : -1152921504606846976 ≤ asked) (a2 : asked ≤ 1152921504606846976) (hvm : minV ≤ value) (ham : minV ≤ asked) (r : Int) (hr : (asked - minV) % step = r) (hrz : (r != 0) = true) (r0 : 0 ≤ r) (r1 : r < step) (hover : (step - r) ≤ value - asked) (hcap : asked + (step - r) ≤ maxV) :
    Calls Try.prog 12 #[.int .i64 value, .int .i64 deft, .slice none 0 0, .bool true, .int .i64 minV, .int .i64 step, .bool true, .int .i64 maxV, .int .i64 asked, .bool true] w fun e w' => e = .returned (.tuple #[.int .i64 (asked + (step - r)), .bool (true)]) ∧ w' = w := by
  have hn := fun w' a n c => run_neq_slice_nil_any (P := Try.prog) w' 22 2 a n c 0 0 Try.underlying22
  go_enter Try.func12, Try.ntmps12
  go_wp2
  go_ret2
  exact ⟨rfl, rfl⟩

set_option maxHeartbeats 1000000 in
theorem model_step_more_out (w : World) (value deft : Int) (minV step : Int) (maxV asked : Int) (hs : 0 < step) (hs2 : step ≤ 9223372036854775807) (v1 : -1152921504606846976 ≤ value) (v2 : value ≤ 1152921504606846976) (m1 : -1152921504606846976 ≤ minV) (m2 : minV ≤ 1152921504606846976) (a1 : -1152921504606846976 ≤ asked) (a2 : asked ≤ 1152921504606846976) (hvm : minV ≤ value) (ham : minV ≤ asked) (r : Int) (hr : (asked - minV) % step = r) (hrz : (r != 0) = true) (r0 : 0 ≤ r) (r1 : r < step) (hover : (step - r) ≤ value - asked) (hcap : maxV < asked + (step - r)) :
    Calls Try.prog 12 #[.int .i64 value, .int .i64 deft, .slice none 0 0, .bool true, .int .i64 minV, .int .i64 step, .bool true, .int .i64 maxV, .int .i64 asked, .bool true] w fun e w' => e = .returned (.tuple #[.int .i64 (0), .bool (false)]) ∧ w' = w := by
  have hn := fun w' a n c => run_neq_slice_nil_any (P := Try.prog) w' 22 2 a n c 0 0 Try.underlying22
  go_enter Try.func12, Try.ntmps12
  go_wp2
  go_ret2
  exact ⟨rfl, rfl⟩

end Go.Proofs.Qxb6600607a
