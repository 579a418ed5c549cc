/-
  THE WALKS of the law FnTakeMatchesRoundUpModel, a case each: behind its own guards it compares what Take and the model return; both are taken by what they return, (R, ok).
-/
import Derived.Test.Qxb6600607aSorted
namespace Go.Proofs.Qxb6600607a
open Go.RowKit
set_option linter.unusedVariables false

theorem pol_new (W : World) (vs : Value) (value deft : Int) (ranged : Bool) (minV step : Int) (capped : Bool) (maxV : Int) (n : Nat) (hn : n = W.heap.size) :
    Pol (W.alloc (.cells #[.int .i64 value, .int .i64 deft, vs, .bool ranged, .int .i64 minV, .int .i64 step, .bool capped, .int .i64 maxV, .bool false] 28)) n value deft vs ranged minV step capped maxV := by
  subst hn
  constructor <;> (rw [World.cell?_alloc_new]; rfl)

set_option maxHeartbeats 1000000 in
theorem law_unnamed (C : World → Prop) (hC : ∀ W W', C W → Below W.heap.size W W' → C W') (value deft : Int) (a : Option Addr) (av : Option Addr) (len cap cv : Nat) (hlen : len ≤ 131072) (ranged : Bool) (minV step : Int) (capped : Bool) (maxV asked : Int) (R : Int) (ok : Bool) (w : World) 
    (hcl : Calls Try.prog 9 #[.slice a len cap] w fun e w1 => e = .returned (.slice av len cv) ∧ Below w.heap.size w w1 ∧ C w1)
    (hT : ∀ W b, C W → Pol W b value deft (.slice av len cv) ranged minV step capped maxV → Calls Try.prog 11 #[.pointer (some ⟨b, 0, none⟩), .int .i64 asked, .bool false] W fun e w' => e = .returned (.tuple #[.int .i64 R, .bool ok]) ∧ ∃ n, w' = W.drewN n)
    (hM : ∀ W, C W → Calls Try.prog 12 #[.int .i64 value, .int .i64 deft, .slice av len cv, .bool ranged, .int .i64 minV, .int .i64 step, .bool capped, .int .i64 maxV, .int .i64 asked, .bool false] W fun e w' => e = .returned (.tuple #[.int .i64 R, .bool ok]) ∧ ∃ n, w' = W.drewN n) :
    Calls Try.prog 3 #[.int .i64 value, .int .i64 deft, .slice a len cap, .bool ranged, .int .i64 minV, .int .i64 step, .bool capped, .int .i64 maxV, .int .i64 asked, .bool false] w fun e w' => e = .returned (.bool true) ∧ Below w.heap.size w w' := by
  have hn := fun w' a n c => run_neq_slice_nil_any (P := Try.prog) w' 22 2 a n c 0 0 Try.underlying22
  have hn2 := fun w' a n c => Lib.run_eql_slice_nil (P := Try.prog) w' 22 2 a n c 0 0 Try.underlying22
  have HCL := Lib.hid hcl
  have HT := Lib.hid hT
  have HM := Lib.hid hM
  have HC := Lib.hid hC
  clear hcl hT hM hC
  go_enter Try.func3, Try.ntmps3
  go_wp2_with (first
    | (go_at_call 9; refine (HCL.out).mono ?_; rintro e w1 ⟨rfl, hb, hc1⟩; have HC1 := Lib.hid hc1; clear hc1)
    | (go_at_call 10; refine (policy_any _ _ _ _ _ _ _ _ _ _ _).mono ?_; rintro e w2 ⟨rfl, o, rfl⟩)
    | (go_at_call 6; go_in) | (go_at_call 8; go_in))
  refine (HT.out _ _ (HC.out _ _ HC1.out (((Below.refl _ _).alloc (Nat.le_refl _) _).alloc (by simp) _)) (pol_new _ _ _ _ _ _ _ _ _ _ (by simp))).mono ?_
  rintro e w3 ⟨rfl, n, rfl⟩
  go_wp2_with fail
  refine (HM.out _ (HC.out _ _ HC1.out (below_drewN (((Below.refl _ _).alloc (Nat.le_refl _) _).alloc (by simp) _) _))).mono ?_
  rintro e w4 ⟨rfl, n2, rfl⟩
  go_wp2
  go_ret
  exact ⟨rfl, below_drewN ((hb.alloc hb.size _).alloc (by have := hb.size; simp; omega) _) _⟩

set_option maxHeartbeats 1000000 in
theorem law_plain (C : World → Prop) (hC : ∀ W W', C W → Below W.heap.size W W' → C W') (value deft : Int) (minV step : Int) (capped : Bool) (maxV asked : Int) (R : Int) (ok : Bool) (w : World) 
    (hcl : Calls Try.prog 9 #[.slice none 0 0] w fun e w1 => e = .returned (.slice none 0 0) ∧ Below w.heap.size w w1 ∧ C w1)
    (hT : ∀ W b, C W → Pol W b value deft (.slice none 0 0) false minV step capped maxV → Calls Try.prog 11 #[.pointer (some ⟨b, 0, none⟩), .int .i64 asked, .bool true] W fun e w' => e = .returned (.tuple #[.int .i64 R, .bool ok]) ∧ ∃ n, w' = W.drewN n)
    (hM : ∀ W, C W → Calls Try.prog 12 #[.int .i64 value, .int .i64 deft, .slice none 0 0, .bool false, .int .i64 minV, .int .i64 step, .bool capped, .int .i64 maxV, .int .i64 asked, .bool true] W fun e w' => e = .returned (.tuple #[.int .i64 R, .bool ok]) ∧ ∃ n, w' = W.drewN n) :
    Calls Try.prog 3 #[.int .i64 value, .int .i64 deft, .slice none 0 0, .bool false, .int .i64 minV, .int .i64 step, .bool capped, .int .i64 maxV, .int .i64 asked, .bool true] w fun e w' => e = .returned (.bool true) ∧ Below w.heap.size w w' := by
  have hn := fun w' a n c => run_neq_slice_nil_any (P := Try.prog) w' 22 2 a n c 0 0 Try.underlying22
  have hn2 := fun w' a n c => Lib.run_eql_slice_nil (P := Try.prog) w' 22 2 a n c 0 0 Try.underlying22
  have HCL := Lib.hid hcl
  have HT := Lib.hid hT
  have HM := Lib.hid hM
  have HC := Lib.hid hC
  clear hcl hT hM hC
  go_enter Try.func3, Try.ntmps3
  go_wp2_with (first
    | (go_at_call 9; refine (HCL.out).mono ?_; rintro e w1 ⟨rfl, hb, hc1⟩; have HC1 := Lib.hid hc1; clear hc1)
    | (go_at_call 10; refine (policy_any _ _ _ _ _ _ _ _ _ _ _).mono ?_; rintro e w2 ⟨rfl, o, rfl⟩)
    | (go_at_call 6; go_in) | (go_at_call 8; go_in))
  refine (HT.out _ _ (HC.out _ _ HC1.out (((Below.refl _ _).alloc (Nat.le_refl _) _).alloc (by simp) _)) (pol_new _ _ _ _ _ _ _ _ _ _ (by simp))).mono ?_
  rintro e w3 ⟨rfl, n, rfl⟩
  go_wp2_with fail
  refine (HM.out _ (HC.out _ _ HC1.out (below_drewN (((Below.refl _ _).alloc (Nat.le_refl _) _).alloc (by simp) _) _))).mono ?_
  rintro e w4 ⟨rfl, n2, rfl⟩
  go_wp2
  go_ret
  exact ⟨rfl, below_drewN ((hb.alloc hb.size _).alloc (by have := hb.size; simp; omega) _) _⟩

set_option maxHeartbeats 1000000 in
theorem law_flat (C : World → Prop) (hC : ∀ W W', C W → Below W.heap.size W W' → C W') (value deft : Int) (minV step : Int) (capped : Bool) (maxV asked : Int) (R : Int) (ok : Bool) (w : World) (v1 : -1152921504606846976 ≤ value) (v2 : value ≤ 1152921504606846976) (m1 : -1152921504606846976 ≤ minV) (m2 : minV ≤ 1152921504606846976) (a1 : -1152921504606846976 ≤ asked) (a2 : asked ≤ 1152921504606846976) (hs : step ≤ 0)
    (hcl : Calls Try.prog 9 #[.slice none 0 0] w fun e w1 => e = .returned (.slice none 0 0) ∧ Below w.heap.size w w1 ∧ C w1)
    (hT : ∀ W b, C W → Pol W b value deft (.slice none 0 0) true minV step capped maxV → Calls Try.prog 11 #[.pointer (some ⟨b, 0, none⟩), .int .i64 asked, .bool true] W fun e w' => e = .returned (.tuple #[.int .i64 R, .bool ok]) ∧ ∃ n, w' = W.drewN n)
    (hM : ∀ W, C W → Calls Try.prog 12 #[.int .i64 value, .int .i64 deft, .slice none 0 0, .bool true, .int .i64 minV, .int .i64 step, .bool capped, .int .i64 maxV, .int .i64 asked, .bool true] W fun e w' => e = .returned (.tuple #[.int .i64 R, .bool ok]) ∧ ∃ n, w' = W.drewN n) :
    Calls Try.prog 3 #[.int .i64 value, .int .i64 deft, .slice none 0 0, .bool true, .int .i64 minV, .int .i64 step, .bool capped, .int .i64 maxV, .int .i64 asked, .bool true] w fun e w' => e = .returned (.bool true) ∧ Below w.heap.size w w' := by
  have hn := fun w' a n c => run_neq_slice_nil_any (P := Try.prog) w' 22 2 a n c 0 0 Try.underlying22
  have hn2 := fun w' a n c => Lib.run_eql_slice_nil (P := Try.prog) w' 22 2 a n c 0 0 Try.underlying22
  have HCL := Lib.hid hcl
  have HT := Lib.hid hT
  have HM := Lib.hid hM
  have HC := Lib.hid hC
  clear hcl hT hM hC
  go_enter Try.func3, Try.ntmps3
  go_wp2_with (first
    | (go_at_call 9; refine (HCL.out).mono ?_; rintro e w1 ⟨rfl, hb, hc1⟩; have HC1 := Lib.hid hc1; clear hc1)
    | (go_at_call 10; refine (policy_any _ _ _ _ _ _ _ _ _ _ _).mono ?_; rintro e w2 ⟨rfl, o, rfl⟩)
    | (go_at_call 6; go_in) | (go_at_call 8; go_in))
  refine (HT.out _ _ (HC.out _ _ HC1.out (((Below.refl _ _).alloc (Nat.le_refl _) _).alloc (by simp) _)) (pol_new _ _ _ _ _ _ _ _ _ _ (by simp))).mono ?_
  rintro e w3 ⟨rfl, n, rfl⟩
  go_wp2_with fail
  refine (HM.out _ (HC.out _ _ HC1.out (below_drewN (((Below.refl _ _).alloc (Nat.le_refl _) _).alloc (by simp) _) _))).mono ?_
  rintro e w4 ⟨rfl, n2, rfl⟩
  go_wp2
  go_ret
  exact ⟨rfl, below_drewN ((hb.alloc hb.size _).alloc (by have := hb.size; simp; omega) _) _⟩

set_option maxHeartbeats 1000000 in
theorem law_step (C : World → Prop) (hC : ∀ W W', C W → Below W.heap.size W W' → C W') (value deft : Int) (minV step : Int) (capped : Bool) (maxV asked : Int) (R : Int) (ok : Bool) (w : World) (v1 : -1152921504606846976 ≤ value) (v2 : value ≤ 1152921504606846976) (m1 : -1152921504606846976 ≤ minV) (m2 : minV ≤ 1152921504606846976) (a1 : -1152921504606846976 ≤ asked) (a2 : asked ≤ 1152921504606846976) (hs : 0 < step) (hvm : minV ≤ value)
    (hcl : Calls Try.prog 9 #[.slice none 0 0] w fun e w1 => e = .returned (.slice none 0 0) ∧ Below w.heap.size w w1 ∧ C w1)
    (hT : ∀ W b, C W → Pol W b value deft (.slice none 0 0) true minV step capped maxV → Calls Try.prog 11 #[.pointer (some ⟨b, 0, none⟩), .int .i64 asked, .bool true] W fun e w' => e = .returned (.tuple #[.int .i64 R, .bool ok]) ∧ ∃ n, w' = W.drewN n)
    (hM : ∀ W, C W → Calls Try.prog 12 #[.int .i64 value, .int .i64 deft, .slice none 0 0, .bool true, .int .i64 minV, .int .i64 step, .bool capped, .int .i64 maxV, .int .i64 asked, .bool true] W fun e w' => e = .returned (.tuple #[.int .i64 R, .bool ok]) ∧ ∃ n, w' = W.drewN n) :
    Calls Try.prog 3 #[.int .i64 value, .int .i64 deft, .slice none 0 0, .bool true, .int .i64 minV, .int .i64 step, .bool capped, .int .i64 maxV, .int .i64 asked, .bool true] w fun e w' => e = .returned (.bool true) ∧ Below w.heap.size w w' := by
  have hn := fun w' a n c => run_neq_slice_nil_any (P := Try.prog) w' 22 2 a n c 0 0 Try.underlying22
  have hn2 := fun w' a n c => Lib.run_eql_slice_nil (P := Try.prog) w' 22 2 a n c 0 0 Try.underlying22
  have HCL := Lib.hid hcl
  have HT := Lib.hid hT
  have HM := Lib.hid hM
  have HC := Lib.hid hC
  clear hcl hT hM hC
  go_enter Try.func3, Try.ntmps3
  go_wp2_with (first
    | (go_at_call 9; refine (HCL.out).mono ?_; rintro e w1 ⟨rfl, hb, hc1⟩; have HC1 := Lib.hid hc1; clear hc1)
    | (go_at_call 10; refine (policy_any _ _ _ _ _ _ _ _ _ _ _).mono ?_; rintro e w2 ⟨rfl, o, rfl⟩)
    | (go_at_call 6; go_in) | (go_at_call 8; go_in))
  refine (HT.out _ _ (HC.out _ _ HC1.out (((Below.refl _ _).alloc (Nat.le_refl _) _).alloc (by simp) _)) (pol_new _ _ _ _ _ _ _ _ _ _ (by simp))).mono ?_
  rintro e w3 ⟨rfl, n, rfl⟩
  go_wp2_with fail
  refine (HM.out _ (HC.out _ _ HC1.out (below_drewN (((Below.refl _ _).alloc (Nat.le_refl _) _).alloc (by simp) _) _))).mono ?_
  rintro e w4 ⟨rfl, n2, rfl⟩
  go_wp2
  go_ret
  exact ⟨rfl, below_drewN ((hb.alloc hb.size _).alloc (by have := hb.size; simp; omega) _) _⟩

set_option maxHeartbeats 1000000 in
theorem law_values (C : World → Prop) (hC : ∀ W W', C W → Below W.heap.size W W' → C W') (value deft : Int) (x : Addr) (av : Option Addr) (len cap cv : Nat) (hlen : len ≤ 131072) (ranged : Bool) (minV step : Int) (capped : Bool) (maxV asked : Int) (R : Int) (ok : Bool) (w : World) 
    (hcl : ∀ n0, Calls Try.prog 9 #[.slice (some x) len cap] (w.drewN n0) fun e w1 => e = .returned (.slice av len cv) ∧ Below w.heap.size w w1 ∧ C w1)
    (hso : Calls Try.prog 7 #[.slice (some x) len cap] w fun e w1 => e = .returned (.bool true) ∧ ∃ n, w1 = w.drewN n)
    (hT : ∀ W b, C W → Pol W b value deft (.slice av len cv) ranged minV step capped maxV → Calls Try.prog 11 #[.pointer (some ⟨b, 0, none⟩), .int .i64 asked, .bool true] W fun e w' => e = .returned (.tuple #[.int .i64 R, .bool ok]) ∧ ∃ n, w' = W.drewN n)
    (hM : ∀ W, C W → Calls Try.prog 12 #[.int .i64 value, .int .i64 deft, .slice av len cv, .bool ranged, .int .i64 minV, .int .i64 step, .bool capped, .int .i64 maxV, .int .i64 asked, .bool true] W fun e w' => e = .returned (.tuple #[.int .i64 R, .bool ok]) ∧ ∃ n, w' = W.drewN n) :
    Calls Try.prog 3 #[.int .i64 value, .int .i64 deft, .slice (some x) len cap, .bool ranged, .int .i64 minV, .int .i64 step, .bool capped, .int .i64 maxV, .int .i64 asked, .bool true] w fun e w' => e = .returned (.bool true) ∧ Below w.heap.size w w' := by
  have hn := fun w' a n c => run_neq_slice_nil_any (P := Try.prog) w' 22 2 a n c 0 0 Try.underlying22
  have hn2 := fun w' a n c => Lib.run_eql_slice_nil (P := Try.prog) w' 22 2 a n c 0 0 Try.underlying22
  have HCL := Lib.hid hcl
  have HT := Lib.hid hT
  have HM := Lib.hid hM
  have HC := Lib.hid hC
  have HSO := Lib.hid hso
  clear hso
  clear hcl hT hM hC
  go_enter Try.func3, Try.ntmps3
  go_wp2_with (first
    | (go_at_call 9; refine (HCL.out _).mono ?_; rintro e w1 ⟨rfl, hb, hc1⟩; have HC1 := Lib.hid hc1; clear hc1)
    | (go_at_call 10; refine (policy_any _ _ _ _ _ _ _ _ _ _ _).mono ?_; rintro e w2 ⟨rfl, o, rfl⟩)
    | (go_at_call 7; refine (HSO.out).mono ?_; rintro e w0 ⟨rfl, n0, rfl⟩)
    | (go_at_call 6; go_in) | (go_at_call 8; go_in))
  refine (HT.out _ _ (HC.out _ _ HC1.out (((Below.refl _ _).alloc (Nat.le_refl _) _).alloc (by simp) _)) (pol_new _ _ _ _ _ _ _ _ _ _ (by simp))).mono ?_
  rintro e w3 ⟨rfl, n, rfl⟩
  go_wp2_with fail
  refine (HM.out _ (HC.out _ _ HC1.out (below_drewN (((Below.refl _ _).alloc (Nat.le_refl _) _).alloc (by simp) _) _))).mono ?_
  rintro e w4 ⟨rfl, n2, rfl⟩
  go_wp2
  go_ret
  exact ⟨rfl, below_drewN ((hb.alloc hb.size _).alloc (by have := hb.size; simp; omega) _) _⟩

set_option maxHeartbeats 1000000 in
theorem law_long (value deft : Int) (a : Option Addr) (len cap : Nat) (ranged named : Bool) (minV step : Int) (capped : Bool) (maxV asked : Int) (w : World) (hlen : 1048576 < len) (hmax : len ≤ 9223372036854775807) :
    Calls Try.prog 3 #[.int .i64 value, .int .i64 deft, .slice a len cap, .bool ranged, .int .i64 minV, .int .i64 step, .bool capped, .int .i64 maxV, .int .i64 asked, .bool named] w fun e w' => e = .returned (.bool true) ∧ Below w.heap.size w w' := by
  have hn := fun w' a n c => run_neq_slice_nil_any (P := Try.prog) w' 22 2 a n c 0 0 Try.underlying22
  have hn2 := fun w' a n c => Lib.run_eql_slice_nil (P := Try.prog) w' 22 2 a n c 0 0 Try.underlying22
  go_enter Try.func3, Try.ntmps3
  go_wp2
  go_ret
  exact ⟨rfl, Below.refl _ _⟩

set_option maxHeartbeats 1000000 in
theorem law_longer (value deft : Int) (a : Option Addr) (len cap : Nat) (ranged named : Bool) (minV step : Int) (capped : Bool) (maxV asked : Int) (w : World) (hlen : 131072 < len) (hmax : len ≤ 1048576) :
    Calls Try.prog 3 #[.int .i64 value, .int .i64 deft, .slice a len cap, .bool ranged, .int .i64 minV, .int .i64 step, .bool capped, .int .i64 maxV, .int .i64 asked, .bool named] w fun e w' => e = .returned (.bool true) ∧ Below w.heap.size w w' := by
  have hn := fun w' a n c => run_neq_slice_nil_any (P := Try.prog) w' 22 2 a n c 0 0 Try.underlying22
  have hn2 := fun w' a n c => Lib.run_eql_slice_nil (P := Try.prog) w' 22 2 a n c 0 0 Try.underlying22
  go_enter Try.func3, Try.ntmps3
  go_wp2
  go_ret
  exact ⟨rfl, Below.refl _ _⟩

set_option maxHeartbeats 1000000 in
theorem law_unsorted (value deft : Int) (x : Addr) (len cap : Nat) (ranged : Bool) (minV step : Int) (capped : Bool) (maxV asked : Int) (w : World) (hlen : len ≤ 131072) (hso : Calls Try.prog 7 #[.slice (some x) len cap] w fun e w1 => e = .returned (.bool false) ∧ ∃ n, w1 = w.drewN n) :
    Calls Try.prog 3 #[.int .i64 value, .int .i64 deft, .slice (some x) len cap, .bool ranged, .int .i64 minV, .int .i64 step, .bool capped, .int .i64 maxV, .int .i64 asked, .bool true] w fun e w' => e = .returned (.bool true) ∧ Below w.heap.size w w' := by
  have hn := fun w' a n c => run_neq_slice_nil_any (P := Try.prog) w' 22 2 a n c 0 0 Try.underlying22
  have hn2 := fun w' a n c => Lib.run_eql_slice_nil (P := Try.prog) w' 22 2 a n c 0 0 Try.underlying22
  have HSO := Lib.hid hso
  clear hso
  go_enter Try.func3, Try.ntmps3
  go_wp2_with (first
    | (go_at_call 7; refine (HSO.out).mono ?_; rintro e w0 ⟨rfl, n0, rfl⟩)
    | (go_at_call 6; go_in))
  go_ret
  exact ⟨rfl, below_drewN (Below.refl _ _) _⟩

set_option maxHeartbeats 1000000 in
theorem law_big_v1 (value deft : Int)  (minV step : Int) (capped : Bool) (maxV asked : Int) (w : World) (v1 : value < -1152921504606846976) :
    Calls Try.prog 3 #[.int .i64 value, .int .i64 deft, .slice none 0 0, .bool true, .int .i64 minV, .int .i64 step, .bool capped, .int .i64 maxV, .int .i64 asked, .bool true] w fun e w' => e = .returned (.bool true) ∧ Below w.heap.size w w' := by
  have hn := fun w' a n c => run_neq_slice_nil_any (P := Try.prog) w' 22 2 a n c 0 0 Try.underlying22
  have hn2 := fun w' a n c => Lib.run_eql_slice_nil (P := Try.prog) w' 22 2 a n c 0 0 Try.underlying22
  go_enter Try.func3, Try.ntmps3
  go_wp2
  go_ret
  exact ⟨rfl, Below.refl _ _⟩

set_option maxHeartbeats 1000000 in
theorem law_big_v2 (value deft : Int)  (minV step : Int) (capped : Bool) (maxV asked : Int) (w : World) (v2 : 1152921504606846976 < value) :
    Calls Try.prog 3 #[.int .i64 value, .int .i64 deft, .slice none 0 0, .bool true, .int .i64 minV, .int .i64 step, .bool capped, .int .i64 maxV, .int .i64 asked, .bool true] w fun e w' => e = .returned (.bool true) ∧ Below w.heap.size w w' := by
  have hn := fun w' a n c => run_neq_slice_nil_any (P := Try.prog) w' 22 2 a n c 0 0 Try.underlying22
  have hn2 := fun w' a n c => Lib.run_eql_slice_nil (P := Try.prog) w' 22 2 a n c 0 0 Try.underlying22
  go_enter Try.func3, Try.ntmps3
  go_wp2
  go_ret
  exact ⟨rfl, Below.refl _ _⟩

set_option maxHeartbeats 1000000 in
theorem law_big_m1 (value deft : Int)  (minV step : Int) (capped : Bool) (maxV asked : Int) (w : World) (v1 : -1152921504606846976 ≤ value) (v2 : value ≤ 1152921504606846976) (m1 : minV < -1152921504606846976) :
    Calls Try.prog 3 #[.int .i64 value, .int .i64 deft, .slice none 0 0, .bool true, .int .i64 minV, .int .i64 step, .bool capped, .int .i64 maxV, .int .i64 asked, .bool true] w fun e w' => e = .returned (.bool true) ∧ Below w.heap.size w w' := by
  have hn := fun w' a n c => run_neq_slice_nil_any (P := Try.prog) w' 22 2 a n c 0 0 Try.underlying22
  have hn2 := fun w' a n c => Lib.run_eql_slice_nil (P := Try.prog) w' 22 2 a n c 0 0 Try.underlying22
  go_enter Try.func3, Try.ntmps3
  go_wp2
  go_ret
  exact ⟨rfl, Below.refl _ _⟩

set_option maxHeartbeats 1000000 in
theorem law_big_m2 (value deft : Int)  (minV step : Int) (capped : Bool) (maxV asked : Int) (w : World) (v1 : -1152921504606846976 ≤ value) (v2 : value ≤ 1152921504606846976) (m2 : 1152921504606846976 < minV) :
    Calls Try.prog 3 #[.int .i64 value, .int .i64 deft, .slice none 0 0, .bool true, .int .i64 minV, .int .i64 step, .bool capped, .int .i64 maxV, .int .i64 asked, .bool true] w fun e w' => e = .returned (.bool true) ∧ Below w.heap.size w w' := by
  have hn := fun w' a n c => run_neq_slice_nil_any (P := Try.prog) w' 22 2 a n c 0 0 Try.underlying22
  have hn2 := fun w' a n c => Lib.run_eql_slice_nil (P := Try.prog) w' 22 2 a n c 0 0 Try.underlying22
  go_enter Try.func3, Try.ntmps3
  go_wp2
  go_ret
  exact ⟨rfl, Below.refl _ _⟩

set_option maxHeartbeats 1000000 in
theorem law_big_a1 (value deft : Int)  (minV step : Int) (capped : Bool) (maxV asked : Int) (w : World) (v1 : -1152921504606846976 ≤ value) (v2 : value ≤ 1152921504606846976) (m1 : -1152921504606846976 ≤ minV) (m2 : minV ≤ 1152921504606846976) (a1 : asked < -1152921504606846976) :
    Calls Try.prog 3 #[.int .i64 value, .int .i64 deft, .slice none 0 0, .bool true, .int .i64 minV, .int .i64 step, .bool capped, .int .i64 maxV, .int .i64 asked, .bool true] w fun e w' => e = .returned (.bool true) ∧ Below w.heap.size w w' := by
  have hn := fun w' a n c => run_neq_slice_nil_any (P := Try.prog) w' 22 2 a n c 0 0 Try.underlying22
  have hn2 := fun w' a n c => Lib.run_eql_slice_nil (P := Try.prog) w' 22 2 a n c 0 0 Try.underlying22
  go_enter Try.func3, Try.ntmps3
  go_wp2
  go_ret
  exact ⟨rfl, Below.refl _ _⟩

set_option maxHeartbeats 1000000 in
theorem law_big_a2 (value deft : Int)  (minV step : Int) (capped : Bool) (maxV asked : Int) (w : World) (v1 : -1152921504606846976 ≤ value) (v2 : value ≤ 1152921504606846976) (m1 : -1152921504606846976 ≤ minV) (m2 : minV ≤ 1152921504606846976) (a2 : 1152921504606846976 < asked) :
    Calls Try.prog 3 #[.int .i64 value, .int .i64 deft, .slice none 0 0, .bool true, .int .i64 minV, .int .i64 step, .bool capped, .int .i64 maxV, .int .i64 asked, .bool true] w fun e w' => e = .returned (.bool true) ∧ Below w.heap.size w w' := by
  have hn := fun w' a n c => run_neq_slice_nil_any (P := Try.prog) w' 22 2 a n c 0 0 Try.underlying22
  have hn2 := fun w' a n c => Lib.run_eql_slice_nil (P := Try.prog) w' 22 2 a n c 0 0 Try.underlying22
  have hd : decide (asked ≤ 1152921504606846976) = false := decide_eq_false (by omega)
  go_enter Try.func3, Try.ntmps3
  go_wp2
  go_ret
  exact ⟨rfl, Below.refl _ _⟩

set_option maxHeartbeats 1000000 in
theorem law_low (value deft : Int)  (minV step : Int) (capped : Bool) (maxV asked : Int) (w : World) (v1 : -1152921504606846976 ≤ value) (v2 : value ≤ 1152921504606846976) (m1 : -1152921504606846976 ≤ minV) (m2 : minV ≤ 1152921504606846976) (a1 : -1152921504606846976 ≤ asked) (a2 : asked ≤ 1152921504606846976) (hs : 0 < step) (hvm : value < minV) :
    Calls Try.prog 3 #[.int .i64 value, .int .i64 deft, .slice none 0 0, .bool true, .int .i64 minV, .int .i64 step, .bool capped, .int .i64 maxV, .int .i64 asked, .bool true] w fun e w' => e = .returned (.bool true) ∧ Below w.heap.size w w' := by
  have hn := fun w' a n c => run_neq_slice_nil_any (P := Try.prog) w' 22 2 a n c 0 0 Try.underlying22
  have hn2 := fun w' a n c => Lib.run_eql_slice_nil (P := Try.prog) w' 22 2 a n c 0 0 Try.underlying22
  go_enter Try.func3, Try.ntmps3
  go_wp2
  go_ret
  exact ⟨rfl, Below.refl _ _⟩

end Go.Proofs.Qxb6600607a
