/-
  THE LAW, case by case: what Take and the model return is the same pair.
-/
import Derived.Test.Qxb6600607aLaw
import Derived.Test.Qxb6600607aModel
import Derived.Test.Qxb6600607aShelf
import Derived.Test.Qxb6600607aPlain
namespace Go.Proofs.Qxb6600607a
open Go.RowKit
set_option linter.unusedVariables false

/-- A call that leaves the world as it was has drawn nothing. -/
theorem still {f : Nat} {args : Array Value} {w : World} {v : Value} (h : Calls Try.prog f args w fun e w' => e = .returned v ∧ w' = w) : Calls Try.prog f args w fun e w' => e = .returned v ∧ ∃ n, w' = w.drewN n :=
  h.mono fun e w' ⟨h1, h2⟩ => ⟨h1, 0, h2⟩

theorem nil_clone (w : World) : Calls Try.prog 9 #[.slice none 0 0] w fun e w1 => e = .returned (.slice none 0 0) ∧ Below w.heap.size w w1 ∧ True :=
  (clone_nil w).mono fun e w' ⟨h1, h2⟩ => ⟨h1, h2 ▸ Below.refl _ _, trivial⟩

abbrev Any : World → Prop := fun _ => True
theorem any_stays : ∀ W W' : World, Any W → Below W.heap.size W W' → Any W' := fun _ _ _ _ => trivial

/-- No range: the ask itself. -/
theorem plain_all (value deft minV step : Int) (capped : Bool) (maxV asked : Int) (w : World) :
    Calls Try.prog 3 #[.int .i64 value, .int .i64 deft, .slice none 0 0, .bool false, .int .i64 minV, .int .i64 step, .bool capped, .int .i64 maxV, .int .i64 asked, .bool true] w fun e w' => e = .returned (.bool true) ∧ Below w.heap.size w w' :=
  law_plain Any any_stays value deft minV step capped maxV asked _ _ w (nil_clone w) (fun W b _ hp => take_plain W b value deft minV step capped maxV asked hp) (fun W _ => still (model_plain W value deft minV step capped maxV asked))

/-- A range without steps. -/
theorem flat_all (value deft minV step : Int) (capped : Bool) (maxV asked : Int) (w : World)
    (v1 : -1152921504606846976 ≤ value) (v2 : value ≤ 1152921504606846976) (m1 : -1152921504606846976 ≤ minV) (m2 : minV ≤ 1152921504606846976) (a1 : -1152921504606846976 ≤ asked) (a2 : asked ≤ 1152921504606846976) (hs : step ≤ 0) :
    Calls Try.prog 3 #[.int .i64 value, .int .i64 deft, .slice none 0 0, .bool true, .int .i64 minV, .int .i64 step, .bool capped, .int .i64 maxV, .int .i64 asked, .bool true] w fun e w' => e = .returned (.bool true) ∧ Below w.heap.size w w' := by
  rcases Int.lt_or_le asked minV with ham | ham
  · cases capped
    · exact law_flat Any any_stays value deft minV step false maxV asked _ _ w v1 v2 m1 m2 a1 a2 hs (nil_clone w) (fun W b _ hp => take_range_below_free W b value deft minV step maxV asked hp hs ham) (fun W _ => still (model_range_below_free W value deft minV step maxV asked hs ham))
    · rcases Int.lt_or_le maxV minV with hcap | hcap
      · exact law_flat Any any_stays value deft minV step true maxV asked _ _ w v1 v2 m1 m2 a1 a2 hs (nil_clone w) (fun W b _ hp => take_range_below_out W b value deft minV step maxV asked hp hs ham hcap) (fun W _ => still (model_range_below_out W value deft minV step maxV asked hs ham hcap))
      · exact law_flat Any any_stays value deft minV step true maxV asked _ _ w v1 v2 m1 m2 a1 a2 hs (nil_clone w) (fun W b _ hp => take_range_below_in W b value deft minV step maxV asked hp hs ham hcap) (fun W _ => still (model_range_below_in W value deft minV step maxV asked hs ham hcap))
  · cases capped
    · exact law_flat Any any_stays value deft minV step false maxV asked _ _ w v1 v2 m1 m2 a1 a2 hs (nil_clone w) (fun W b _ hp => take_range_above_free W b value deft minV step maxV asked hp hs ham) (fun W _ => still (model_range_above_free W value deft minV step maxV asked hs ham))
    · rcases Int.lt_or_le maxV asked with hcap | hcap
      · exact law_flat Any any_stays value deft minV step true maxV asked _ _ w v1 v2 m1 m2 a1 a2 hs (nil_clone w) (fun W b _ hp => take_range_above_out W b value deft minV step maxV asked hp hs ham hcap) (fun W _ => still (model_range_above_out W value deft minV step maxV asked hs ham hcap))
      · exact law_flat Any any_stays value deft minV step true maxV asked _ _ w v1 v2 m1 m2 a1 a2 hs (nil_clone w) (fun W b _ hp => take_range_above_in W b value deft minV step maxV asked hp hs ham hcap) (fun W _ => still (model_range_above_in W value deft minV step maxV asked hs ham hcap))

/-- A range with steps. -/
theorem step_all (value deft minV step : Int) (capped : Bool) (maxV asked : Int) (w : World)
    (v1 : -1152921504606846976 ≤ value) (v2 : value ≤ 1152921504606846976) (m1 : -1152921504606846976 ≤ minV) (m2 : minV ≤ 1152921504606846976) (a1 : -1152921504606846976 ≤ asked) (a2 : asked ≤ 1152921504606846976) (hs : 0 < step) (hs2 : step ≤ 9223372036854775807) (hvm : minV ≤ value) :
    Calls Try.prog 3 #[.int .i64 value, .int .i64 deft, .slice none 0 0, .bool true, .int .i64 minV, .int .i64 step, .bool capped, .int .i64 maxV, .int .i64 asked, .bool true] w fun e w' => e = .returned (.bool true) ∧ Below w.heap.size w w' := by
  rcases Int.lt_or_le asked minV with ham | ham
  · obtain ⟨_, _, Q0, Q1, _, _, _⟩ := step_facts step 0 (value - minV) hs (by omega) (by omega)
    have Q2 : (value - minV) / step ≤ 2305843009213693952 := by omega
    cases capped
    · exact law_step Any any_stays value deft minV step false maxV asked _ _ w v1 v2 m1 m2 a1 a2 hs hvm (nil_clone w) (fun W b _ hp => take_step_below_free W b value deft minV step maxV asked hp hs hs2 v1 v2 m1 m2 a1 a2 hvm _ rfl Q0 Q2 ham) (fun W _ => still (model_step_below_free W value deft minV step maxV asked hs hs2 v1 v2 m1 m2 a1 a2 hvm ham))
    · rcases Int.lt_or_le maxV minV with hcap | hcap
      · exact law_step Any any_stays value deft minV step true maxV asked _ _ w v1 v2 m1 m2 a1 a2 hs hvm (nil_clone w) (fun W b _ hp => take_step_below_out W b value deft minV step maxV asked hp hs hs2 v1 v2 m1 m2 a1 a2 hvm _ rfl Q0 Q2 ham hcap) (fun W _ => still (model_step_below_out W value deft minV step maxV asked hs hs2 v1 v2 m1 m2 a1 a2 hvm ham hcap))
      · exact law_step Any any_stays value deft minV step true maxV asked _ _ w v1 v2 m1 m2 a1 a2 hs hvm (nil_clone w) (fun W b _ hp => take_step_below_in W b value deft minV step maxV asked hp hs hs2 v1 v2 m1 m2 a1 a2 hvm _ rfl Q0 Q2 ham hcap) (fun W _ => still (model_step_below_in W value deft minV step maxV asked hs hs2 v1 v2 m1 m2 a1 a2 hvm ham hcap))
  · obtain ⟨q0, q1, Q0, Q1, r0, r1, hqr⟩ := step_facts step (asked - minV) (value - minV) hs (by omega) (by omega)
    have Q2 : (value - minV) / step ≤ 2305843009213693952 := by omega
    have q2 : (asked - minV) / step ≤ 2305843009213693952 := by omega
    rcases Decidable.em ((asked - minV) % step = 0) with hr | hr
    · -- on the grid
      have hz : ((asked - minV) % step != 0) = false := by simpa using hr
      have hT : minV + (asked - minV) / step * step = asked := by omega
      have hov := over_iff step (value - minV) ((asked - minV) / step) hs
      rcases Int.lt_or_le ((value - minV) / step) ((asked - minV) / step) with hover | hover
      · have := hov.1 hover
        exact law_step Any any_stays value deft minV step capped maxV asked _ _ w v1 v2 m1 m2 a1 a2 hs hvm (nil_clone w) (fun W b _ hp => take_step_zero_over W b value deft minV step capped maxV asked hp hs hs2 v1 v2 m1 m2 a1 a2 hvm _ rfl Q0 Q2 ham _ rfl q0 q2 hz hover) (fun W _ => still (model_step_zero_over W value deft minV step capped maxV asked hs hs2 v1 v2 m1 m2 a1 a2 hvm ham _ rfl hz (by omega)))
      · have hno : ¬ (value - minV < (asked - minV) / step * step) := fun h => by have := hov.2 h; omega
        cases capped
        · refine law_step Any any_stays value deft minV step false maxV asked asked true w v1 v2 m1 m2 a1 a2 hs hvm (nil_clone w) (fun W b _ hp => ?_) (fun W _ => still (model_step_zero_free W value deft minV step maxV asked hs hs2 v1 v2 m1 m2 a1 a2 hvm ham _ rfl hz (by omega)))
          have h := take_step_zero_free W b value deft minV step maxV asked hp hs hs2 v1 v2 m1 m2 a1 a2 hvm _ rfl Q0 Q2 ham _ rfl q0 q2 hz hover (by omega) (by omega)
          rwa [hT] at h
        · rcases Int.lt_or_le maxV asked with hcap | hcap
          · exact law_step Any any_stays value deft minV step true maxV asked _ _ w v1 v2 m1 m2 a1 a2 hs hvm (nil_clone w) (fun W b _ hp => take_step_zero_out W b value deft minV step maxV asked hp hs hs2 v1 v2 m1 m2 a1 a2 hvm _ rfl Q0 Q2 ham _ rfl q0 q2 hz hover (by omega) (by omega) (by omega)) (fun W _ => still (model_step_zero_out W value deft minV step maxV asked hs hs2 v1 v2 m1 m2 a1 a2 hvm ham _ rfl hz (by omega) hcap))
          · refine law_step Any any_stays value deft minV step true maxV asked asked true w v1 v2 m1 m2 a1 a2 hs hvm (nil_clone w) (fun W b _ hp => ?_) (fun W _ => still (model_step_zero_in W value deft minV step maxV asked hs hs2 v1 v2 m1 m2 a1 a2 hvm ham _ rfl hz (by omega) hcap))
            have h := take_step_zero_in W b value deft minV step maxV asked hp hs hs2 v1 v2 m1 m2 a1 a2 hvm _ rfl Q0 Q2 ham _ rfl q0 q2 hz hover (by omega) (by omega) (by omega)
            rwa [hT] at h
    · -- between two points of the grid
      have hz : ((asked - minV) % step != 0) = true := by simpa using hr
      have hmul : ((asked - minV) / step + 1) * step = (asked - minV) / step * step + step := by rw [Int.add_mul, Int.one_mul]
      have hT : minV + ((asked - minV) / step + 1) * step = asked + (step - (asked - minV) % step) := by omega
      have hov := over_iff step (value - minV) ((asked - minV) / step + 1) hs
      rcases Int.lt_or_le ((value - minV) / step) ((asked - minV) / step + 1) with hover | hover
      · have := hov.1 hover
        exact law_step Any any_stays value deft minV step capped maxV asked _ _ w v1 v2 m1 m2 a1 a2 hs hvm (nil_clone w) (fun W b _ hp => take_step_more_over W b value deft minV step capped maxV asked hp hs hs2 v1 v2 m1 m2 a1 a2 hvm _ rfl Q0 Q2 ham _ rfl q0 q2 hz hover) (fun W _ => still (model_step_more_over W value deft minV step capped maxV asked hs hs2 v1 v2 m1 m2 a1 a2 hvm ham _ rfl hz r0 r1 (by omega)))
      · have hno : ¬ (value - minV < ((asked - minV) / step + 1) * step) := fun h => by have := hov.2 h; omega
        have hp0 : 0 ≤ (asked - minV) / step * step := Int.mul_nonneg q0 (by omega)
        cases capped
        · refine law_step Any any_stays value deft minV step false maxV asked (asked + (step - (asked - minV) % step)) true w v1 v2 m1 m2 a1 a2 hs hvm (nil_clone w) (fun W b _ hp => ?_) (fun W _ => still (model_step_more_free W value deft minV step maxV asked hs hs2 v1 v2 m1 m2 a1 a2 hvm ham _ rfl hz r0 r1 (by omega)))
          have h := take_step_more_free W b value deft minV step maxV asked hp hs hs2 v1 v2 m1 m2 a1 a2 hvm _ rfl Q0 Q2 ham _ rfl q0 q2 hz hover (by omega) (by omega)
          rwa [hT] at h
        · rcases Int.lt_or_le maxV (asked + (step - (asked - minV) % step)) with hcap | hcap
          · exact law_step Any any_stays value deft minV step true maxV asked _ _ w v1 v2 m1 m2 a1 a2 hs hvm (nil_clone w) (fun W b _ hp => take_step_more_out W b value deft minV step maxV asked hp hs hs2 v1 v2 m1 m2 a1 a2 hvm _ rfl Q0 Q2 ham _ rfl q0 q2 hz hover (by omega) (by omega) (by omega)) (fun W _ => still (model_step_more_out W value deft minV step maxV asked hs hs2 v1 v2 m1 m2 a1 a2 hvm ham _ rfl hz r0 r1 (by omega) hcap))
          · refine law_step Any any_stays value deft minV step true maxV asked (asked + (step - (asked - minV) % step)) true w v1 v2 m1 m2 a1 a2 hs hvm (nil_clone w) (fun W b _ hp => ?_) (fun W _ => still (model_step_more_in W value deft minV step maxV asked hs hs2 v1 v2 m1 m2 a1 a2 hvm ham _ rfl hz r0 r1 (by omega) hcap))
            have h := take_step_more_in W b value deft minV step maxV asked hp hs hs2 v1 v2 m1 m2 a1 a2 hvm _ rfl Q0 Q2 ham _ rfl q0 q2 hz hover (by omega) (by omega) (by omega)
            rwa [hT] at h

end Go.Proofs.Qxb6600607a
