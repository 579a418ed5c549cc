/-
  THE PLAIN LAW: no Go in sight: where a sorted list first is not below x; rounding up by whole steps.
-/
namespace Go.Proofs.Qxb6600607a

theorem pair_of_adjacent (ys : List Int) (h : ∀ m, m + 1 < ys.length → ys.getD m 0 ≤ ys.getD (m + 1) 0) : ys.Pairwise (· ≤ ·) := by
  have key : ∀ d i, i + d < ys.length → ys.getD i 0 ≤ ys.getD (i + d) 0 := by
    intro d
    induction d with
    | zero => intro i _; exact Int.le_refl _
    | succ d ih =>
      intro i hi
      have h1 := ih i (by omega)
      have h2 := h (i + d) (by omega)
      exact Int.le_trans h1 h2
  rw [List.pairwise_iff_getElem]
  intro i j hi hj hij
  have h1 := key (j - i) i (by omega)
  rw [show i + (j - i) = j by omega, List.getD, List.getD, List.getElem?_eq_getElem hi, List.getElem?_eq_getElem hj] at h1
  exact h1

/-- The elements below x stand ahead; the next one is not below x. -/
theorem count_front (x : Int) : ∀ ys : List Int, ys.Pairwise (· ≤ ·) → (∀ j, j < ys.countP (· < x) → ys.getD j 0 < x) ∧ (ys.countP (· < x) < ys.length → x ≤ ys.getD (ys.countP (· < x)) 0)
  | [], _ => ⟨fun j hj => by simp at hj, fun h => by simp at h⟩
  | y :: r, hp => by
    rw [List.pairwise_cons] at hp
    obtain ⟨ih1, ih2⟩ := count_front x r hp.2
    by_cases hy : y < x
    · have e : (y :: r).countP (· < x) = r.countP (· < x) + 1 := by rw [List.countP_cons]; simp [hy]
      rw [e]
      refine ⟨fun j hj => ?_, fun h => ?_⟩
      · cases j with
        | zero => simpa using hy
        | succ j => rw [List.getD_cons_succ]; exact ih1 j (by omega)
      · rw [List.getD_cons_succ]
        exact ih2 (by simp at h; omega)
    · have e : (y :: r).countP (· < x) = 0 := by
        rw [List.countP_eq_zero]
        intro z hz
        rcases List.mem_cons.1 hz with rfl | hz
        · simpa using hy
        · have := hp.1 z hz
          simp
          omega
      rw [e]
      exact ⟨fun j hj => by omega, fun _ => by simpa using hy⟩

theorem count_le (x : Int) (ys : List Int) : ys.countP (· < x) ≤ ys.length := List.countP_le_length

/-- What the quotients and the remainder are. -/
theorem step_facts (step above room : Int) (hs : 0 < step) (ha : 0 ≤ above) (hr : 0 ≤ room) :
    0 ≤ above / step ∧ above / step ≤ above ∧ 0 ≤ room / step ∧ room / step ≤ room ∧ 0 ≤ above % step ∧ above % step < step ∧ (above / step) * step + above % step = above := by
  refine ⟨Int.ediv_nonneg ha (by omega), Int.ediv_le_self _ ha, Int.ediv_nonneg hr (by omega), Int.ediv_le_self _ hr, Int.emod_nonneg _ (by omega), Int.emod_lt_of_pos _ hs, ?_⟩
  have := Int.mul_ediv_add_emod above step
  rw [Int.mul_comm]
  exact this

theorem over_iff (step room s : Int) (hs : 0 < step) : room / step < s ↔ room < s * step := Int.ediv_lt_iff_lt_mul hs

end Go.Proofs.Qxb6600607a
