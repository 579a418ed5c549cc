/-
  THE PLAIN LAW: no Go in sight. The value of a row of decimal digits; that the numeral of u has the value u; its shape.
-/
import Derived.Lib.ItoaNum
import Derived.Lib.ItoaLen
namespace Go.Proofs.Qxb6600469aDoor
open Go.Lib

/-- The number that a row of digits stands for. -/
def val (l : List UInt8) : Nat := l.foldl (fun a c => a * 10 + (c.toNat - 48)) 0

theorem val_nil : val [] = 0 := rfl
theorem val_snoc (l : List UInt8) (c : UInt8) : val (l ++ [c]) = val l * 10 + (c.toNat - 48) := by
  simp [val, List.foldl_append]

theorem foldl_ge (l : List UInt8) : ∀ a : Nat, a ≤ l.foldl (fun a c => a * 10 + (c.toNat - 48)) a := by
  induction l with
  | nil => intro a; exact Nat.le_refl _
  | cons c r ih => intro a; have := ih (a * 10 + (c.toNat - 48)); simp only [List.foldl_cons]; omega

theorem val_take_le (l : List UInt8) (k : Nat) : val (l.take k) ≤ val l := by
  have h : val l = (l.drop k).foldl (fun a c => a * 10 + (c.toNat - 48)) (val (l.take k)) := by
    unfold val
    rw [← List.foldl_append, List.take_append_drop]
  rw [h]
  exact foldl_ge _ _

theorem digit_nat (d : Nat) (h : d < 10) : (UInt8.ofNat (48 + d)).toNat = 48 + d := by
  rw [UInt8.toNat_ofNat']
  omega

theorem val_dec (u : Nat) : val (decDigits u) = u := by
  induction u using Nat.strongRecOn with
  | _ u ih =>
    by_cases h : u < 10
    · rw [decDigits, dif_pos h]
      simp only [val, List.foldl_cons, List.foldl_nil]
      rw [digit_nat u h]
      omega
    · rw [decDigits, dif_neg h, val_snoc, ih (u / 10) (by omega), digit_nat (u % 10) (by omega)]
      omega

theorem dec_digit (u : Nat) : ∀ c ∈ decDigits u, 48 ≤ c.toNat ∧ c.toNat ≤ 57 := by
  induction u using Nat.strongRecOn with
  | _ u ih =>
    intro c hc
    by_cases h : u < 10
    · rw [decDigits, dif_pos h] at hc
      simp only [List.mem_singleton] at hc
      rw [hc, digit_nat u h]
      omega
    · rw [decDigits, dif_neg h] at hc
      rcases List.mem_append.1 hc with hc | hc
      · exact ih (u / 10) (by omega) c hc
      · simp only [List.mem_singleton] at hc
        rw [hc, digit_nat (u % 10) (by omega)]
        omega

theorem dec_length_pos (u : Nat) : 1 ≤ (decDigits u).length := by rw [decDigits_length]; exact nDigits_pos u
theorem dec_length_le (u : Nat) (h : u < 18446744073709551616) : (decDigits u).length ≤ 20 := by rw [decDigits_length]; exact nDigits_le20 u h

/-- No leading zero but in "0" itself. -/
theorem dec_head (u : Nat) (h1 : 1 ≤ u) : ∃ c r, decDigits u = c :: r ∧ c.toNat ≠ 48 := by
  induction u using Nat.strongRecOn with
  | _ u ih =>
    by_cases h : u < 10
    · refine ⟨UInt8.ofNat (48 + u), [], by rw [decDigits, dif_pos h], ?_⟩
      rw [digit_nat u h]
      omega
    · obtain ⟨c, r, e, hc⟩ := ih (u / 10) (by omega) (by omega)
      exact ⟨c, r ++ [UInt8.ofNat (48 + u % 10)], by rw [decDigits, dif_neg h, e]; rfl, hc⟩

end Go.Proofs.Qxb6600469aDoor
