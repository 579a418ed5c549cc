/-
  THE WORDS OF THE THIRD FORM, READ BACK: zzParseStatusWord at 'Status(' numeral ')' gives the number.
-/
import Derived.Test.Qxb6002464aDoorLaw
import Derived.ShutString
namespace Go.Proofs.Qxb6002464aDoor
open Go.RowKit Go.Lib
set_option linter.unusedVariables false

def pre : List UInt8 := [83, 116, 97, 116, 117, 115, 40]

theorem word_mk (L : List UInt8) : word ⟨L.toArray⟩ = ⟨(pre ++ (L ++ [41])).toArray⟩ := by
  have e : word ⟨L.toArray⟩ = (ByteArray.mk pre.toArray ++ ByteArray.mk L.toArray) ++ ByteArray.mk [(41 : UInt8)].toArray := rfl
  rw [e, ByteArray.mk_append_mk, ByteArray.mk_append_mk, List.append_assoc]

theorem word_size (L : List UInt8) : (word ⟨L.toArray⟩).size = L.length + 8 := by
  rw [word_mk, size_of_list]; simp [pre]

theorem word_ne_error (L : List UInt8) : ((word ⟨L.toArray⟩).toList == [101, 114, 114, 111, 114]) = false := by
  rw [word_mk, ByteArray.toList_mk]; simp [pre]
theorem word_ne_ok (L : List UInt8) : ((word ⟨L.toArray⟩).toList == [111, 107]) = false := by
  rw [word_mk, ByteArray.toList_mk]; simp [pre]

theorem word_head (L : List UInt8) : (word ⟨L.toArray⟩).extract 0 7 = { data := #[83, 116, 97, 116, 117, 115, 40] } := by
  rw [word_mk, ByteArray.extract_mk]; simp [pre]

theorem word_body (L : List UInt8) : (word ⟨L.toArray⟩).extract 7 ((word ⟨L.toArray⟩).size - 1) = ⟨L.toArray⟩ := by
  rw [word_size, word_mk, ByteArray.extract_mk]
  have e : (pre ++ (L ++ [41])).drop 7 = L ++ [41] := by simp [pre]
  rw [e, show L.length + 8 - 1 - 7 = L.length by omega, List.take_left']
  rfl

theorem word_last (L : List UInt8) (hh : (word ⟨L.toArray⟩).size - 1 < (word ⟨L.toArray⟩).size) : (word ⟨L.toArray⟩)[(word ⟨L.toArray⟩).size - 1]'hh = 41 := by
  have h1 : (word ⟨L.toArray⟩)[(word ⟨L.toArray⟩).size - 1]? = some 41 := by
    rw [word_size, word_mk]
    show (ByteArray.mk (pre ++ (L ++ [41])).toArray)[L.length + 8 - 1]? = some 41
    have h2 : L.length + 8 - 1 < (ByteArray.mk (pre ++ (L ++ [41])).toArray).size := by rw [size_of_list]; simp [pre]
    rw [ByteArray.getElem?_lt' _ _ h2]
    show some ((pre ++ (L ++ [41]))[L.length + 8 - 1]'(by simp [pre])) = some 41
    rw [List.getElem_append_right (by simp [pre])]
    rw [List.getElem_append_right (by simp [pre])]
    simp
  rw [ByteArray.getElem?_lt' _ _ hh] at h1
  exact Option.some.inj h1

theorem gathers (L : List UInt8) (hd : ∀ c ∈ L, 48 ≤ c.toNat ∧ c.toNat ≤ 57) (hv : val L ≤ 9223372036854775808) : Gathers ⟨L.toArray⟩ (fun k => (val (L.take k) : Int)) := {
  start := by simp [val]
  step := fun k hk => by
    have hk' : k < L.length := by rwa [size_of_list] at hk
    have e : (⟨L.toArray⟩ : ByteArray)[k]'hk = L[k] := rfl
    have h1 := hd L[k] (List.getElem_mem hk')
    rw [e, List.take_succ_eq_append_getElem hk', val_snoc]
    omega
  lo := fun k => by omega
  hi := fun k _ => by have := val_take_le L k; omega
  digit := fun k hk => by
    have hk' : k < L.length := by rwa [size_of_list] at hk
    have e : (⟨L.toArray⟩ : ByteArray)[k]'hk = L[k] := rfl
    have h1 := hd L[k] (List.getElem_mem hk')
    rw [e]
    omega }

theorem wrap_self (n : Int) (h0 : -9223372036854775808 ≤ n) (h1 : n ≤ 9223372036854775807) : wrap64 n = n := by unfold wrap64; omega
theorem wrap_neg (n : Int) (h0 : 0 ≤ n) (h1 : n ≤ 9223372036854775808) : wrap64 (-(wrap64 n)) = -n := by unfold wrap64; omega

theorem size_ne (L : List UInt8) (h : 1 ≤ L.length) : ¬ (⟨L.toArray⟩ : ByteArray) = ByteArray.empty := fun e => by
  have := congrArg ByteArray.size e
  rw [size_of_list] at this
  simp at this
  subst this
  simp at h

theorem len_ne (L : List UInt8) (h : 1 ≤ L.length) : (((⟨L.toArray⟩ : ByteArray).size : Int) == 0) = false := by
  rw [size_of_list]
  exact beq_eq_false_iff_ne.2 (by omega)

/-- At a number from 2 on. -/
theorem parse_pos (u : Nat) (hu : 2 ≤ u) (hu2 : u ≤ 9223372036854775807) (w : World) :
    Calls Tryd.prog 8 #[.string (word ⟨(decDigits u).toArray⟩)] w fun e w' => e = .returned (.tuple #[.int .i64 (u : Int), .bool true]) ∧ w' = w := by
  have hl1 := dec_length_pos u
  have hl2 := dec_length_le u (by omega)
  have hG := gathers (decDigits u) (dec_digit u) (by rw [val_dec]; omega)
  obtain ⟨c, r, hcr, hc⟩ := dec_head u (by omega)
  have hc0 : ∀ hh : 0 < (⟨(decDigits u).toArray⟩ : ByteArray).size, ((⟨(decDigits u).toArray⟩ : ByteArray)[0]'hh) = c := fun hh => by
    show (decDigits u)[0]'(by omega) = c
    simp [hcr]
  have hcd := dec_digit u c (by rw [hcr]; simp)
  have hfin : wrap64 (val ((decDigits u).take (⟨(decDigits u).toArray⟩ : ByteArray).size) : Int) = (u : Int) := by
    rw [size_of_list, List.take_length, val_dec]
    exact wrap_self _ (by omega) (by omega)
  have key : Calls Tryd.prog 8 #[.string (word ⟨(decDigits u).toArray⟩)] w fun e w' => e = .returned (.tuple #[.int .i64 (wrap64 (val ((decDigits u).take (⟨(decDigits u).toArray⟩ : ByteArray).size) : Int)), .bool true]) ∧ w' = w := by
    rcases Nat.lt_or_ge 1 (decDigits u).length with hb | hb
    · exact parse_pos_long (word ⟨(decDigits u).toArray⟩) ⟨(decDigits u).toArray⟩ _ hG w (by rw [word_size]; omega) (by rw [word_size]; omega) (word_ne_error _) (word_ne_ok _) (word_head _) (word_last _) (word_body _)
        (size_ne _ hl1) (len_ne _ hl1) (by rw [size_of_list]; omega) (by rw [size_of_list]; omega)
        (fun hh => by rw [hc0 hh]; simp; omega) (fun hh => by rw [hc0 hh]; simp; omega) (by rw [size_of_list]; omega)
    · exact parse_pos_one (word ⟨(decDigits u).toArray⟩) ⟨(decDigits u).toArray⟩ _ hG w (by rw [word_size]; omega) (by rw [word_size]; omega) (word_ne_error _) (word_ne_ok _) (word_head _) (word_last _) (word_body _)
        (size_ne _ hl1) (len_ne _ hl1) (by rw [size_of_list]; omega) (by rw [size_of_list]; omega)
        (fun hh => by rw [hc0 hh]; simp; omega) (fun hh => by rw [hc0 hh]; simp; omega) (by rw [size_of_list]; omega)
  rwa [hfin] at key

/-- At a number below nought. -/
theorem parse_neg (u : Nat) (hu : 1 ≤ u) (hu2 : u ≤ 9223372036854775808) (w : World) :
    Calls Tryd.prog 8 #[.string (word ⟨(45 :: decDigits u).toArray⟩)] w fun e w' => e = .returned (.tuple #[.int .i64 (-(u : Int)), .bool true]) ∧ w' = w := by
  have hl1 := dec_length_pos u
  have hl2 := dec_length_le u (by omega)
  have hG := gathers (decDigits u) (dec_digit u) (by rw [val_dec]; omega)
  obtain ⟨c, r, hcr, hc⟩ := dec_head u (by omega)
  have hc0 : ∀ hh : 0 < (⟨(decDigits u).toArray⟩ : ByteArray).size, ((⟨(decDigits u).toArray⟩ : ByteArray)[0]'hh) = c := fun hh => by
    show (decDigits u)[0]'(by omega) = c
    simp [hcr]
  have hm : ∀ hh : 0 < (⟨(45 :: decDigits u).toArray⟩ : ByteArray).size, ((⟨(45 :: decDigits u).toArray⟩ : ByteArray)[0]'hh) = 45 := fun hh => rfl
  have hcd := dec_digit u c (by rw [hcr]; simp)
  have hE3 : (⟨(45 :: decDigits u).toArray⟩ : ByteArray).extract 1 (⟨(45 :: decDigits u).toArray⟩ : ByteArray).size = ⟨(decDigits u).toArray⟩ := by
    rw [size_of_list, ByteArray.extract_mk]
    simp
  have hz2 : ((⟨(decDigits u).toArray⟩ : ByteArray).toList == [48]) = false := by
    rw [ByteArray.toList_mk, hcr]
    have : ¬ c = 48 := fun e => hc (by rw [e]; rfl)
    simp [this]
  have hfin : wrap64 (-(wrap64 (val ((decDigits u).take (⟨(decDigits u).toArray⟩ : ByteArray).size) : Int))) = -(u : Int) := by
    rw [size_of_list, List.take_length, val_dec]
    exact wrap_neg _ (by omega) (by omega)
  have key : Calls Tryd.prog 8 #[.string (word ⟨(45 :: decDigits u).toArray⟩)] w fun e w' => e = .returned (.tuple #[.int .i64 (wrap64 (-(wrap64 (val ((decDigits u).take (⟨(decDigits u).toArray⟩ : ByteArray).size) : Int)))), .bool true]) ∧ w' = w := by
    rcases Nat.lt_or_ge 1 (decDigits u).length with hb | hb
    · exact parse_neg_long (word ⟨(45 :: decDigits u).toArray⟩) ⟨(45 :: decDigits u).toArray⟩ ⟨(decDigits u).toArray⟩ _ hG w (by rw [word_size]; simp; omega) (by rw [word_size]; simp) (word_ne_error _) (word_ne_ok _) (word_head _) (word_last _) (word_body _)
        (size_ne _ (by simp)) (len_ne _ (by simp)) (by rw [size_of_list]; simp) (fun hh => by rw [hm hh]; rfl) hE3 (size_ne _ hl1) (len_ne _ hl1) (by rw [size_of_list]; omega)
        (fun hh => by rw [hc0 hh]; simp; omega) hz2 (by rw [size_of_list]; omega)
    · exact parse_neg_one (word ⟨(45 :: decDigits u).toArray⟩) ⟨(45 :: decDigits u).toArray⟩ ⟨(decDigits u).toArray⟩ _ hG w (by rw [word_size]; simp; omega) (by rw [word_size]; simp) (word_ne_error _) (word_ne_ok _) (word_head _) (word_last _) (word_body _)
        (size_ne _ (by simp)) (len_ne _ (by simp)) (by rw [size_of_list]; simp) (fun hh => by rw [hm hh]; rfl) hE3 (size_ne _ hl1) (len_ne _ hl1) (by rw [size_of_list]; omega)
        (fun hh => by rw [hc0 hh]; simp; omega) hz2 (by rw [size_of_list]; omega)
  rwa [hfin] at key

/-- AT EVERY INT BUT 0 AND 1: the numeral of n is read back as n. -/
theorem parse_itoa (n : Int) (h0 : -9223372036854775808 ≤ n) (h1 : n ≤ 9223372036854775807) (hn0 : ¬ n = 0) (hn1 : ¬ n = 1) (w : World) :
    Calls Tryd.prog 8 #[.string (word ⟨(itoa n).toArray⟩)] w fun e w' => e = .returned (.tuple #[.int .i64 n, .bool true]) ∧ w' = w := by
  rcases Decidable.em (n < 0) with hneg | hpos
  · obtain ⟨u, rfl⟩ : ∃ u : Nat, n = -(u : Int) := ⟨n.natAbs, by omega⟩
    rw [itoa_neg u (by omega)]
    exact parse_neg u (by omega) (by omega) w
  · obtain ⟨u, rfl⟩ : ∃ u : Nat, n = u := ⟨n.toNat, by omega⟩
    rw [itoa_nonneg]
    exact parse_pos u (by omega) (by omega) w

/-! ### THE LAW -/

set_option maxHeartbeats 400000 in
theorem law_zero (w : World) : Calls Tryd.prog 3 #[.int .i64 0] w fun e w' => e = .returned (.bool true) ∧ Below w.heap.size w w' := by
  go_enter Tryd.func3, Tryd.ntmps3
  go_wp2_with (first
    | (go_at_call 7; refine (string_zero _).mono ?_; rintro e w' ⟨rfl, rfl⟩)
    | (go_at_call 8; refine (parse_error _).mono ?_; rintro e w' ⟨rfl, rfl⟩))
  go_ret
  exact ⟨rfl, Below.refl _ _⟩

set_option maxHeartbeats 400000 in
theorem law_one (w : World) : Calls Tryd.prog 3 #[.int .i64 1] w fun e w' => e = .returned (.bool true) ∧ Below w.heap.size w w' := by
  go_enter Tryd.func3, Tryd.ntmps3
  go_wp2_with (first
    | (go_at_call 7; refine (string_one _).mono ?_; rintro e w' ⟨rfl, rfl⟩)
    | (go_at_call 8; refine (parse_ok _).mono ?_; rintro e w' ⟨rfl, rfl⟩))
  go_ret
  exact ⟨rfl, Below.refl _ _⟩

set_option maxHeartbeats 400000 in
theorem law_other (n : Int) (h0 : -9223372036854775808 ≤ n) (h1 : n ≤ 9223372036854775807) (hn0 : ¬ n = 0) (hn1 : ¬ n = 1) (w : World) (htab : Lib.TabIs Tryd.prog w powName .u64 Lib.pow10Tab) :
    Calls Tryd.prog 3 #[.int .i64 n] w fun e w' => e = .returned (.bool true) ∧ Below w.heap.size w w' := by
  have hs := string_other n h0 h1 w htab (by simpa using hn0) (by simpa using hn1)
  have hp := fun w' => parse_itoa n h0 h1 hn0 hn1 w'
  generalize word ⟨(itoa n).toArray⟩ = s at hs hp
  have HS := Lib.hid hs
  have HP := Lib.hid hp
  clear hs hp htab h0 h1 hn0 hn1
  go_enter Tryd.func3, Tryd.ntmps3
  go_wp2_with (first
    | (go_at_call 7; refine (HS.out).mono ?_; rintro e w1 ⟨rfl, hb⟩)
    | (go_at_call 8; refine (HP.out _).mono ?_; rintro e w2 ⟨rfl, rfl⟩))
  go_ret
  exact ⟨rfl, hb⟩

/-- FOR EVERY INT. -/
theorem law_any (n : Int) (h0 : -9223372036854775808 ≤ n) (h1 : n ≤ 9223372036854775807) (w : World) (htab : Lib.TabIs Tryd.prog w powName .u64 Lib.pow10Tab) :
    Calls Tryd.prog 3 #[.int .i64 n] w fun e w' => e = .returned (.bool true) ∧ Below w.heap.size w w' := by
  rcases Decidable.em (n = 0) with rfl | hn0
  · exact law_zero w
  · rcases Decidable.em (n = 1) with rfl | hn1
    · exact law_one w
    · exact law_other n h0 h1 hn0 hn1 w htab

end Go.Proofs.Qxb6002464aDoor
