/-
  THE WALKS of (wireType).String and of the law FnWireTypeStringCaseTable.
-/
import Derived.Test.Qxb6600469aDoorFormat
import Derived.Test.Qxb6600469aDoorParse
import Derived.Test.Qxb6600469aDoorPlain
import Derived.ShutString
namespace Go.Proofs.Qxb6600469aDoor
open Go.RowKit Go.Lib
set_option linter.unusedVariables false

set_option maxHeartbeats 400000 in
/-- strconv.FormatUint at base 10, for every uint64. -/
theorem format_any (u : Nat) (hu64 : u < 18446744073709551616) (w : World) (htab : TabIs Tryd.prog w powName .u64 pow10Tab) :
    Calls Tryd.prog 16 #[.int .u64 u, .int .i64 10] w fun e w' => e = .returned (.string ⟨(decDigits u).toArray⟩) ∧ Below w.heap.size w w' := by
  have hcon : Calls Tryd.prog 21 #[.int .u64 u, .int .i64 10] w fun e w' => e = .returned (.string ⟨(decDigits u).toArray⟩) ∧ Below w.heap.size w w' := by
    rcases Nat.lt_or_ge u 100 with h | h
    · exact inner_small u h w
    · exact inner_big u h hu64 w htab
  have HC := Lib.hid hcon
  clear hcon htab hu64
  go_enter Tryd.func16, Tryd.ntmps16
  go_wp2_with (go_at_call 21; refine (HC.out).mono ?_; rintro e w1 ⟨rfl, hb⟩)
  go_ret
  exact ⟨rfl, hb⟩

/-- The word of every other wire type. -/
def word (t : ByteArray) : ByteArray := ({ data := #[119, 105, 114, 101, 32, 116, 121, 112, 101, 32] } : ByteArray) ++ t

set_option maxHeartbeats 400000 in
theorem string_other (n : Int) (u : Nat) (hn : n = u) (hu64 : u < 18446744073709551616) (w : World) (htab : TabIs Tryd.prog w powName .u64 pow10Tab)
    (h0 : (n == 0) = false) (h1 : (n == 1) = false) (h2 : (n == 2) = false) (h5 : (n == 5) = false) :
    Calls Tryd.prog 7 #[.int .u64 n] w fun e w' => e = .returned (.string (word ⟨(decDigits u).toArray⟩)) ∧ Below w.heap.size w w' := by
  have hlen := dec_length_le u hu64
  have hcon := format_any u hu64 w htab
  rw [← hn] at hcon
  obtain ⟨t, ht⟩ : ∃ t : ByteArray, t = ⟨(decDigits u).toArray⟩ := ⟨_, rfl⟩
  rw [← ht] at hcon ⊢
  have hts : t.size ≤ 20 := by rw [ht, size_of_list]; exact hlen
  have HC := Lib.hid hcon
  clear hcon ht hlen htab hu64 hn
  unfold word
  go_enter Tryd.func7, Tryd.ntmps7
  go_wp2_with (first | (go_at_call 16; refine (HC.out).mono ?_; rintro e w1 ⟨rfl, hb⟩) | go_in)
  go_ret
  exact ⟨rfl, hb⟩

set_option maxHeartbeats 400000 in
theorem law_zero (w : World) : Calls Tryd.prog 3 #[.int .u64 0] w fun e w' => e = .returned (.bool true) ∧ Below w.heap.size w w' := by
  go_enter Tryd.func3, Tryd.ntmps3
  go_wp2
  go_ret
  exact ⟨rfl, Below.refl _ _⟩
set_option maxHeartbeats 400000 in
theorem law_one (w : World) : Calls Tryd.prog 3 #[.int .u64 1] w fun e w' => e = .returned (.bool true) ∧ Below w.heap.size w w' := by
  go_enter Tryd.func3, Tryd.ntmps3
  go_wp2
  go_ret
  exact ⟨rfl, Below.refl _ _⟩
set_option maxHeartbeats 400000 in
theorem law_two (w : World) : Calls Tryd.prog 3 #[.int .u64 2] w fun e w' => e = .returned (.bool true) ∧ Below w.heap.size w w' := by
  go_enter Tryd.func3, Tryd.ntmps3
  go_wp2
  go_ret
  exact ⟨rfl, Below.refl _ _⟩
set_option maxHeartbeats 400000 in
theorem law_five (w : World) : Calls Tryd.prog 3 #[.int .u64 5] w fun e w' => e = .returned (.bool true) ∧ Below w.heap.size w w' := by
  go_enter Tryd.func3, Tryd.ntmps3
  go_wp2
  go_ret
  exact ⟨rfl, Below.refl _ _⟩

def pre : List UInt8 := [119, 105, 114, 101, 32, 116, 121, 112, 101, 32]
theorem word_mk (L : List UInt8) : word ⟨L.toArray⟩ = ⟨(pre ++ L).toArray⟩ := by
  have e : word ⟨L.toArray⟩ = ByteArray.mk pre.toArray ++ ByteArray.mk L.toArray := rfl
  rw [e, ByteArray.mk_append_mk]
theorem word_size (L : List UInt8) : (word ⟨L.toArray⟩).size = L.length + 10 := by
  rw [word_mk, size_of_list]; simp [pre]
theorem word_head (L : List UInt8) : (word ⟨L.toArray⟩).extract 0 10 = { data := #[119, 105, 114, 101, 32, 116, 121, 112, 101, 32] } := by
  rw [word_mk, ByteArray.extract_mk]; simp [pre]
theorem word_body (L : List UInt8) : (word ⟨L.toArray⟩).extract 10 (word ⟨L.toArray⟩).size = ⟨L.toArray⟩ := by
  rw [word_size, word_mk, ByteArray.extract_mk]
  have e : (pre ++ L).drop 10 = L := by simp [pre]
  rw [e, List.take_of_length_le (by omega)]

theorem gathers (L : List UInt8) (hd : ∀ c ∈ L, 48 ≤ c.toNat ∧ c.toNat ≤ 57) (hv : val L ≤ 18446744073709551615) : Gathers ⟨L.toArray⟩ (fun k => (val (L.take k) : Int)) := {
  start := by simp [val]
  step := fun k hk => by
    have hk' : k < L.length := by rwa [size_of_list] at hk
    have e : (⟨L.toArray⟩ : ByteArray)[k]'hk = L[k] := rfl
    have h1 := hd L[k] (List.getElem_mem hk')
    rw [e, List.take_succ_eq_append_getElem hk', val_snoc]
    omega
  lo := fun k => by omega
  hi := fun k _ => by have := val_take_le L k; omega
  digit := fun k hk => by
    have hk' : k < L.length := by rwa [size_of_list] at hk
    have e : (⟨L.toArray⟩ : ByteArray)[k]'hk = L[k] := rfl
    have h1 := hd L[k] (List.getElem_mem hk')
    rw [e]
    omega }

theorem parse_dec (u : Nat) (hu : 1 ≤ u) (hu64 : u < 18446744073709551616) (w : World) :
    Calls Tryd.prog 8 #[.string ⟨(decDigits u).toArray⟩] w fun e w' => e = .returned (.tuple #[.int .u64 (u : Int), .bool true]) ∧ w' = w := by
  have hl1 := dec_length_pos u
  have hl2 := dec_length_le u hu64
  obtain ⟨c, r, hcr, hc⟩ := dec_head u hu
  have hc0 : ∀ hh : 0 < (⟨(decDigits u).toArray⟩ : ByteArray).size, ((⟨(decDigits u).toArray⟩ : ByteArray)[0]'hh) = c := fun hh => by
    show (decDigits u)[0]'(by omega) = c
    simp [hcr]
  have key := parse_num ⟨(decDigits u).toArray⟩ _ (gathers (decDigits u) (dec_digit u) (by rw [val_dec]; omega)) w (by rw [size_of_list]; exact beq_eq_false_iff_ne.2 (by omega)) (by rw [size_of_list]; omega) (by rw [size_of_list]; omega)
    (fun hh => by rw [hc0 hh]; simp; omega)
  have hfin : (val ((decDigits u).take (⟨(decDigits u).toArray⟩ : ByteArray).size) : Int) = (u : Int) := by
    rw [size_of_list, List.take_length, val_dec]
  rwa [hfin] at key

set_option maxHeartbeats 400000 in
theorem law_other (n : Int) (s t : ByteArray) (w : World) (h0 : (n == 0) = false) (h1 : (n == 1) = false) (h2 : (n == 2) = false) (h5 : (n == 5) = false)
    (hs : Calls Tryd.prog 7 #[.int .u64 n] w fun e w' => e = .returned (.string s) ∧ Below w.heap.size w w')
    (hp : ∀ w', Calls Tryd.prog 8 #[.string t] w' fun e w2 => e = .returned (.tuple #[.int .u64 n, .bool true]) ∧ w2 = w')
    (h11 : 11 ≤ s.size) (h30 : s.size ≤ 30) (hE1 : s.extract 0 10 = { data := #[119, 105, 114, 101, 32, 116, 121, 112, 101, 32] }) (hE2 : s.extract 10 s.size = t) :
    Calls Tryd.prog 3 #[.int .u64 n] w fun e w' => e = .returned (.bool true) ∧ Below w.heap.size w w' := by
  have HS := Lib.hid hs
  have HP := Lib.hid hp
  clear hs hp
  go_enter Tryd.func3, Tryd.ntmps3
  go_wp2_with (first
    | (go_at_call 7; refine (HS.out).mono ?_; rintro e w1 ⟨rfl, hb⟩)
    | (go_at_call 8; refine (HP.out _).mono ?_; rintro e w2 ⟨rfl, rfl⟩))
  go_ret
  exact ⟨rfl, hb⟩

/-- FOR EVERY uint64. -/
theorem law_any (n : Int) (b0 : 0 ≤ n) (b1 : n ≤ 18446744073709551615) (w : World) (htab : TabIs Tryd.prog w powName .u64 pow10Tab) :
    Calls Tryd.prog 3 #[.int .u64 n] w fun e w' => e = .returned (.bool true) ∧ Below w.heap.size w w' := by
  rcases Decidable.em (n = 0) with rfl | h0
  · exact law_zero w
  rcases Decidable.em (n = 1) with rfl | h1
  · exact law_one w
  rcases Decidable.em (n = 2) with rfl | h2
  · exact law_two w
  rcases Decidable.em (n = 5) with rfl | h5
  · exact law_five w
  obtain ⟨u, hu⟩ : ∃ u : Nat, n = u := ⟨n.toNat, by omega⟩
  have hl1 := dec_length_pos u
  have hl2 := dec_length_le u (by omega)
  refine law_other n (word ⟨(decDigits u).toArray⟩) ⟨(decDigits u).toArray⟩ w (by simpa using h0) (by simpa using h1) (by simpa using h2) (by simpa using h5)
    (string_other n u hu (by omega) w htab (by simpa using h0) (by simpa using h1) (by simpa using h2) (by simpa using h5)) ?_
    (by rw [word_size]; omega) (by rw [word_size]; omega) (word_head _) (word_body _)
  intro w'
  rw [hu]
  exact parse_dec u (by omega) (by omega) w'

end Go.Proofs.Qxb6600469aDoor
