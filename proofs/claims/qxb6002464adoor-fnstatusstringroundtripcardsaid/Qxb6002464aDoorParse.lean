/-
  THE WALK of zzParseStatusWord: at the two words, and at the words of the third form, 'Status(' a row of digits ')' and 'Status(-' a row of digits ')'.
-/
import Derived.Test.Qxb6002464aDoorProg
import Derived.WalkKit
import Derived.WalkSpells
import Derived.WalkLawsBesides
namespace Go.Proofs.Qxb6002464aDoor
open Go.RowKit
set_option linter.unusedVariables false

set_option maxHeartbeats 400000 in
theorem parse_error (w : World) :
    Calls Tryd.prog 8 #[.string { data := #[101, 114, 114, 111, 114] }] w fun e w' => e = .returned (.tuple #[.int .i64 0, .bool true]) ∧ w' = w := by
  go_enter Tryd.func8, Tryd.ntmps8
  go_wp2
  go_ret2
  exact ⟨rfl, rfl⟩

set_option maxHeartbeats 400000 in
theorem parse_ok (w : World) :
    Calls Tryd.prog 8 #[.string { data := #[111, 107] }] w fun e w' => e = .returned (.tuple #[.int .i64 1, .bool true]) ∧ w' = w := by
  go_enter Tryd.func8, Tryd.ntmps8
  go_wp2
  go_ret2
  exact ⟨rfl, rfl⟩

/-- THE VALUE OF THE FIRST k DIGITS OF b, as the loop gathers it. -/
structure Gathers (b : ByteArray) (V : Nat → Int) : Prop where
  start : V 0 = 0
  step : ∀ k (hk : k < b.size), V (k + 1) = V k * 10 + (((b[k]'hk).toNat : Int) - 48)
  lo : ∀ k, 0 ≤ V k
  hi : ∀ k, k ≤ b.size → V k ≤ 9223372036854775808
  digit : ∀ k (hk : k < b.size), 48 ≤ ((b[k]'hk).toNat : Int) ∧ ((b[k]'hk).toNat : Int) ≤ 57

theorem ret_pair {k : IntKind} {a b : Int} {c : Bool} (h : a = b) : Ending.returned (.tuple #[.int k a, .bool c]) = .returned (.tuple #[.int k b, .bool c]) := by rw [h]

set_option maxHeartbeats 1000000 in
theorem parse_pos_long (s b : ByteArray) (V : Nat → Int) (hV : Gathers b V) (w : World) (hs : s.size ≤ 30) (h9 : 9 ≤ s.size)
   (h1 : (s.toList == [101, 114, 114, 111, 114]) = false) (h2 : (s.toList == [111, 107]) = false)
   (hE1 : s.extract 0 7 = { data := #[83, 116, 97, 116, 117, 115, 40] })
   (hx : ∀ hh, s[s.size - 1]'hh = 41)
   (hE2 : s.extract 7 (s.size - 1) = b) (hbe : ¬ b = ByteArray.empty) (hb0 : ((b.size : Int) == 0) = false) (hb1 : 1 ≤ b.size) (hb2 : b.size ≤ 20)
   (hd : ∀ hh : 0 < b.size, (((b[0]'hh).toNat : Int) == 45) = false)
   (hz : ∀ hh : 0 < b.size, (((b[0]'hh).toNat : Int) == 48) = false) (hb : 1 < b.size) :
    Calls Tryd.prog 8 #[.string s] w fun e w' => e = .returned (.tuple #[.int .i64 (wrap64 (V b.size)), .bool true]) ∧ w' = w := by
  have HV : Hid (Gathers b V) := hV
  clear hV
  go_enter Tryd.func8, Tryd.ntmps8
  go_wp2
  clear h1 h2 hE1 hx hE2 hd hz hbe hb0
  go_loop [6, 7] (fun t i => ∃ k : Nat, k ≤ b.size ∧ i = .int .i64 k ∧ t = .int .u64 (V k)) (fun _ i => b.size - (intOf i).toNat)
  case atStart => exact ⟨0, Nat.zero_le _, rfl, by rw [HV.out.start]⟩
  case round =>
    obtain ⟨k, hk, rfl, rfl⟩ := hrel
    by_cases hlt : k < b.size
    · have lo := HV.out.lo k
      obtain ⟨d1, d2⟩ := HV.out.digit k hlt
      have hi : V k * 10 + (((b[k]'hlt).toNat : Int) - 48) ≤ 9223372036854775808 := by rw [← HV.out.step k hlt]; exact HV.out.hi (k + 1) hlt
      go_wp2
      go_round
      case rel => exact ⟨k + 1, by omega, by go_num, by rw [HV.out.step k hlt]⟩
      case measure => simp [intOf]; omega
    · go_wp2
      go_ret2
      exact ⟨ret_pair (by rw [show k = b.size by omega]), rfl⟩

set_option maxHeartbeats 1000000 in
theorem parse_pos_one (s b : ByteArray) (V : Nat → Int) (hV : Gathers b V) (w : World) (hs : s.size ≤ 30) (h9 : 9 ≤ s.size)
   (h1 : (s.toList == [101, 114, 114, 111, 114]) = false) (h2 : (s.toList == [111, 107]) = false)
   (hE1 : s.extract 0 7 = { data := #[83, 116, 97, 116, 117, 115, 40] })
   (hx : ∀ hh, s[s.size - 1]'hh = 41)
   (hE2 : s.extract 7 (s.size - 1) = b) (hbe : ¬ b = ByteArray.empty) (hb0 : ((b.size : Int) == 0) = false) (hb1 : 1 ≤ b.size) (hb2 : b.size ≤ 20)
   (hd : ∀ hh : 0 < b.size, (((b[0]'hh).toNat : Int) == 45) = false)
   (hz : ∀ hh : 0 < b.size, (((b[0]'hh).toNat : Int) == 48) = false) (hb : b.size ≤ 1) :
    Calls Tryd.prog 8 #[.string s] w fun e w' => e = .returned (.tuple #[.int .i64 (wrap64 (V b.size)), .bool true]) ∧ w' = w := by
  have HV : Hid (Gathers b V) := hV
  clear hV
  go_enter Tryd.func8, Tryd.ntmps8
  go_wp2
  clear h1 h2 hE1 hx hE2 hd hz hbe hb0
  go_loop [6, 7] (fun t i => ∃ k : Nat, k ≤ b.size ∧ i = .int .i64 k ∧ t = .int .u64 (V k)) (fun _ i => b.size - (intOf i).toNat)
  case atStart => exact ⟨0, Nat.zero_le _, rfl, by rw [HV.out.start]⟩
  case round =>
    obtain ⟨k, hk, rfl, rfl⟩ := hrel
    by_cases hlt : k < b.size
    · have lo := HV.out.lo k
      obtain ⟨d1, d2⟩ := HV.out.digit k hlt
      have hi : V k * 10 + (((b[k]'hlt).toNat : Int) - 48) ≤ 9223372036854775808 := by rw [← HV.out.step k hlt]; exact HV.out.hi (k + 1) hlt
      go_wp2
      go_round
      case rel => exact ⟨k + 1, by omega, by go_num, by rw [HV.out.step k hlt]⟩
      case measure => simp [intOf]; omega
    · go_wp2
      go_ret2
      exact ⟨ret_pair (by rw [show k = b.size by omega]), rfl⟩

set_option maxHeartbeats 1000000 in
theorem parse_neg_long (s b c : ByteArray) (V : Nat → Int) (hV : Gathers c V) (w : World) (hs : s.size ≤ 30) (h9 : 9 ≤ s.size)
   (h1 : (s.toList == [101, 114, 114, 111, 114]) = false) (h2 : (s.toList == [111, 107]) = false)
   (hE1 : s.extract 0 7 = { data := #[83, 116, 97, 116, 117, 115, 40] })
   (hx : ∀ hh, s[s.size - 1]'hh = 41)
   (hE2 : s.extract 7 (s.size - 1) = b) (hbe : ¬ b = ByteArray.empty) (hb0 : ((b.size : Int) == 0) = false) (hb1 : 1 ≤ b.size)
   (hd : ∀ hh : 0 < b.size, (((b[0]'hh).toNat : Int) == 45) = true)
   (hE3 : b.extract 1 b.size = c) (hce : ¬ c = ByteArray.empty) (hc0 : ((c.size : Int) == 0) = false) (hc2 : c.size ≤ 20)
   (hz : ∀ hh : 0 < c.size, (((c[0]'hh).toNat : Int) == 48) = false)
   (hz2 : (c.toList == [48]) = false) (hb : 1 < c.size) :
    Calls Tryd.prog 8 #[.string s] w fun e w' => e = .returned (.tuple #[.int .i64 (wrap64 (-(wrap64 (V c.size)))), .bool true]) ∧ w' = w := by
  have HV : Hid (Gathers c V) := hV
  clear hV
  go_enter Tryd.func8, Tryd.ntmps8
  go_wp2
  clear h1 h2 hE1 hx hE2 hd hz hbe hb0 hb1 hE3 hce hc0 hz2
  go_loop [6, 7] (fun t i => ∃ k : Nat, k ≤ c.size ∧ i = .int .i64 k ∧ t = .int .u64 (V k)) (fun _ i => c.size - (intOf i).toNat)
  case atStart => exact ⟨0, Nat.zero_le _, rfl, by rw [HV.out.start]⟩
  case round =>
    obtain ⟨k, hk, rfl, rfl⟩ := hrel
    by_cases hlt : k < c.size
    · have lo := HV.out.lo k
      obtain ⟨d1, d2⟩ := HV.out.digit k hlt
      have hi : V k * 10 + (((c[k]'hlt).toNat : Int) - 48) ≤ 9223372036854775808 := by rw [← HV.out.step k hlt]; exact HV.out.hi (k + 1) hlt
      go_wp2
      go_round
      case rel => exact ⟨k + 1, by omega, by go_num, by rw [HV.out.step k hlt]⟩
      case measure => simp [intOf]; omega
    · go_wp2
      go_ret2
      exact ⟨ret_pair (by rw [show k = c.size by omega]), rfl⟩

set_option maxHeartbeats 1000000 in
theorem parse_neg_one (s b c : ByteArray) (V : Nat → Int) (hV : Gathers c V) (w : World) (hs : s.size ≤ 30) (h9 : 9 ≤ s.size)
   (h1 : (s.toList == [101, 114, 114, 111, 114]) = false) (h2 : (s.toList == [111, 107]) = false)
   (hE1 : s.extract 0 7 = { data := #[83, 116, 97, 116, 117, 115, 40] })
   (hx : ∀ hh, s[s.size - 1]'hh = 41)
   (hE2 : s.extract 7 (s.size - 1) = b) (hbe : ¬ b = ByteArray.empty) (hb0 : ((b.size : Int) == 0) = false) (hb1 : 1 ≤ b.size)
   (hd : ∀ hh : 0 < b.size, (((b[0]'hh).toNat : Int) == 45) = true)
   (hE3 : b.extract 1 b.size = c) (hce : ¬ c = ByteArray.empty) (hc0 : ((c.size : Int) == 0) = false) (hc2 : c.size ≤ 20)
   (hz : ∀ hh : 0 < c.size, (((c[0]'hh).toNat : Int) == 48) = false)
   (hz2 : (c.toList == [48]) = false) (hb : c.size ≤ 1) :
    Calls Tryd.prog 8 #[.string s] w fun e w' => e = .returned (.tuple #[.int .i64 (wrap64 (-(wrap64 (V c.size)))), .bool true]) ∧ w' = w := by
  have HV : Hid (Gathers c V) := hV
  clear hV
  go_enter Tryd.func8, Tryd.ntmps8
  go_wp2
  clear h1 h2 hE1 hx hE2 hd hz hbe hb0 hb1 hE3 hce hc0 hz2
  go_loop [6, 7] (fun t i => ∃ k : Nat, k ≤ c.size ∧ i = .int .i64 k ∧ t = .int .u64 (V k)) (fun _ i => c.size - (intOf i).toNat)
  case atStart => exact ⟨0, Nat.zero_le _, rfl, by rw [HV.out.start]⟩
  case round =>
    obtain ⟨k, hk, rfl, rfl⟩ := hrel
    by_cases hlt : k < c.size
    · have lo := HV.out.lo k
      obtain ⟨d1, d2⟩ := HV.out.digit k hlt
      have hi : V k * 10 + (((c[k]'hlt).toNat : Int) - 48) ≤ 9223372036854775808 := by rw [← HV.out.step k hlt]; exact HV.out.hi (k + 1) hlt
      go_wp2
      go_round
      case rel => exact ⟨k + 1, by omega, by go_num, by rw [HV.out.step k hlt]⟩
      case measure => simp [intOf]; omega
    · go_wp2
      go_ret2
      exact ⟨ret_pair (by rw [show k = c.size by omega]), rfl⟩

end Go.Proofs.Qxb6002464aDoor
