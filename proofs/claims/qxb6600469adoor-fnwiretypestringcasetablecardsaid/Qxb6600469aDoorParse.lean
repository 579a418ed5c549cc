/-
  THE WALK of zzParseCanonicalDecimal at a canonical numeral.
-/
import Derived.Test.Qxb6600469aDoorProg
import Derived.WalkKit
import Derived.WalkSpells
import Derived.WalkLawsBesides
namespace Go.Proofs.Qxb6600469aDoor
open Go.RowKit
set_option linter.unusedVariables false

/-- THE VALUE OF THE FIRST k DIGITS OF b, as the loop gathers it. -/
structure Gathers (b : ByteArray) (V : Nat → Int) : Prop where
  start : V 0 = 0
  step : ∀ k (hk : k < b.size), V (k + 1) = V k * 10 + (((b[k]'hk).toNat : Int) - 48)
  lo : ∀ k, 0 ≤ V k
  hi : ∀ k, k ≤ b.size → V k ≤ 18446744073709551615
  digit : ∀ k (hk : k < b.size), 48 ≤ ((b[k]'hk).toNat : Int) ∧ ((b[k]'hk).toNat : Int) ≤ 57

theorem ret_pair {k : IntKind} {a b : Int} {c : Bool} (h : a = b) : Ending.returned (.tuple #[.int k a, .bool c]) = .returned (.tuple #[.int k b, .bool c]) := by rw [h]

set_option maxHeartbeats 1000000 in
theorem parse_num (b : ByteArray) (V : Nat → Int) (hV : Gathers b V) (w : World) (hb0 : ((b.size : Int) == 0) = false) (hb1 : 1 ≤ b.size) (hb2 : b.size ≤ 20)
   (hz : ∀ hh : 0 < b.size, (((b[0]'hh).toNat : Int) == 48) = false) :
    Calls Tryd.prog 8 #[.string b] w fun e w' => e = .returned (.tuple #[.int .u64 (V b.size), .bool true]) ∧ w' = w := by
  have HV : Hid (Gathers b V) := hV
  clear hV
  go_enter Tryd.func8, Tryd.ntmps8
  go_wp2
  clear hz hb0
  go_loop [4, 5] (fun t i => ∃ k : Nat, k ≤ b.size ∧ i = .int .i64 k ∧ t = .int .u64 (V k)) (fun _ i => b.size - (intOf i).toNat)
  case atStart => exact ⟨0, Nat.zero_le _, rfl, by rw [HV.out.start]⟩
  case round =>
    obtain ⟨k, hk, rfl, rfl⟩ := hrel
    by_cases hlt : k < b.size
    · have lo := HV.out.lo k
      obtain ⟨d1, d2⟩ := HV.out.digit k hlt
      have hi : V k * 10 + (((b[k]'hlt).toNat : Int) - 48) ≤ 18446744073709551615 := by rw [← HV.out.step k hlt]; exact HV.out.hi (k + 1) hlt
      have hv : V k ≤ 1844674407370955161 := by omega
      rcases Decidable.em (V k = 1844674407370955161) with hq | hq
      · have hx : ((b[k]'hlt).toNat : Int) - 48 ≤ 5 := by omega
        have hq' : (V k == 1844674407370955161) = true := by simpa using hq
        clear hq
        go_wp2
        go_round
        case rel => exact ⟨k + 1, by omega, by go_num, by rw [HV.out.step k hlt]⟩
        case measure => simp [intOf]; omega
      · have hq' : (V k == 1844674407370955161) = false := by simpa using hq
        clear hq
        go_wp2
        go_round
        case rel => exact ⟨k + 1, by omega, by go_num, by rw [HV.out.step k hlt]⟩
        case measure => simp [intOf]; omega
    · go_wp2
      go_ret2
      exact ⟨ret_pair (by rw [show k = b.size by omega]), rfl⟩

end Go.Proofs.Qxb6600469aDoor
