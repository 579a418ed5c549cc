/-
  THE WALK of the law FnExcludesIsMembership where there is a key.
-/
import Derived.Test.Qxb6604993aLaw
namespace Go.Proofs.Qxb6604993a
open Go.RowKit Go.Maps Go.WideMaps
set_option linter.unusedVariables false

set_option maxHeartbeats 1600000 in
theorem law_row (b off len cap : Nat) (ss : List ByteArray) (q : ByteArray) (w : World) (hlen : len ≤ 65536) (hpos : 0 < len) (hq : q.size ≤ 1048576)
    (hc : ∀ j, j < len → w.cell? ⟨b, off + j, none⟩ = some (.string (strAt ss j))) (hm : ∀ j, (strAt ss j).size ≤ maxLen) :
    Calls Try.prog 3 #[.slice (some ⟨b, off, none⟩) len cap, .string q] w fun e w' => e = .returned (.bool true) ∧ Below w.heap.size w w' := by
  have hbw : b < w.heap.size := World.block_lt_of_cell? w _ (hc 0 hpos)
  have HB := Lib.hid (bytes_row b off len cap ss q w (by omega) (by omega) hc (fun j => by have := hm j; unfold maxLen at this; exact this))
  have HCP := Lib.hid (copy_row b off len cap ss w hlen hbw hc)
  have HE := Lib.hid (fun w' => excl_nil q w' (by unfold maxLen; omega))
  have HC : ∀ j, j < len → Hid (w.cell? ⟨b, off + j, none⟩ = some (.string (strAt ss j))) := hc
  have HM := Lib.hid hm
  have hmm := make_hint
  clear hc hm
  go_enter Try.func3, Try.ntmps3
  go_wp2_with fail
  refine HB.out.mono ?_
  rintro e w1 ⟨⟨r, rfl, hr⟩, rfl⟩
  cases r
  · go_wp2
    go_ret
    exact ⟨rfl, Below.refl _ _⟩
  · have HS := Lib.hid (hr rfl)
    clear hr
    go_wp2
    go_loop [5, 6] (fun t i => ∃ k : Nat, k ≤ len ∧ i = .int .i64 k ∧ ∃ m : Int, t = .int .i64 m ∧ 0 ≤ m ∧ m ≤ 1048576) (fun _ i => len - (intOf i).toNat)
    case atStart => exact ⟨0, Nat.zero_le _, rfl, _, rfl, by omega, by omega⟩
    case round =>
      obtain ⟨k, hk, rfl, m, rfl, m0, m1⟩ := hrel
      by_cases hlt : k < len
      · obtain ⟨s, hs⟩ : ∃ s, s = strAt ss k := ⟨_, rfl⟩
        have hcx : w1.cell? ⟨b, off + k, none⟩ = some (.string s) := by rw [hs]; exact (HC k hlt).out
        have hms : s.size ≤ 1048576 := by rw [hs]; exact HS.out k hlt
        clear hs
        rcases Int.lt_or_le 1048576 (m + (16 + s.size)) with h2 | h2
        · go_wp2
          go_ret
          exact ⟨rfl, Below.refl _ _⟩
        · go_wp2
          go_round
          case rel => exact ⟨k + 1, by omega, by go_num, _, rfl, by omega, h2⟩
          case measure => simp [intOf]; omega
      · go_wp2_with fail
        refine HCP.out.mono ?_
        rintro e w2 ⟨rfl, hrow, hb⟩
        have HR := Lib.hid hrow
        clear hrow
        go_wp2
        go_loopw [8] (fun i wr => ∃ k : Nat, k ≤ len ∧ i = .int .i64 k ∧ wr.ownsMap Try.prog 9 unitElem w2.heap.size k (Sn ss k) ∧ Below w2.heap.size w2 wr) (fun i _ => len - (intOf i).toNat)
        case atStart => exact ⟨0, Nat.zero_le _, rfl, by rw [Sn_zero]; exact World.ownsMap_made _ _ _ _, (Below.refl _ _).alloc (Nat.le_refl _) _⟩
        case round =>
          obtain ⟨k2, hk2, rfl, hown, hnx⟩ := hrel
          have hcells : Hid (∀ j, j < len → wr.cell? ⟨w1.heap.size, j, none⟩ = some (.string (strAt ss j))) := fun j hj => by
            rw [hnx.cell (p := ⟨w1.heap.size, j, none⟩) HR.out.lt, HR.out.cell hj]
            simp [filled, hj]
          by_cases hlt2 : k2 < len
          · have hcx := hcells.out k2 hlt2
            have hkey := key_ok HM.out k2
            go_wp2_with (at_mapUpdate; refine wpList_mapUpdate_own _ rfl _ _ _ 26 rfl 9 27 law9 Try.underlying26 (unitElem (H := Unit)) w2.heap.size k2 _ rfl hown (by unfold maxLen; omega) _ _ _ rfl rfl hkey _ [] unitElem_mk ?_; intro w3 hown1 hgrow1)
            go_roundw
            case rel => exact ⟨k2 + 1, by omega, by go_num, (Sn_succ ss k2).symm ▸ hown1, hnx.grown hgrow1 hnx.size (fun j hj => by cases hj; exact Nat.le_refl _)⟩
            case measure => simp [intOf]; omega
          · have hkl : k2 = len := by omega
            have hex := excl_own w2.heap.size k2 (Sn ss k2) q wr hown (by unfold maxLen; omega)
            rw [has_Sn, hkl] at hex
            have HX := Lib.hid hex
            clear hex hown hkl
            go_wp2_with fail
            refine HX.out.mono ?_
            rintro e w3 ⟨rfl, o, rfl⟩
            go_wp2_with fail
            refine (in_row w1.heap.size len len ss q _ hlen (fun j hj => Lib.cell?_alloc_some o (hcells.out j hj))).mono ?_
            rintro e w4 ⟨rfl, rfl⟩
            go_wp2_with fail
            refine (HE.out _).mono ?_
            rintro e w5 ⟨rfl, o2, rfl⟩
            go_wp2
            go_ret
            have hb2 : Below w1.heap.size w1 wr := hb.trans (hnx.mono hb.size)
            exact ⟨rfl, (hb2.alloc hb2.size _).alloc (by have := hb2.size; simp; omega) _⟩

end Go.Proofs.Qxb6604993a
