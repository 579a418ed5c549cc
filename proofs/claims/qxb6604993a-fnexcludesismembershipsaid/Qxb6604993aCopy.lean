/-
  THE WALKS of the small functions: the bound on total length, the copy of the keys, the linear search, the look-up.
-/
import Derived.Test.Qxb6604993aProg
import Derived.WalkKit
import Derived.WalkSpells
import Derived.WalkLawsBesides
import Derived.Deep.OwnRows
import Derived.Maps.OwnSet
import Derived.Lib.Hide
namespace Go.Proofs.Qxb6604993a
open Go.RowKit Go.Maps Go.WideMaps
set_option linter.unusedVariables false

theorem Try.info9 : (Try.prog.info? 9).map (fun i => (i.zero, i.size, i.bytes)) = some (some (.string ⟨#[]⟩), 1, 16) := by kernel_rfl

/-- The string at a place of the row. -/
def strAt (ss : List ByteArray) (j : Nat) : ByteArray := ss.getD j ByteArray.empty

/-! ### the copy -/

set_option maxHeartbeats 400000 in
theorem copy_nil (w : World) : Calls Try.prog 5 #[.slice none 0 0] w fun e w' => e = .returned (.slice none 0 0) ∧ w' = w := by
  have hn := fun w' a n c => Lib.run_eql_slice_nil (P := Try.prog) w' 22 9 a n c 0 0 Try.underlying22
  go_enter Try.func5, Try.ntmps5
  go_wp2
  go_ret
  exact ⟨rfl, rfl⟩

set_option maxHeartbeats 400000 in
theorem copy_empty (x : Addr) (cap : Nat) (w : World) : Calls Try.prog 5 #[.slice (some x) 0 cap] w fun e w' => e = .returned (.slice (some ⟨w.heap.size, 0, none⟩) 0 0) ∧ Below w.heap.size w w' := by
  have hn := fun w' a n c => Lib.run_eql_slice_nil (P := Try.prog) w' 22 9 a n c 0 0 Try.underlying22
  have hmk : ∀ w' : World, (Instr.makeSlice 22 (.int .i64 0) (.int .i64 0)).run Try.prog w' = .ok (.slice (some ⟨w'.heap.size, 0, none⟩) 0 0) (w'.alloc (.cells (madeCells #[.string ⟨#[]⟩] 0) 9)) :=
    run_make_row' (P := Try.prog) 22 9 (.string ⟨#[]⟩) 16 Try.underlying22 Try.info9 rfl .i64 .i64 0 (by omega) (by omega)
  go_enter Try.func5, Try.ntmps5
  go_wp2
  refine wp_loop_rounds 1 ?_
  rw [rounds_succ]
  go_wp2
  go_ret
  exact ⟨rfl, (Below.refl _ _).alloc (Nat.le_refl _) _⟩

/-- What the new row holds behind k rounds. -/
def filled (ss : List ByteArray) (k : Nat) : Nat → Value := fun j => if j < k then .string (strAt ss j) else .string ⟨#[]⟩

theorem filled_step {wr : World} {B n k : Nat} {ss : List ByteArray} (h : wr.rowIs B 9 n (filled ss k)) : (wr.setCell ⟨B, k, none⟩ (.string (strAt ss k))).rowIs B 9 n (filled ss (k + 1)) := by
  refine (h.set k _).congr fun j _ => ?_
  simp only [filled]
  by_cases e : j = k
  · subst e; simp
  · rw [if_neg e]
    by_cases hlt : j < k
    · rw [if_pos hlt, if_pos (by omega)]
    · rw [if_neg hlt, if_neg (by omega)]

set_option maxHeartbeats 400000 in
theorem copy_row (b off len cap : Nat) (ss : List ByteArray) (w : World) (hlen : len ≤ 65536) (hb : b < w.heap.size)
    (hc : ∀ j, j < len → w.cell? ⟨b, off + j, none⟩ = some (.string (strAt ss j))) :
    Calls Try.prog 5 #[.slice (some ⟨b, off, none⟩) len cap] w fun e w' => e = .returned (.slice (some ⟨w.heap.size, 0, none⟩) len len) ∧ w'.rowIs w.heap.size 9 len (filled ss len) ∧ Below w.heap.size w w' := by
  have hn := fun w' a n c => Lib.run_eql_slice_nil (P := Try.prog) w' 22 9 a n c 0 0 Try.underlying22
  have hmk := run_make_row' (P := Try.prog) 22 9 (.string ⟨#[]⟩) 16 Try.underlying22 Try.info9 rfl .i64 .i64 len (by omega) (by omega)
  have HC : ∀ j, j < len → Hid (w.cell? ⟨b, off + j, none⟩ = some (.string (strAt ss j))) := hc
  clear hc
  go_enter Try.func5, Try.ntmps5
  go_wp2
  go_loopw [4] (fun i wr => ∃ k : Nat, k ≤ len ∧ i = .int .i64 k ∧ wr.rowIs w.heap.size 9 len (filled ss k) ∧ Below w.heap.size w wr) (fun i _ => len - (intOf i).toNat)
  case atStart => exact ⟨0, Nat.zero_le _, rfl, (World.rowIs_made w _ len 9).congr (fun j _ => by simp [filled]), (Below.refl _ _).alloc (Nat.le_refl _) _⟩
  case round =>
    obtain ⟨k, hk, rfl, hrow, hnx⟩ := hrel
    by_cases hlt : k < len
    · have hcx : wr.cell? ⟨b, off + k, none⟩ = some (.string (strAt ss k)) := (hnx.cell (p := ⟨b, off + k, none⟩) hb).trans (HC k (by omega)).out
      have hcn : wr.cell? ⟨w.heap.size, k, none⟩ = some (.string ⟨#[]⟩) := by have h := hrow.cell hlt; simpa [filled] using h
      have hfz := hrow.frozen k
      go_wp2
      go_roundw
      case rel => exact ⟨k + 1, by omega, by go_num, filled_step hrow, hnx.setCell (Nat.le_refl _) _⟩
      case measure => simp [intOf]; omega
    · go_wp2
      go_ret
      have : k = len := by omega
      subst this
      exact ⟨rfl, hrow, hnx⟩

/-! ### the linear search -/

/-- Is q one of the first n strings? -/
def inB (ss : List ByteArray) (q : ByteArray) (n : Nat) : Bool := (List.range n).any fun j => (strAt ss j).toList == q.toList

theorem inB_zero (ss : List ByteArray) (q : ByteArray) : inB ss q 0 = false := rfl
theorem inB_succ (ss : List ByteArray) (q : ByteArray) (k : Nat) : inB ss q (k + 1) = (inB ss q k || ((strAt ss k).toList == q.toList)) := by
  unfold inB
  rw [List.range_succ, List.any_append]
  simp
theorem inB_of (ss : List ByteArray) (q : ByteArray) (k n : Nat) (hk : k < n) (h : ((strAt ss k).toList == q.toList) = true) : inB ss q n = true := by
  unfold inB
  rw [List.any_eq_true]
  exact ⟨k, List.mem_range.2 hk, h⟩

theorem ret_bool {a b : Bool} (h : a = b) : Ending.returned (.bool a) = .returned (.bool b) := by rw [h]

set_option maxHeartbeats 400000 in
theorem in_empty (a : Option Addr) (cap : Nat) (q : ByteArray) (w : World) : Calls Try.prog 7 #[.slice a 0 cap, .string q] w fun e w' => e = .returned (.bool false) ∧ w' = w := by
  go_enter Try.func7, Try.ntmps7
  go_wp2
  refine wp_loop_rounds 1 ?_
  rw [rounds_succ]
  go_wp2
  go_ret
  exact ⟨rfl, rfl⟩

set_option maxHeartbeats 400000 in
theorem in_row (b len cap : Nat) (ss : List ByteArray) (q : ByteArray) (w : World) (hlen : len ≤ 65536)
    (hc : ∀ j, j < len → w.cell? ⟨b, j, none⟩ = some (.string (strAt ss j))) :
    Calls Try.prog 7 #[.slice (some ⟨b, 0, none⟩) len cap, .string q] w fun e w' => e = .returned (.bool (inB ss q len)) ∧ w' = w := by
  have HC : ∀ j, j < len → Hid (w.cell? ⟨b, j, none⟩ = some (.string (strAt ss j))) := hc
  clear hc
  go_enter Try.func7, Try.ntmps7
  go_wp2
  go_loop [5] (fun i => ∃ k : Nat, k ≤ len ∧ i = .int .i64 k ∧ Hid (inB ss q k = false)) (fun i => len - (intOf i).toNat)
  case atStart => exact ⟨0, Nat.zero_le _, rfl, inB_zero ss q⟩
  case round =>
    obtain ⟨k, hk, rfl, hno⟩ := hrel
    by_cases hlt : k < len
    · have hcx := (HC k hlt).out
      cases hq : ((strAt ss k).toList == q.toList)
      · go_wp2
        go_round
        case rel => exact ⟨k + 1, by omega, by go_num, by unfold Hid; rw [inB_succ, hno.out, hq]; rfl⟩
        case measure => simp [intOf]; omega
      · go_wp2
        go_ret
        exact ⟨ret_bool (inB_of ss q k len hlt hq).symm, rfl⟩
    · have hkl : k = len := by omega
      go_wp2
      go_ret
      exact ⟨ret_bool (by rw [← hkl]; exact hno.out.symm), rfl⟩

/-! ### the look-up -/

theorem law9 : Keyed Try.prog 9 := string_keyed Try.underlying9
theorem zero27 (w : World) : (zeroValue 27).run Try.prog w = .ok (.agg #[]) w := by kernel_rfl

set_option maxHeartbeats 400000 in
theorem excl_own (b n : Nat) (D : DataW Unit) (q : ByteArray) (w : World) (hown : w.ownsMap Try.prog 9 unitElem b n D) (hq : q.size ≤ maxLen) :
    Calls Try.prog 6 #[.map (some b), .string q] w fun e w' => e = .returned (.bool (Maps.has D (.string q.data.toList))) ∧ ∃ o, w' = w.alloc o := by
  have hkey : keyOf Try.prog 9 (.string q) = some (.string q.data.toList) := keyOf_string_mk Try.underlying9 hq
  go_enter Try.func6, Try.ntmps6
  go_wp2_with (at_lookup; refine wpList_lookup_own_unit _ rfl _ _ 26 rfl 9 27 law9 Try.underlying26 (zero27 _) b n D rfl hown _ _ rfl hkey ?_)
  go_ret
  exact ⟨rfl, _, rfl⟩

set_option maxHeartbeats 400000 in
theorem excl_nil (q : ByteArray) (w : World) (hq : q.size ≤ maxLen) :
    Calls Try.prog 6 #[.map none, .string q] w fun e w' => e = .returned (.bool false) ∧ ∃ o, w' = w.alloc o := by
  have hkey : keyOf Try.prog 9 (.string q) = some (.string q.data.toList) := keyOf_string_mk Try.underlying9 hq
  have hl := Maps.look_nil (w := w) true law9 Try.underlying26 (zero27 w) hkey
  clear hkey
  go_enter Try.func6, Try.ntmps6
  go_wp2
  go_ret
  exact ⟨rfl, _, rfl⟩

end Go.Proofs.Qxb6604993a
