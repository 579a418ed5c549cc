/-
  THE WALK of zzTakeClone: nil stays nil; else a new row that holds the same numbers.
-/
import Derived.Test.Qxb6600607aProg
import Derived.WalkKit
import Derived.WalkSpells
import Derived.WalkLawsBesides
import Derived.Deep.OwnRows
namespace Go.Proofs.Qxb6600607a
open Go.RowKit
set_option linter.unusedVariables false

theorem Try.info2 : (Try.prog.info? 2).map (fun i => (i.zero, i.size, i.bytes)) = some (some (.int .i64 0), 1, 8) := by kernel_rfl

set_option maxHeartbeats 400000 in
theorem clone_nil (w : World) : Calls Try.prog 9 #[.slice none 0 0] w fun e w' => e = .returned (.slice none 0 0) ∧ w' = w := by
  have hn := fun w' a n c => Lib.run_eql_slice_nil (P := Try.prog) w' 22 2 a n c 0 0 Try.underlying22
  go_enter Try.func9, Try.ntmps9
  go_wp2
  go_ret
  exact ⟨rfl, rfl⟩

set_option maxHeartbeats 400000 in
theorem clone_empty (x : Addr) (cap : Nat) (w : World) : Calls Try.prog 9 #[.slice (some x) 0 cap] w fun e w' => e = .returned (.slice (some ⟨w.heap.size, 0, none⟩) 0 0) ∧ Below w.heap.size w w' ∧ w'.heap.size = w.heap.size + 1 := by
  have hn := fun w' a n c => Lib.run_eql_slice_nil (P := Try.prog) w' 22 2 a n c 0 0 Try.underlying22
  have hmk : ∀ w' : World, (Instr.makeSlice 22 (.int .i64 0) (.int .i64 0)).run Try.prog w' = .ok (.slice (some ⟨w'.heap.size, 0, none⟩) 0 0) (w'.alloc (.cells (madeCells #[.int .i64 0] 0) 2)) :=
    run_make_row' (P := Try.prog) 22 2 (.int .i64 0) 8 Try.underlying22 Try.info2 rfl .i64 .i64 0 (by omega) (by omega)
  go_enter Try.func9, Try.ntmps9
  go_wp2
  refine wp_loop_rounds 1 ?_
  rw [rounds_succ]
  go_wp2
  go_ret
  exact ⟨rfl, (Below.refl _ _).alloc (Nat.le_refl _) _, by simp⟩

/-- What the new row holds behind k rounds. -/
def filled (zs : List Int) (k : Nat) : Nat → Value := fun j => if j < k then .int .i64 (zs.getD j 0) else .int .i64 0

theorem filled_step {wr : World} {B n k : Nat} {zs : List Int} (h : wr.rowIs B 2 n (filled zs k)) : (wr.setCell ⟨B, k, none⟩ (.int .i64 (zs.getD k 0))).rowIs B 2 n (filled zs (k + 1)) := by
  refine (h.set k _).congr fun j _ => ?_
  simp only [filled]
  by_cases e : j = k
  · subst e; simp
  · rw [if_neg e]
    by_cases hlt : j < k
    · rw [if_pos hlt, if_pos (by omega)]
    · rw [if_neg hlt, if_neg (by omega)]

set_option maxHeartbeats 400000 in
theorem clone_row (b off len cap : Nat) (zs : List Int) (w : World) (hlen : len ≤ 1048576) (hz : len ≤ zs.length) (hb : b < w.heap.size)
    (hc : ∀ j, j < zs.length → w.cell? ⟨b, off + j, none⟩ = some (.int .i64 (zs.getD j 0))) :
    Calls Try.prog 9 #[.slice (some ⟨b, off, none⟩) len cap] w fun e w' => e = .returned (.slice (some ⟨w.heap.size, 0, none⟩) len len) ∧ w'.rowIs w.heap.size 2 len (filled zs len) ∧ Below w.heap.size w w' ∧ w'.heap.size = w.heap.size + 1 := by
  have hn := fun w' a n c => Lib.run_eql_slice_nil (P := Try.prog) w' 22 2 a n c 0 0 Try.underlying22
  have hmk := run_make_row' (P := Try.prog) 22 2 (.int .i64 0) 8 Try.underlying22 Try.info2 rfl .i64 .i64 len (by omega) (by omega)
  have HC : ∀ j, j < zs.length → Hid (w.cell? ⟨b, off + j, none⟩ = some (.int .i64 (zs.getD j 0))) := hc
  clear hc
  go_enter Try.func9, Try.ntmps9
  go_wp2
  go_loopw [4] (fun i wr => ∃ k : Nat, k ≤ len ∧ i = .int .i64 k ∧ wr.rowIs w.heap.size 2 len (filled zs k) ∧ Below w.heap.size w wr ∧ wr.heap.size = w.heap.size + 1) (fun i _ => len - (intOf i).toNat)
  case atStart => exact ⟨0, Nat.zero_le _, rfl, (World.rowIs_made w _ len 2).congr (fun j _ => by simp [filled]), (Below.refl _ _).alloc (Nat.le_refl _) _, by simp⟩
  case round =>
    obtain ⟨k, hk, rfl, hrow, hnx, hsz⟩ := hrel
    by_cases hlt : k < len
    · have hcx : wr.cell? ⟨b, off + k, none⟩ = some (.int .i64 (zs.getD k 0)) := (hnx.cell (p := ⟨b, off + k, none⟩) hb).trans (HC k (by omega)).out
      have hcn := hrow.cell hlt
      have hfz := hrow.frozen k
      go_wp2
      go_roundw
      case rel => exact ⟨k + 1, by omega, by go_num, filled_step hrow, hnx.setCell (Nat.le_refl _) _, by simp [hsz]⟩
      case measure => simp [intOf]; omega
    · go_wp2
      go_ret
      have : k = len := by omega
      subst this
      exact ⟨rfl, hrow, hnx, hsz⟩

end Go.Proofs.Qxb6600607a
