/-
  THE LAW where a list of values is given; and where the capacity is not named.
-/
import Derived.Test.Qxb6600607aCases
namespace Go.Proofs.Qxb6600607a
open Go.RowKit
set_option linter.unusedVariables false

/-- The cells of the clone. -/
def Row (B len : Nat) (ys : List Int) : World → Prop := fun W => ∀ j, j < len → W.cell? ⟨B, j, none⟩ = some (.int .i64 (ys.getD j 0))
theorem row_stays (B len : Nat) (ys : List Int) : ∀ W W' : World, Row B len ys W → Below W.heap.size W W' → Row B len ys W' := fun W W' h hb j hj =>
  (hb.cell (p := ⟨B, j, none⟩) (World.block_lt_of_cell? W _ (h j hj))).trans (h j hj)

theorem values_all (value deft : Int) (x : Addr) (len cap : Nat) (hlen : len ≤ 131072) (ys : List Int) (hy : ys.length = len) (hp : ys.Pairwise (· ≤ ·)) (ranged : Bool) (minV step : Int) (capped : Bool) (maxV asked : Int) (w : World)
    (hcl : ∀ n0, Calls Try.prog 9 #[.slice (some x) len cap] (w.drewN n0) fun e w1 => e = .returned (.slice (some ⟨w.heap.size, 0, none⟩) len len) ∧ Below w.heap.size w w1 ∧ Row w.heap.size len ys w1)
    (hso : Calls Try.prog 7 #[.slice (some x) len cap] w fun e w1 => e = .returned (.bool true) ∧ ∃ n, w1 = w.drewN n) :
    Calls Try.prog 3 #[.int .i64 value, .int .i64 deft, .slice (some x) len cap, .bool ranged, .int .i64 minV, .int .i64 step, .bool capped, .int .i64 maxV, .int .i64 asked, .bool true] w fun e w' => e = .returned (.bool true) ∧ Below w.heap.size w w' := by
  obtain ⟨hlow, hnext⟩ := count_front asked ys hp
  have hle := count_le asked ys
  have hsearch : ∀ W, Row w.heap.size len ys W → Calls Try.prog 16 #[.slice (some ⟨w.heap.size, 0, none⟩) len len, .int .i64 asked] W fun e w' => e = .returned (.tuple #[.int .i64 (ys.countP (· < asked) : Nat), .bool (ys.contains asked)]) ∧ ∃ q, w' = W.drewN q := fun W hW => by
    have h := search_any w.heap.size 0 len len ys asked W (by omega) (by omega) (fun j hj => by rw [Nat.zero_add]; exact hW j (by omega)) (by rw [List.take_of_length_le (by omega)]; exact hp)
    rwa [List.take_of_length_le (show ys.length ≤ len by omega)] at h
  rcases Nat.lt_or_ge (ys.countP (· < asked)) len with hi | hi
  · -- met
    have hge := hnext (by omega)
    exact law_values (Row w.heap.size len ys) (row_stays _ _ _) value deft x (some ⟨w.heap.size, 0, none⟩) len cap len hlen ranged minV step capped maxV asked (ys.getD (ys.countP (· < asked)) 0) (decide (ys.getD (ys.countP (· < asked)) 0 ≤ value)) w hcl hso
      (fun W b hW hpol => take_values_met W b w.heap.size len (ys.countP (· < asked)) (ys.getD (ys.countP (· < asked)) 0) value deft ranged minV step capped maxV asked _ hlen hi hpol (hW _ hi) (hsearch W hW))
      (fun W hW => model_values_met W w.heap.size len (ys.countP (· < asked)) (ys.getD (ys.countP (· < asked)) 0) ys value deft ranged minV step capped maxV asked hlen hi hW hlow rfl hge)
  · -- past every value
    have he : ys.countP (· < asked) = len := by omega
    rw [he] at hlow
    have hs2 : ∀ W, Row w.heap.size len ys W → Calls Try.prog 16 #[.slice (some ⟨w.heap.size, 0, none⟩) len len, .int .i64 asked] W fun e w' => e = .returned (.tuple #[.int .i64 (len : Nat), .bool (ys.contains asked)]) ∧ ∃ q, w' = W.drewN q := fun W hW => by
      have h := hsearch W hW
      rwa [he] at h
    exact law_values (Row w.heap.size len ys) (row_stays _ _ _) value deft x (some ⟨w.heap.size, 0, none⟩) len cap len hlen ranged minV step capped maxV asked 0 false w hcl hso
      (fun W b hW hpol => take_values_none W b w.heap.size len value deft ranged minV step capped maxV asked _ hlen hpol (hs2 W hW))
      (fun W hW => model_values_none W w.heap.size len ys value deft ranged minV step capped maxV asked hlen hW hlow)

/-- The clone of a slice that is not nil, in whatever world that parts from w in draws alone. -/
theorem clone_drawn (x : Addr) (len cap : Nat) (zs : List Int) (w : World) (hlen : len ≤ 131072) (hz : len ≤ zs.length)
    (hx : 0 < len → ∃ b off, x = ⟨b, off, none⟩ ∧ ∀ j, j < zs.length → w.cell? ⟨b, off + j, none⟩ = some (.int .i64 (zs.getD j 0))) (n0 : Nat) :
    Calls Try.prog 9 #[.slice (some x) len cap] (w.drewN n0) fun e w1 => e = .returned (.slice (some ⟨w.heap.size, 0, none⟩) len len) ∧ Below w.heap.size w w1 ∧ Row w.heap.size len (zs.take len) w1 := by
  rcases Nat.eq_zero_or_pos len with rfl | hpos
  · refine (clone_empty x cap (w.drewN n0)).mono ?_
    rintro e w' ⟨rfl, hb, _⟩
    exact ⟨rfl, (below_drewN (Below.refl _ _) n0).trans hb, fun j hj => by omega⟩
  · obtain ⟨b, off, rfl, hc⟩ := hx hpos
    have hb : b < w.heap.size := World.block_lt_of_cell? w _ (hc 0 (by omega))
    refine (clone_row b off len cap zs (w.drewN n0) (by omega) hz hb hc).mono ?_
    rintro e w' ⟨rfl, hrow, hbel, _⟩
    refine ⟨rfl, (below_drewN (Below.refl _ _) n0).trans hbel, fun j hj => ?_⟩
    have h1 : w'.cell? ⟨w.heap.size, j, none⟩ = some (filled zs len j) := hrow.cell hj
    rw [h1, List.getD, List.getElem?_take_of_lt hj]
    simp [filled, hj]

theorem unnamed_all (value deft : Int) (a av : Option Addr) (len cap cv : Nat) (hlen : len ≤ 131072) (ranged : Bool) (minV step : Int) (capped : Bool) (maxV asked : Int) (w : World)
    (hcl : Calls Try.prog 9 #[.slice a len cap] w fun e w1 => e = .returned (.slice av len cv) ∧ Below w.heap.size w w1 ∧ True) :
    Calls Try.prog 3 #[.int .i64 value, .int .i64 deft, .slice a len cap, .bool ranged, .int .i64 minV, .int .i64 step, .bool capped, .int .i64 maxV, .int .i64 asked, .bool false] w fun e w' => e = .returned (.bool true) ∧ Below w.heap.size w w' :=
  law_unnamed Any any_stays value deft a av len cap cv hlen ranged minV step capped maxV asked _ _ w hcl (fun W b _ hp => take_unnamed W b value deft _ ranged minV step capped maxV asked hp) (fun W _ => still (model_unnamed W value deft av len cv ranged minV step capped maxV asked))

/-- A list of values, sorted or not. -/
theorem list_all (value deft : Int) (x : Addr) (len cap : Nat) (hlen : len ≤ 131072) (zs : List Int) (hz : len ≤ zs.length) (ranged : Bool) (minV step : Int) (capped : Bool) (maxV asked : Int) (w : World)
    (hx : 0 < len → ∃ b off, x = ⟨b, off, none⟩ ∧ ∀ j, j < zs.length → w.cell? ⟨b, off + j, none⟩ = some (.int .i64 (zs.getD j 0))) :
    Calls Try.prog 3 #[.int .i64 value, .int .i64 deft, .slice (some x) len cap, .bool ranged, .int .i64 minV, .int .i64 step, .bool capped, .int .i64 maxV, .int .i64 asked, .bool true] w fun e w' => e = .returned (.bool true) ∧ Below w.heap.size w w' := by
  have hget : ∀ j, j < len → (zs.take len).getD j 0 = zs.getD j 0 := fun j hj => by
    rw [List.getD, List.getD, List.getElem?_take_of_lt hj]
  have hyl : (zs.take len).length = len := by rw [List.length_take]; omega
  rcases Classical.em (∀ m, m + 1 < len → zs.getD m 0 ≤ zs.getD (m + 1) 0) with hs | hs
  · refine values_all value deft x len cap hlen (zs.take len) hyl (pair_of_adjacent _ (fun m hm => ?_)) ranged minV step capped maxV asked w (clone_drawn x len cap zs w hlen hz hx) ?_
    · rw [hget m (by omega), hget (m + 1) (by omega)]
      exact hs m (by omega)
    · rcases Nat.lt_or_ge 1 len with h1 | h1
      · obtain ⟨b, off, rfl, hc⟩ := hx (by omega)
        exact sorted_yes b off len cap zs w hlen (by omega) (fun j hj => hc j (by omega)) hs
      · exact sorted_short (some x) len cap w h1
  · obtain ⟨v, hv⟩ := Classical.not_forall.1 hs
    rw [Classical.not_imp] at hv
    obtain ⟨hv1, hv2⟩ := hv
    obtain ⟨b, off, rfl, hc⟩ := hx (by omega)
    exact law_unsorted value deft ⟨b, off, none⟩ len cap ranged minV step capped maxV asked w hlen (sorted_no b off len cap zs w hlen v hv1 (fun j hj => hc j (by omega)) (by omega))

end Go.Proofs.Qxb6600607a
