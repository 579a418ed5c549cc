/-
  THE SET AS A DATUM: what the map holds behind k rounds; that a key is in it just if the linear search finds it.
-/
import Derived.Test.Qxb6604993aBytes
namespace Go.Proofs.Qxb6604993a
open Go.RowKit Go.Maps Go.WideMaps
set_option linter.unusedVariables false

def keyAt (ss : List ByteArray) (k : Nat) : Lit := .string (strAt ss k).data.toList
def keys (ss : List ByteArray) (k : Nat) : List Lit := (List.range k).map (keyAt ss)
def Sn (ss : List ByteArray) (k : Nat) : DataW Unit := setOf (.agg []) (keys ss k)

theorem Sn_zero (ss : List ByteArray) : Sn ss 0 = .map [] := by simp [Sn, keys, setOf]
theorem Sn_succ (ss : List ByteArray) (k : Nat) : Sn ss (k + 1) = (Sn ss k).put (keyAt ss k) (.agg []) := by
  unfold Sn keys
  rw [List.range_succ, List.map_append, List.map_singleton, setOf_snoc]

theorem key_ok {ss : List ByteArray} (hm : ∀ j, (strAt ss j).size ≤ maxLen) (k : Nat) : keyOf Try.prog 9 (.string (strAt ss k)) = some (keyAt ss k) := keyOf_string_mk Try.underlying9 (hm k)

/-- THE KEY IS IN THE SET JUST IF THE LINEAR SEARCH FINDS IT. -/
theorem has_Sn (ss : List ByteArray) (q : ByteArray) (k : Nat) : Maps.has (Sn ss k) (.string q.data.toList) = inB ss q k := by
  unfold Sn inB
  rw [has_setOf _ _ _ (fun y hy => by obtain ⟨_, _, rfl⟩ := List.mem_map.1 hy; trivial)]
  unfold keys
  rw [List.any_map]
  congr 1
  funext j
  rw [ByteArray.toList_eq, ByteArray.toList_eq]
  simp [keyAt, Lit.sameKey]

theorem make_hint (n : Int) (w : World) : (Instr.makeMap 26 (some (.int .i64 n))).run Try.prog w = .ok (.map (some w.heap.size)) (w.alloc (.map #[] 0)) := by
  simp [Instr.makeMap, run_underlying Try.underlying26, asInt, newObj]
  rfl

end Go.Proofs.Qxb6604993a
