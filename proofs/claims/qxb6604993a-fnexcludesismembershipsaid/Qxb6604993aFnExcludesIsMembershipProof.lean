/-
  THE STATEMENT FnExcludesIsMembershipSaid, PROVED: the row's step after the kit's shells; the walk out of the cases in Qxb6604993aLaw and Qxb6604993aRow.
-/
import Derived.Test.Qxb6604993aRows
import Derived.Test.Qxb6604993aRow
import Derived.WalkKit
import Derived.ProofKit
import Derived.OpenShut
import Derived.ShutString
import Derived.ChangeOld
import Derived.Below
import Derived.SliceStrings
namespace Go.Proofs.Qxb6604993a.fnExcludesIsMembership
open Go.ChangeShapes Go.WideShapes Go.ChangeAt Go.RowKit
open Go.ChangeMaps (open_string shut_string)
set_option linter.unusedVariables false

theorem own : ownKnob Try.prog.godebug = none := by kernel_rfl
theorem laidOut : laidOutB Try.prog = true := by kernel_rfl

/-- What the walk is told of a slice of strings that came in: it is nil; or it leads to a row of 'cap' cells, the strings 'ss'. -/
def IsStrs (w : World) (a : Option Addr) (len cap : Nat) (ss : List ByteArray) : Prop :=
  (a = none ∧ len = 0 ∧ cap = 0 ∧ ss = []) ∨
  ∃ x, a = some x ∧ len ≤ cap ∧ cap ≤ maxLen ∧ ss.length = cap ∧ (∀ i, i < ss.length → w.cell? (x.add i) = some (.string (ss.getD i ByteArray.empty))) ∧ ∀ s ∈ ss, s.size ≤ maxLen

theorem walk (a0 : Option Addr) (len0 cap0 : Nat) (s0 : List ByteArray) (q : ByteArray) (w : World) (w0 : IsStrs w a0 len0 cap0 s0) (wq : q.size ≤ maxLen) :
    Calls Try.prog 3 #[.slice a0 len0 cap0, .string q] w fun e w' => e = .returned (.bool true) ∧ Below w.heap.size w w' := by
  unfold maxLen at wq
  rcases w0 with ⟨rfl, rfl, rfl, rfl⟩ | ⟨x, rfl, hlc, hcm, hsl, hcell, hws⟩
  · rcases Nat.lt_or_ge 1048576 q.size with hq | hq
    · exact law_member none 0 0 [] q w (by omega) hq wq (bytes_none none 0 q w wq)
    · exact law_none none 0 q w hq (fun _ => rfl)
  · unfold maxLen at hcm
    rcases Nat.lt_or_ge 1048576 len0 with hlong | hlong
    · exact law_long (some x) len0 cap0 q w hlong (by omega)
    rcases Nat.eq_zero_or_pos len0 with rfl | hpos
    · rcases Nat.lt_or_ge 1048576 q.size with hq | hq
      · exact law_member (some x) 0 cap0 [] q w (by omega) hq wq (bytes_none (some x) cap0 q w wq)
      · exact law_none (some x) cap0 q w hq (fun h => by cases h)
    · obtain ⟨b, off, spot⟩ := x
      have hspot : spot = none := by simpa [Addr.add] using World.cell?_spot (hcell 0 (by omega))
      subst hspot
      have hc : ∀ j, j < len0 → w.cell? ⟨b, off + j, none⟩ = some (.string (strAt s0 j)) := fun j hj => by
        have h1 := hcell j (by omega)
        have e1 : Addr.add ⟨b, off, none⟩ j = ⟨b, off + j, none⟩ := by unfold Addr.add; split <;> simp_all
        rwa [e1] at h1
      have hm : ∀ j, (strAt s0 j).size ≤ maxLen := fun j => by
        unfold strAt
        by_cases hj : j < s0.length
        · rw [List.getD, List.getElem?_eq_getElem hj]
          exact hws _ (List.getElem_mem hj)
        · rw [List.getD, List.getElem?_eq_none (by omega)]
          exact Nat.zero_le _
      have hb := bytes_row b off len0 cap0 s0 q w hlong wq hc (fun j => by have := hm j; unfold maxLen at this; exact this)
      rcases Nat.lt_or_ge 65536 len0 with hlen | hlen
      · exact law_longer (some ⟨b, off, none⟩) len0 cap0 s0 q w hlen hlong hb
      rcases Nat.lt_or_ge 1048576 q.size with hq | hq
      · exact law_member (some ⟨b, off, none⟩) len0 cap0 s0 q w hlen hq wq hb
      · exact law_row b off len0 cap0 s0 q w hlen hpos hq hc hm

set_option maxRecDepth 100000 in
theorem lifted (os : Os) (started : os.Started) (H : Type) (enc : TypeId × Value → H) :
    ReturnsInHanded {} Try.checked os 3 .any (Rows.fnExcludesIsMembershipSpec.pre6 enc Try.prog Try.f3 Rows.fnExcludesIsMembershipRow.domain false) (Rows.fnExcludesIsMembershipSpec.post enc Try.prog Try.f3 false true false false) := by
  refine returnsInHanded_of_change (C := Try.checked) own started (by kernel_rfl) Try.func3
    (ChangeSpec.witness6 (enc := enc) (C := Try.checked) false ⟨#[], #[.slice none 0 0, .string ByteArray.empty], []⟩ 8 (by kernel_rfl) (by kernel_rfl) (by kernel_rfl) (by kernel_rfl)) ?_
  intro W base args ds gs before hval0 hW hcnd _
  have hval : ∀ (j : Nat) t v, Try.f3.params[j]? = some t → args[j]? = some v → Value.okWide Try.prog W .any base t v := hval0
  have hW' := hW
  obtain ⟨p, q, hA0, hV, rfl, hfz, hnd⟩ := hW
  have hA : DataW.TrodAll enc Try.prog W 0 (fun _ => true) true Try.f3.params.toList args.toList ds p := hA0
  rw [Try.params3] at hA hval
  obtain ⟨v0, vs0, d0, ds0, p0, q0, hargs, rfl, rfl, h0, r0⟩ := trodAll_cons hA
  obtain ⟨v1, vs1, d1, ds1, p1, q1, rfl, rfl, rfl, h1, r1⟩ := trodAll_cons r0
  obtain ⟨rfl, rfl, rfl⟩ := trodAll_nil r1
  obtain rfl : args = #[v0, v1] := by cases args; simp_all
  obtain ⟨rfl, rfl⟩ := trodVars_none hV
  obtain ⟨a0, len0, cap0, rfl⟩ := okWide_slice Try.underlying22 (hval 0 22 v0 rfl rfl)
  have k0 := h0
  have lt0 : ∀ x ∈ p0, x.block < W.heap.size := by obtain ⟨m, hm⟩ := k0; exact DataW.trod_lt m _ _ _ hm
  obtain ⟨s0, w0⟩ : ∃ ss, IsStrs W a0 len0 cap0 ss := by
    obtain ⟨fuel, hf⟩ := h0
    rcases open_strings Try.underlying22 Try.underlying9 (by kernel_rfl) hf with ⟨hcs, _⟩ | ⟨x, l, c, ss, hcs, _, hl, hm, hz, _, hcell, hws⟩
    · simp [Value.cells] at hcs
      obtain ⟨rfl, rfl, rfl⟩ := hcs
      exact ⟨[], .inl ⟨rfl, rfl, rfl, rfl⟩⟩
    · simp [Value.cells] at hcs
      obtain ⟨rfl, rfl, rfl⟩ := hcs
      exact ⟨ss, .inr ⟨_, rfl, hl, hm, by simpa using hz, hcell, hws⟩⟩
  obtain ⟨s1, rfl, rfl, rfl, w1⟩ := open_string Try.underlying9 (hval 1 9 v1 rfl rfl) h1
  clear hA0 hval0
  refine (walk a0 len0 cap0 s0 s1 W w0 w1).mono fun e W' ⟨he, bel⟩ => ?_
  subst he
  exact ⟨_, rfl, _, _, _, [], _, [], hW', trodAll_mk1 (shut_bool Try.underlying4 _), (trodAll_cons_mk (Below.trod laidOut (by kernel_rfl) (of_decide_eq_true (by kernel_rfl)) k0 bel lt0) (trodAll_cons_mk (shut_string Try.underlying9 w1) trodAll_mk0)), rfl, bel.frame _, fun h => by cases h⟩

theorem over : Rows.fnExcludesIsMembershipRow.holds Try.pinned (OpenSpec.ofChange Rows.fnExcludesIsMembershipSpec) :=
  OpenClaim.holds_of_wide 3 Try.f3 rfl rfl rfl rfl rfl rfl rfl ⟨rfl, rfl, rfl, rfl, rfl⟩ rfl rfl rfl rfl rfl (by kernel_rfl) Try.func3 (by kernel_rfl)
    (of_decide_eq_true (by kernel_rfl)) (by unfold Func.isWrapper; first | (rw [if_pos (by decide +kernel)]; kernel_rfl) | (rw [if_neg (by decide +kernel)]; exact ⟨rfl, rfl⟩))
    (fun os started H enc _ => lifted os started H enc)

/-- THE STATEMENT. -/
theorem proved : Rows.FnExcludesIsMembershipSaid := over
end Go.Proofs.Qxb6604993a.fnExcludesIsMembership
