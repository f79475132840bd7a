/-
  THE LAW FnPartsAddKeepsOrderKeysAndValues, PROVED. The frame follows the seat's given shells; the walk lies in Qxb6600807aAddW.
-/
import Derived.Test.Qxb6600807aRows
import Derived.WalkKit
import Derived.ProofKit
import Derived.OpenShut
import Derived.ShutString
import Derived.ChangeOld
import Derived.Below
import Derived.Test.Qxb6600807aStrsIn
import Derived.Test.Qxb6600807aAddW
import Derived.Deep.Matrix
namespace Go.Proofs.Qxb6600807a.fnPartsAddKeepsOrderKeysAndValues
open Go.ChangeShapes Go.WideShapes Go.ChangeAt Go.RowKit
open Go.ChangeMaps (open_string shut_string)
set_option linter.unusedVariables false

theorem own : ownKnob Try.prog.godebug = none := by kernel_rfl
theorem laidOut : laidOutB Try.prog = true := by kernel_rfl

/-- A slice of slices of bytes among the arguments, opened. -/
theorem rows_in {H : Type} {enc : TypeId × Value → H} {W : World} {a : Option Addr} {len cap : Nat} {d : DataW H} {p : List MemPlace} (h : DataW.Trod enc Try.prog W 0 (fun _ => true) true 38 (.slice a len cap) d p) :
    ∃ (A : Nat → Option Addr) (L C : Nat → Nat) (Z : Nat → Nat → Int), len ≤ maxLen ∧ (∀ r, L r ≤ maxLen) ∧ Raws.RIn W a len cap A L C Z := by
  obtain ⟨fuel, hf⟩ := h
  rcases Go.Deep.open_int_rows Try.underlying38 Try.underlying22 Try.underlying5 (by kernel_rfl) (by kernel_rfl) hf with ⟨hcs, _⟩ | ⟨x, l, c, A, L, C, Z, hcs, _, hl, hm, _, hx⟩
  · simp [Value.cells] at hcs
    obtain ⟨rfl, rfl, rfl⟩ := hcs
    exact ⟨fun _ => none, fun _ => 0, fun _ => 0, fun _ _ => 0, Nat.zero_le _, fun _ => Nat.zero_le _, .inl ⟨rfl, rfl, rfl⟩⟩
  · simp [Value.cells] at hcs
    obtain ⟨rfl, rfl, rfl⟩ := hcs
    refine ⟨A, fun r => if r < len then L r else 0, C, fun r j => (Z r).getD j 0, Nat.le_trans hl hm, ?_, .inr ⟨_, rfl, ?_⟩⟩
    · intro r
      show (if r < len then L r else 0) ≤ maxLen
      by_cases hr : r < len
      · rw [if_pos hr]
        obtain ⟨_, h1, h2, _⟩ := hx r (by omega)
        exact Nat.le_trans h1 h2
      · rw [if_neg hr]
        exact Nat.zero_le _
    · intro r hr
      obtain ⟨h0, h1, h2, h3, h4, h5, h6⟩ := hx r (by omega)
      simp only [if_pos hr]
      refine ⟨h0, ?_⟩
      cases hA : A r with
      | none =>
        have := h5 hA
        exact .inl ⟨rfl, by omega, this⟩
      | some y =>
        exact .inr ⟨y, rfl, fun j hj => (h6 y hA).2 j (by omega)⟩

set_option maxRecDepth 100000 in
theorem lifted (os : Os) (started : os.Started) (H : Type) (enc : TypeId × Value → H) :
    ReturnsInHanded {} Try.checked os 7 .any (Rows.fnPartsAddKeepsOrderKeysAndValuesSpec.pre6 enc Try.prog Try.f7 Rows.fnPartsAddKeepsOrderKeysAndValuesRow.domain false) (Rows.fnPartsAddKeepsOrderKeysAndValuesSpec.post enc Try.prog Try.f7 false true false false) := by
  refine returnsInHanded_of_change (C := Try.checked) own started (by kernel_rfl) Try.func7
    (ChangeSpec.witness6 (enc := enc) (C := Try.checked) false ⟨#[], #[.slice none 0 0, .slice none 0 0], []⟩ 8 (by kernel_rfl) (by kernel_rfl) (by kernel_rfl) (by kernel_rfl)) ?_
  intro W base args ds gs before hval0 hW hcnd _
  have hval : ∀ (j : Nat) t v, Try.f7.params[j]? = some t → args[j]? = some v → Value.okWide Try.prog W .any base t v := hval0
  have hW' := hW
  obtain ⟨p, q, hA0, hV, rfl, hfz, hnd⟩ := hW
  have hA : DataW.TrodAll enc Try.prog W 0 (fun _ => true) true Try.f7.params.toList args.toList ds p := hA0
  rw [Try.params7] at hA hval
  obtain ⟨v0, vs0, d0, ds0, p0, q0, hargs, rfl, rfl, h0, r0⟩ := trodAll_cons hA
  obtain ⟨v1, vs1, d1, ds1, p1, q1, rfl, rfl, rfl, h1, r1⟩ := trodAll_cons r0
  obtain ⟨rfl, rfl, rfl⟩ := trodAll_nil r1
  obtain rfl : args = #[v0, v1] := by cases args; simp_all
  obtain ⟨rfl, rfl⟩ := trodVars_none hV
  obtain ⟨a0, len0, cap0, rfl⟩ := okWide_slice Try.underlying30 (hval 0 30 v0 rfl rfl)
  have k0 := h0
  have lt0 : ∀ x ∈ p0, x.block < W.heap.size := by obtain ⟨m, hm⟩ := k0; exact DataW.trod_lt m _ _ _ hm
  obtain ⟨S, hn0, hS0, w0⟩ := strs_in h0
  obtain ⟨a1, len1, cap1, rfl⟩ := okWide_slice Try.underlying38 (hval 1 38 v1 rfl rfl)
  have k1 := h1
  have lt1 : ∀ x ∈ p1, x.block < W.heap.size := by obtain ⟨m, hm⟩ := k1; exact DataW.trod_lt m _ _ _ hm
  obtain ⟨A, L, C, Z, hn1, hL1, w1⟩ := rows_in h1
  clear hA0 hval0
  refine (AddLaw.walk a0 len0 cap0 S a1 len1 cap1 A L C Z hn0 hn1 hS0 hL1 W w0 w1).mono fun e W' ⟨he, bel⟩ => ?_
  subst he
  exact ⟨_, rfl, _, _, _, [], _, [], hW', trodAll_mk1 (shut_bool Try.underlying4 _), (trodAll_cons_mk (Below.trod laidOut (by kernel_rfl) (of_decide_eq_true (by kernel_rfl)) k0 bel lt0) (trodAll_cons_mk (Below.trod laidOut (by kernel_rfl) (of_decide_eq_true (by kernel_rfl)) k1 bel lt1) trodAll_mk0)), rfl, bel.frame _, fun h => by cases h⟩

theorem over : Rows.fnPartsAddKeepsOrderKeysAndValuesRow.holds Try.pinned (OpenSpec.ofChange Rows.fnPartsAddKeepsOrderKeysAndValuesSpec) :=
  OpenClaim.holds_of_wide 7 Try.f7 rfl rfl rfl rfl rfl rfl rfl ⟨rfl, rfl, rfl, rfl, rfl⟩ rfl rfl rfl rfl rfl (by kernel_rfl) Try.func7 (by kernel_rfl)
    (of_decide_eq_true (by kernel_rfl)) (by unfold Func.isWrapper; first | (rw [if_pos (by decide +kernel)]; kernel_rfl) | (rw [if_neg (by decide +kernel)]; exact ⟨rfl, rfl⟩))
    (fun os started H enc _ => lifted os started H enc)

theorem proved : Rows.FnPartsAddKeepsOrderKeysAndValuesSaid := over
end Go.Proofs.Qxb6600807a.fnPartsAddKeepsOrderKeysAndValues

namespace Go.Proofs.Qxb6600807a
theorem add_proved : Rows.FnPartsAddKeepsOrderKeysAndValuesSaid := fnPartsAddKeepsOrderKeysAndValues.proved
#print axioms add_proved
end Go.Proofs.Qxb6600807a
