/-
  THE LAW FnResultFaultsBalanceResultsAgainstCalls, PROVED. The walk lies in Qxb6601521aBalW.
-/
import Derived.Test.Qxb6601521aMsgsIn
import Derived.Test.Qxb6601521aBalW
namespace Go.Proofs.Qxb6601521a.fnResultFaultsBalanceResultsAgainstCalls
open Go.ChangeShapes Go.WideShapes Go.ChangeAt Go.RowKit
set_option linter.unusedVariables false

theorem own : ownKnob Try.prog.godebug = none := by kernel_rfl
theorem laidOut : laidOutB Try.prog = true := by kernel_rfl

set_option maxRecDepth 100000 in
theorem lifted (os : Os) (started : os.Started) (H : Type) (enc : TypeId × Value → H) :
    ReturnsInHanded {} Try.checked os 8 .any (Rows.fnResultFaultsBalanceResultsAgainstCallsSpec.pre6 enc Try.prog Try.f8 Rows.fnResultFaultsBalanceResultsAgainstCallsRow.domain false) (Rows.fnResultFaultsBalanceResultsAgainstCallsSpec.post enc Try.prog Try.f8 false true false false) := by
  refine returnsInHanded_of_change (C := Try.checked) own started (by kernel_rfl) Try.func8
    (ChangeSpec.witness6 (enc := enc) (C := Try.checked) false ⟨#[], #[.slice none 0 0, .int .i64 0], []⟩ 8 (by kernel_rfl) (by kernel_rfl) (by kernel_rfl) (by kernel_rfl)) ?_
  intro W base args ds gs before hval0 hW hcnd _
  have hval : ∀ (j : Nat) t v, Try.f8.params[j]? = some t → args[j]? = some v → Value.okWide Try.prog W .any base t v := hval0
  have hW' := hW
  obtain ⟨p, q, hA0, hV, rfl, hfz, hnd⟩ := hW
  have hA : DataW.TrodAll enc Try.prog W 0 (fun _ => true) true Try.f8.params.toList args.toList ds p := hA0
  rw [Try.params8] at hA hval
  obtain ⟨v0, vs0, d0, ds0, p0, q0, hargs, rfl, rfl, h0, r0⟩ := trodAll_cons hA
  obtain ⟨v1, vs1, d1, ds1, p1, q1, rfl, rfl, rfl, h1, r1⟩ := trodAll_cons r0
  obtain ⟨rfl, rfl, rfl⟩ := trodAll_nil r1
  obtain rfl : args = #[v0, v1] := by cases args; simp_all
  obtain ⟨rfl, rfl⟩ := trodVars_none hV
  obtain ⟨a0, len0, cap0, rfl⟩ := okWide_slice Try.underlying22 (hval 0 22 v0 rfl rfl)
  have k0 := h0
  have lt0 : ∀ x ∈ p0, x.block < W.heap.size := by obtain ⟨m, hm⟩ := k0; exact DataW.trod_lt m _ _ _ hm
  obtain ⟨M, hn0, hM, w0⟩ := msgs_in h0
  obtain ⟨z, rfl, rfl, rfl, hwf⟩ := open_int Try.underlying3 (hval 1 3 v1 rfl rfl) h1
  have hz := bounds_i64 hwf
  clear hA0 hval0
  refine (bal_walk a0 len0 cap0 M z hn0 hz.1 hz.2 hM W w0).mono fun e W' ⟨he, bel⟩ => ?_
  subst he
  exact ⟨_, rfl, _, _, _, [], _, [], hW', trodAll_mk1 (shut_bool Try.underlying4 _), (trodAll_cons_mk (Below.trod laidOut (by kernel_rfl) (of_decide_eq_true (by kernel_rfl)) k0 bel lt0) (trodAll_cons_mk (shut_int Try.underlying3 hwf) trodAll_mk0)), rfl, bel.frame _, fun h => by cases h⟩

theorem over : Rows.fnResultFaultsBalanceResultsAgainstCallsRow.holds Try.pinned (OpenSpec.ofChange Rows.fnResultFaultsBalanceResultsAgainstCallsSpec) :=
  OpenClaim.holds_of_wide 8 Try.f8 rfl rfl rfl rfl rfl rfl rfl ⟨rfl, rfl, rfl, rfl, rfl⟩ rfl rfl rfl rfl rfl (by kernel_rfl) Try.func8 (by kernel_rfl)
    (of_decide_eq_true (by kernel_rfl)) (by unfold Func.isWrapper; first | (rw [if_pos (by decide +kernel)]; kernel_rfl) | (rw [if_neg (by decide +kernel)]; exact ⟨rfl, rfl⟩))
    (fun os started H enc _ => lifted os started H enc)

theorem proved : Rows.FnResultFaultsBalanceResultsAgainstCallsSaid := over
end Go.Proofs.Qxb6601521a.fnResultFaultsBalanceResultsAgainstCalls

namespace Go.Proofs.Qxb6601521a
theorem balance_proved : Rows.FnResultFaultsBalanceResultsAgainstCallsSaid := fnResultFaultsBalanceResultsAgainstCalls.proved
#print axioms balance_proved
end Go.Proofs.Qxb6601521a
