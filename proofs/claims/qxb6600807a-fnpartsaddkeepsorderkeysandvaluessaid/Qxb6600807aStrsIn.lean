/-
  A slice of strings among the arguments, opened.
-/
import Derived.Test.Qxb6600807aStrs
import Derived.ProofKit
import Derived.OpenShut
import Derived.ShutString
import Derived.ChangeOld
import Derived.SliceStrings
namespace Go.Proofs.Qxb6600807a
open Go.ChangeShapes Go.WideShapes Go.ChangeAt Go.RowKit
set_option linter.unusedVariables false

theorem strs_in {H : Type} {enc : TypeId × Value → H} {W : World} {a : Option Addr} {len cap : Nat} {d : DataW H} {p : List MemPlace} (h : DataW.Trod enc Try.prog W 0 (fun _ => true) true 30 (.slice a len cap) d p) :
    ∃ S : Nat → ByteArray, len ≤ maxLen ∧ (∀ i, (S i).size ≤ maxLen) ∧ Strs.In W a len cap S := by
  obtain ⟨fuel, hf⟩ := h
  rcases open_strings Try.underlying30 Try.underlying9 (by kernel_rfl) hf with ⟨hcs, _⟩ | ⟨x, l, c, ss, hcs, _, hl, hm, hz, _, hcell, hws⟩
  · simp [Value.cells] at hcs
    obtain ⟨rfl, rfl, rfl⟩ := hcs
    exact ⟨fun _ => ByteArray.empty, Nat.zero_le _, fun _ => Nat.zero_le _, .inl ⟨rfl, rfl, rfl⟩⟩
  · simp [Value.cells] at hcs
    obtain ⟨rfl, rfl, rfl⟩ := hcs
    simp at hz
    refine ⟨fun i => ss.getD i ByteArray.empty, Nat.le_trans hl hm, ?_, .inr ⟨_, rfl, fun j hj => hcell j (by omega)⟩⟩
    intro i
    show (ss.getD i ByteArray.empty).size ≤ maxLen
    by_cases hi : i < ss.length
    · have e : ss.getD i ByteArray.empty = ss[i] := by simp [List.getD, hi]
      rw [e]
      exact hws _ (List.getElem_mem hi)
    · have e : ss.getD i ByteArray.empty = ByteArray.empty := by simp [List.getD, hi]
      rw [e]
      exact Nat.zero_le _

end Go.Proofs.Qxb6600807a
