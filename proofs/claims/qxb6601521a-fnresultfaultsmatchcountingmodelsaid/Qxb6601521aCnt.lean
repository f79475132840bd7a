/-
  THE LAW FnResultFaultsMatchCountingModel, PROVED. The walk lies in Qxb6601521aCntW.
-/
import Derived.Test.Qxb6601521aMsgsIn
import Derived.Test.Qxb6601521aCntW
namespace Go.Proofs.Qxb6601521a.fnResultFaultsMatchCountingModel
open Go.ChangeShapes Go.WideShapes Go.ChangeAt Go.RowKit
set_option linter.unusedVariables false

theorem own : ownKnob Try.prog.godebug = none := by kernel_rfl
theorem laidOut : laidOutB Try.prog = true := by kernel_rfl

section
variable {H : Type} {enc : TypeId × Value → H} {w : World} {spare : Nat → Bool} {held : Bool}
theorem c3 : Try.prog.cellsOf 3 = 1 := by kernel_rfl
theorem c40 : Try.prog.cellsOf 40 = 4 := by kernel_rfl
theorem int_cell {n j : Nat} {cs : List Value} {y : DataW H × List MemPlace} (h : DataW.trod enc Try.prog w 0 spare held n 3 ((cs.drop j).take (Try.prog.cellsOf 3)) = some y) : ∃ z : Int, cs[j]? = some (.int .i64 z) := by
  rw [c3] at h
  obtain ⟨z, hs, _⟩ := DataW.trod_int Try.underlying3 h
  exact ⟨z, take_one hs⟩
/-- One fault's cells. -/
theorem flt_struct {fuel : Nat} {cs : List Value} {x : DataW H × List MemPlace} (h : DataW.trod enc Try.prog w 0 spare held fuel 40 cs = some x) :
    ∃ f : Flt, cs[0]? = some (.int .i64 f.k) ∧ cs[1]? = some (.int .i64 f.a) ∧ cs[2]? = some (.int .i64 f.q) ∧ cs[3]? = some (.int .i64 f.c) := by
  obtain ⟨n, hn⟩ := field_cell Try.underlying40 h
  obtain ⟨y0, h0⟩ := hn 0 _ rfl
  obtain ⟨y1, h1⟩ := hn 1 _ rfl
  obtain ⟨y2, h2⟩ := hn 2 _ rfl
  obtain ⟨y3, h3⟩ := hn 3 _ rfl
  obtain ⟨z0, e0⟩ := int_cell h0
  obtain ⟨z1, e1⟩ := int_cell h1
  obtain ⟨z2, e2⟩ := int_cell h2
  obtain ⟨z3, e3⟩ := int_cell h3
  exact ⟨⟨z0, z1, z2, z3⟩, e0, e1, e2, e3⟩
theorem faults_in {a : Option Addr} {len cap : Nat} {d : DataW H} {p : List MemPlace} (h : DataW.Trod enc Try.prog w 0 spare held 25 (.slice a len cap) d p) :
    ∃ L : List Flt, len ≤ maxLen ∧ FIn w a len cap L := by
  obtain ⟨fuel, hf⟩ := h
  rcases Go.Deep.open_slice Try.underlying25 hf with ⟨hcs, _⟩ | ⟨x, l, c, m, n, D, Pl, hcs, _, hl, hm, hmm, _, hx⟩
  · simp [Value.cells] at hcs
    obtain ⟨rfl, rfl, rfl⟩ := hcs
    exact ⟨[], Nat.zero_le _, rfl, .inl ⟨rfl, rfl, rfl⟩⟩
  · simp [Value.cells] at hcs
    obtain ⟨rfl, rfl, rfl⟩ := hcs
    have hle : len ≤ m := by rw [hmm]; split <;> omega
    have each : ∀ i, i < len → ∃ f : Flt, w.cell? (x.add (i * 4)) = some (.int .i64 f.k) ∧ w.cell? (x.add (i * 4 + 1)) = some (.int .i64 f.a) ∧ w.cell? (x.add (i * 4 + 2)) = some (.int .i64 f.q) ∧ w.cell? (x.add (i * 4 + 3)) = some (.int .i64 f.c) := fun i hi => by
      obtain ⟨cs', h1, h2⟩ := hx i (by omega)
      obtain ⟨f, e0, e1, e2, e3⟩ := flt_struct h2
      rw [c40] at h1
      obtain ⟨_, _, hc⟩ := World.cells?_some h1
      have g : ∀ j v, j < 4 → cs'[j]? = some v → w.cell? (x.add (i * 4 + j)) = some v := fun j v hj hv => by
        have := hc j hj
        rw [hv] at this
        rw [← this]
        rw [add_twice]
      exact ⟨f, g 0 _ (by omega) e0, g 1 _ (by omega) e1, g 2 _ (by omega) e2, g 3 _ (by omega) e3⟩
    have inh : Inhabited Flt := ⟨⟨0, 0, 0, 0⟩⟩
    obtain ⟨F, hF⟩ := Go.Deep.choose_lt each
    refine ⟨(List.range len).map F, Nat.le_trans hl hm, by simp, .inr ⟨_, rfl, fun i hi => ?_⟩⟩
    have e : nth ((List.range len).map F) i = F i := by simp [nth, hi]
    rw [e]
    exact hF i hi
end

set_option maxRecDepth 100000 in
theorem lifted (os : Os) (started : os.Started) (H : Type) (enc : TypeId × Value → H) :
    ReturnsInHanded {} Try.checked os 6 .any (Rows.fnResultFaultsMatchCountingModelSpec.pre6 enc Try.prog Try.f6 Rows.fnResultFaultsMatchCountingModelRow.domain false) (Rows.fnResultFaultsMatchCountingModelSpec.post enc Try.prog Try.f6 false true false false) := by
  refine returnsInHanded_of_change (C := Try.checked) own started (by kernel_rfl) Try.func6
    (ChangeSpec.witness6 (enc := enc) (C := Try.checked) false ⟨#[], #[.slice none 0 0, .slice none 0 0, .int .i64 0], []⟩ 8 (by kernel_rfl) (by kernel_rfl) (by kernel_rfl) (by kernel_rfl)) ?_
  intro W base args ds gs before hval0 hW hcnd _
  have hval : ∀ (j : Nat) t v, Try.f6.params[j]? = some t → args[j]? = some v → Value.okWide Try.prog W .any base t v := hval0
  have hW' := hW
  obtain ⟨p, q, hA0, hV, rfl, hfz, hnd⟩ := hW
  have hA : DataW.TrodAll enc Try.prog W 0 (fun _ => true) true Try.f6.params.toList args.toList ds p := hA0
  rw [Try.params6] at hA hval
  obtain ⟨v0, vs0, d0, ds0, p0, q0, hargs, rfl, rfl, h0, r0⟩ := trodAll_cons hA
  obtain ⟨v1, vs1, d1, ds1, p1, q1, rfl, rfl, rfl, h1, r1⟩ := trodAll_cons r0
  obtain ⟨v2, vs2, d2, ds2, p2, q2, rfl, rfl, rfl, h2, r2⟩ := trodAll_cons r1
  obtain ⟨rfl, rfl, rfl⟩ := trodAll_nil r2
  obtain rfl : args = #[v0, v1, v2] := by cases args; simp_all
  obtain ⟨rfl, rfl⟩ := trodVars_none hV
  obtain ⟨a0, len0, cap0, rfl⟩ := okWide_slice Try.underlying25 (hval 0 25 v0 rfl rfl)
  have k0 := h0
  have lt0 : ∀ x ∈ p0, x.block < W.heap.size := by obtain ⟨m, hm⟩ := k0; exact DataW.trod_lt m _ _ _ hm
  obtain ⟨L, hn0, w0⟩ := faults_in h0
  obtain ⟨a1, len1, cap1, rfl⟩ := okWide_slice Try.underlying22 (hval 1 22 v1 rfl rfl)
  have k1 := h1
  have lt1 : ∀ x ∈ p1, x.block < W.heap.size := by obtain ⟨m, hm⟩ := k1; exact DataW.trod_lt m _ _ _ hm
  obtain ⟨M, hn1, hM, w1⟩ := msgs_in h1
  obtain ⟨z, rfl, rfl, rfl, hwf⟩ := open_int Try.underlying3 (hval 2 3 v2 rfl rfl) h2
  clear hA0 hval0
  refine (cnt_walk a0 len0 cap0 L a1 len1 cap1 M z hn0 hn1 hM W w0 w1).mono fun e W' ⟨he, bel⟩ => ?_
  subst he
  exact ⟨_, rfl, _, _, _, [], _, [], hW', trodAll_mk1 (shut_bool Try.underlying4 _), (trodAll_cons_mk (Below.trod laidOut (by kernel_rfl) (of_decide_eq_true (by kernel_rfl)) k0 bel lt0) (trodAll_cons_mk (Below.trod laidOut (by kernel_rfl) (of_decide_eq_true (by kernel_rfl)) k1 bel lt1) (trodAll_cons_mk (shut_int Try.underlying3 hwf) trodAll_mk0))), rfl, bel.frame _, fun h => by cases h⟩

theorem over : Rows.fnResultFaultsMatchCountingModelRow.holds Try.pinned (OpenSpec.ofChange Rows.fnResultFaultsMatchCountingModelSpec) :=
  OpenClaim.holds_of_wide 6 Try.f6 rfl rfl rfl rfl rfl rfl rfl ⟨rfl, rfl, rfl, rfl, rfl⟩ rfl rfl rfl rfl rfl (by kernel_rfl) Try.func6 (by kernel_rfl)
    (of_decide_eq_true (by kernel_rfl)) (by unfold Func.isWrapper; first | (rw [if_pos (by decide +kernel)]; kernel_rfl) | (rw [if_neg (by decide +kernel)]; exact ⟨rfl, rfl⟩))
    (fun os started H enc _ => lifted os started H enc)

theorem proved : Rows.FnResultFaultsMatchCountingModelSaid := over
end Go.Proofs.Qxb6601521a.fnResultFaultsMatchCountingModel

namespace Go.Proofs.Qxb6601521a
theorem counting_proved : Rows.FnResultFaultsMatchCountingModelSaid := fnResultFaultsMatchCountingModel.proved
#print axioms counting_proved
end Go.Proofs.Qxb6601521a
