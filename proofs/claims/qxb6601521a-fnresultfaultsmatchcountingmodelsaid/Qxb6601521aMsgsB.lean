/-
  THE WALK of 'zzMsgsBytes' (laws_root_b1.go): it answers some int.
-/
import Derived.Test.Qxb6601521aAddI
import Derived.Deep.DeepCutAuto
import Derived.Deep.CutBlock
import Derived.Deep.LoopGhost
namespace Go.Proofs.Qxb6601521a
open Go.RowKit
set_option linter.unusedVariables false

/-- A cell of a block that has just been laid. -/
theorem box_cell (w : World) (cs : Array Value) (t : TypeId) {i : Nat} {v : Value} (h : cs[i]? = some v) : (w.alloc (.cells cs t)).cell? ⟨w.heap.size, i, none⟩ = some v := by
  rw [cell_of_row _ w.heap.size i cs t (0, 0) (heap_alloc_new w _)]
  exact h
theorem below_box {w w' : World} {o : Obj} (h : Below (w.heap.size + 1) (w.alloc o) w') : Below w.heap.size w w' :=
  ((Below.refl w.heap.size w).alloc (Nat.le_refl _) o).trans (h.mono (by omega))

/-- Some int comes back; nothing old has turned. -/
def SomeInt (e : Ending) (w w' : World) : Prop := ∃ t : Int, e = .returned (.int .i64 t) ∧ Below w.heap.size w w'
theorem someInt {e : Ending} {w w' : World} {t : Int} (h : e = .returned (.int .i64 t)) (h' : Below w.heap.size w w') : SomeInt e w w' := ⟨t, h, h'⟩

set_option maxRecDepth 100000 in
set_option maxHeartbeats 40000000 in
theorem msgsBytes_any (a : Option Addr) (n cap : Nat) (M : Nat → Msg) (t0 : Int) (hsm : Small n M) (w : World) (h : MIn w a n cap M) :
    Calls Try.prog 10 #[.slice a n cap, .int .i64 t0] w fun e w' => SomeInt e w w' := by
  have HI : Hid (MIn w a n cap M ∧ Small n M) := ⟨h, hsm⟩
  have hn := hsm.1
  clear h hsm
  go_enter Try.func10, Try.ntmps10
  go_wp2_with (go_at_call 23; refine (zzAdd_any _ _ _ _).mono ?_; rintro e w' ⟨r, rfl, rfl⟩)
  go_loopg [1, 5] n (fun g s i wr => ∃ (k : Nat) (t : Int), g = n - k ∧ k ≤ n ∧ i = .int .i64 k ∧ s = .int .i64 t ∧ Below w.heap.size w wr)
  case atStart => exact ⟨0, _, by omega, by omega, rfl, rfl, Below.refl _ _⟩
  case round =>
    obtain ⟨k, t, hg, hk, rfl, rfl, hbel⟩ := hrel
    have HG : Hid (gk = n - k) := hg
    have HB : Hid (Below w.heap.size w wr) := hbel
    clear hg hbel
    by_cases hlt : k < n
    · obtain ⟨b, off, rfl, hb, hl⟩ := min_some HI.out.1 (by omega)
      have HF0 : Fields wr ⟨b, off, none⟩ k (M k) := (hl k hlt).later HB.out
      have hsm := HI.out.2.2 k hlt
      clear hl
      obtain ⟨mm, hmm⟩ : ∃ mm, mm = M k := ⟨_, rfl⟩
      have HMM : Hid (mm = M k) := hmm
      rw [← hmm] at HF0 hsm
      clear hmm
      obtain ⟨hcn, htn, hpn⟩ := hsm
      have HF : Hid (Fields wr ⟨b, off, none⟩ k mm) := HF0
      have q0 := HF0.f0
      have q1 := HF0.f1
      have q2 := HF0.f2
      have q3 := HF0.f3
      have q4 := HF0.f4
      have q5 := HF0.f5
      have q6 := HF0.f6
      have q7 := HF0.f7
      clear HF0
      rw [Addr.add_lit] at q0 q1 q2 q3 q4 q5 q6 q7
      rw [← Nat.add_assoc] at q1 q2 q3 q4 q5 q6 q7
      by_cases ht : t ≤ 1048576
      · go_upto_block 2 with (go_at_call 23; refine (zzAdd_any _ _ _ _).mono ?_; rintro e w' ⟨r, rfl, rfl⟩)
        go_cut [1] (fun s w' => ∃ t : Int, s = .int .i64 t ∧ Below (wr.heap.size + 1) (wr.alloc (.cells #[.string mm.role, .string mm.content, .slice mm.ca mm.cn mm.cc, .string mm.id, .bool mm.failed, .slice mm.ta mm.tn mm.tc, .slice mm.pa mm.pn mm.pc, .string mm.prov] 38)) w')
        case first =>
          go_wp2_with fail
          go_loopg [1, 7] mm.cn (fun g s i wx => ∃ (j : Nat) (t : Int), g = mm.cn - j ∧ j ≤ mm.cn ∧ i = .int .i64 j ∧ s = .int .i64 t ∧ Below (wr.heap.size + 1) (wr.alloc (.cells #[.string mm.role, .string mm.content, .slice mm.ca mm.cn mm.cc, .string mm.id, .bool mm.failed, .slice mm.ta mm.tn mm.tc, .slice mm.pa mm.pn mm.pc, .string mm.prov] 38)) wx)
          case atStart => exact ⟨0, _, by omega, by omega, rfl, rfl, Below.refl _ _⟩
          case round =>
            obtain ⟨j, tj, hg, hj, rfl, rfl, hbx⟩ := hrel
            rename World => wx
            have HGX : Hid (gk = mm.cn - j) := hg
            have HX : Hid (Below (wr.heap.size + 1) (wr.alloc (.cells #[.string mm.role, .string mm.content, .slice mm.ca mm.cn mm.cc, .string mm.id, .bool mm.failed, .slice mm.ta mm.tn mm.tc, .slice mm.pa mm.pn mm.pc, .string mm.prov] 38)) wx) := hbx
            clear hg hbx
            have hq : wx.cell? ⟨wr.heap.size, 2, none⟩ = some (.slice mm.ca mm.cn mm.cc) := (HX.out.cell (by simp)).trans (box_cell _ _ _ rfl)
            by_cases hjl : j < mm.cn
            · by_cases htj : tj ≤ 1048576
              · obtain ⟨cb, coff, hca, hcb, hcl⟩ := sin_some (HF.out.calls.later (below_box HX.out)) (by omega) (by omega)
                rw [hca] at hq
                clear hca
                have g0 := hcl j hjl 0 (by omega)
                rw [Nat.add_zero] at g0
                have g1 := hcl j hjl 1 (by omega)
                rw [← Nat.add_assoc] at g1
                have g2 := hcl j hjl 2 (by omega)
                rw [← Nat.add_assoc] at g2
                have g3 := hcl j hjl 3 (by omega)
                rw [← Nat.add_assoc] at g3
                clear hcl
                go_wp2_with (go_at_call 23; refine (zzAdd_any _ _ _ _).mono ?_; rintro e w' ⟨r, rfl, rfl⟩)
                go_roundg (mm.cn - (j + 1))
                case rel => exact ⟨j + 1, _, rfl, by omega, by go_num, rfl, HX.out.alloc (by have := HX.out.size; simpa using this) _⟩
                case measure =>
                  have := HGX.out
                  omega
              · go_wp2
                go_meet
                case rel => exact ⟨_, rfl, HX.out⟩
            · go_wp2
              go_meet
              case rel => exact ⟨_, rfl, HX.out⟩
        case rest =>
          obtain ⟨t1, rfl, hb1⟩ := hcut
          rename World => w1
          have HB1 : Hid (Below (wr.heap.size + 1) (wr.alloc (.cells #[.string mm.role, .string mm.content, .slice mm.ca mm.cn mm.cc, .string mm.id, .bool mm.failed, .slice mm.ta mm.tn mm.tc, .slice mm.pa mm.pn mm.pc, .string mm.prov] 38)) w1) := hb1
          clear hb1
          go_upto_block 4 with (go_at_call 23; refine (zzAdd_any _ _ _ _).mono ?_; rintro e w' ⟨r, rfl, rfl⟩)
          go_cut [1] (fun s w' => ∃ t : Int, s = .int .i64 t ∧ Below (wr.heap.size + 1) (wr.alloc (.cells #[.string mm.role, .string mm.content, .slice mm.ca mm.cn mm.cc, .string mm.id, .bool mm.failed, .slice mm.ta mm.tn mm.tc, .slice mm.pa mm.pn mm.pc, .string mm.prov] 38)) w')
          case first =>
            go_wp2_with fail
            go_loopg [1, 9] mm.tn (fun g s i wx => ∃ (j : Nat) (t : Int), g = mm.tn - j ∧ j ≤ mm.tn ∧ i = .int .i64 j ∧ s = .int .i64 t ∧ Below (wr.heap.size + 1) (wr.alloc (.cells #[.string mm.role, .string mm.content, .slice mm.ca mm.cn mm.cc, .string mm.id, .bool mm.failed, .slice mm.ta mm.tn mm.tc, .slice mm.pa mm.pn mm.pc, .string mm.prov] 38)) wx)
            case atStart => exact ⟨0, _, by omega, by omega, rfl, rfl, HB1.out⟩
            case round =>
              obtain ⟨j, tj, hg, hj, rfl, rfl, hbx⟩ := hrel
              rename World => wx
              have HGX : Hid (gk = mm.tn - j) := hg
              have HX : Hid (Below (wr.heap.size + 1) (wr.alloc (.cells #[.string mm.role, .string mm.content, .slice mm.ca mm.cn mm.cc, .string mm.id, .bool mm.failed, .slice mm.ta mm.tn mm.tc, .slice mm.pa mm.pn mm.pc, .string mm.prov] 38)) wx) := hbx
              clear hg hbx
              have hq : wx.cell? ⟨wr.heap.size, 5, none⟩ = some (.slice mm.ta mm.tn mm.tc) := (HX.out.cell (by simp)).trans (box_cell _ _ _ rfl)
              by_cases hjl : j < mm.tn
              · by_cases htj : tj ≤ 1048576
                · obtain ⟨cb, coff, hca, hcb, hcl⟩ := sin_some (HF.out.think.later (below_box HX.out)) (by omega) (by omega)
                  rw [hca] at hq
                  clear hca
                  have g0 := hcl j hjl 0 (by omega)
                  rw [Nat.add_zero] at g0
                  have g1 := hcl j hjl 1 (by omega)
                  rw [← Nat.add_assoc] at g1
                  have g2 := hcl j hjl 2 (by omega)
                  rw [← Nat.add_assoc] at g2
                  clear hcl
                  go_wp2_with (go_at_call 23; refine (zzAdd_any _ _ _ _).mono ?_; rintro e w' ⟨r, rfl, rfl⟩)
                  go_roundg (mm.tn - (j + 1))
                  case rel => exact ⟨j + 1, _, rfl, by omega, by go_num, rfl, HX.out.alloc (by have := HX.out.size; simpa using this) _⟩
                  case measure =>
                    have := HGX.out
                    omega
                · go_wp2
                  go_meet
                  case rel => exact ⟨_, rfl, HX.out⟩
              · go_wp2
                go_meet
                case rel => exact ⟨_, rfl, HX.out⟩
          case rest =>
            obtain ⟨t2, rfl, hb2⟩ := hcut
            rename World => w2
            have HB2 : Hid (Below (wr.heap.size + 1) (wr.alloc (.cells #[.string mm.role, .string mm.content, .slice mm.ca mm.cn mm.cc, .string mm.id, .bool mm.failed, .slice mm.ta mm.tn mm.tc, .slice mm.pa mm.pn mm.pc, .string mm.prov] 38)) w2) := hb2
            clear hb2
            go_upto_block 6 with (go_at_call 23; refine (zzAdd_any _ _ _ _).mono ?_; rintro e w' ⟨r, rfl, rfl⟩)
            go_wp2_with fail
            go_loopg [1, 11] mm.pn (fun g s i wx => ∃ (j : Nat) (t : Int), g = mm.pn - j ∧ j ≤ mm.pn ∧ i = .int .i64 j ∧ s = .int .i64 t ∧ Below (wr.heap.size + 1) (wr.alloc (.cells #[.string mm.role, .string mm.content, .slice mm.ca mm.cn mm.cc, .string mm.id, .bool mm.failed, .slice mm.ta mm.tn mm.tc, .slice mm.pa mm.pn mm.pc, .string mm.prov] 38)) wx)
            case atStart => exact ⟨0, _, by omega, by omega, rfl, rfl, HB2.out⟩
            case round =>
              obtain ⟨j, tj, hg, hj, rfl, rfl, hbx⟩ := hrel
              rename World => wx
              have HGX : Hid (gk = mm.pn - j) := hg
              have HX : Hid (Below (wr.heap.size + 1) (wr.alloc (.cells #[.string mm.role, .string mm.content, .slice mm.ca mm.cn mm.cc, .string mm.id, .bool mm.failed, .slice mm.ta mm.tn mm.tc, .slice mm.pa mm.pn mm.pc, .string mm.prov] 38)) wx) := hbx
              clear hg hbx
              have hq : wx.cell? ⟨wr.heap.size, 6, none⟩ = some (.slice mm.pa mm.pn mm.pc) := (HX.out.cell (by simp)).trans (box_cell _ _ _ rfl)
              by_cases hjl : j < mm.pn
              · by_cases htj : tj ≤ 1048576
                · obtain ⟨cb, coff, hca, hcb, hcl⟩ := sin_some (HF.out.parts.later (below_box HX.out)) (by omega) (by omega)
                  rw [hca] at hq
                  clear hca
                  have g0 := hcl j hjl 0 (by omega)
                  rw [Nat.add_zero] at g0
                  have g1 := hcl j hjl 1 (by omega)
                  rw [← Nat.add_assoc] at g1
                  clear hcl
                  go_wp2_with (go_at_call 23; refine (zzAdd_any _ _ _ _).mono ?_; rintro e w' ⟨r, rfl, rfl⟩)
                  go_roundg (mm.pn - (j + 1))
                  case rel => exact ⟨j + 1, _, rfl, by omega, by go_num, rfl, HX.out.alloc (by have := HX.out.size; simpa using this) _⟩
                  case measure =>
                    have := HGX.out
                    omega
                · go_wp2
                  go_roundg (n - (k + 1))
                  case rel => exact ⟨k + 1, _, rfl, by omega, by go_num, rfl, HB.out.trans ((below_box HX.out).mono HB.out.size)⟩
                  case measure =>
                    have := HG.out
                    omega
              · go_wp2
                go_roundg (n - (k + 1))
                case rel => exact ⟨k + 1, _, rfl, by omega, by go_num, rfl, HB.out.trans ((below_box HX.out).mono HB.out.size)⟩
                case measure =>
                  have := HG.out
                  omega

      · go_wp2
        go_ret
        exact someInt rfl HB.out
    · go_wp2
      go_ret
      exact someInt rfl HB.out

end Go.Proofs.Qxb6601521a
