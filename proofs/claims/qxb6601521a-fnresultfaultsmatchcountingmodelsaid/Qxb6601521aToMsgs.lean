/-
  THE WALK of 'zzToMessages' (laws_root_b1.go).
-/
import Derived.Test.Qxb6601521aMsgsB
import Derived.Deep.MidRow
import Derived.Lib.LazyBuf
namespace Go.Proofs.Qxb6601521a
open Go.RowKit
set_option linter.unusedVariables false

/-- 'make', elements of several cells. -/
theorem run_make_wide {P : Program} (t e : TypeId) (z : Value) (zc : Array Value) (size bytes : Nat) (ht : P.underlying t = some (.slice e)) (hinfo : (P.info? e).map (fun i => (i.zero, i.size, i.bytes)) = some (some z, size, bytes)) (hz1 : z.cells = zc)
    (kl kc : IntKind) (n : Nat) (hbytes : bytes * n ≤ 281474976710656) (h63 : n ≤ 9223372036854775807) (w : World) :
    (Instr.makeSlice t (.int kl (n : Int)) (.int kc (n : Int))).run P w = .ok (.slice (some ⟨w.heap.size, 0, none⟩) n n) (w.alloc (.cells (madeCells zc (n * size)) e)) := by
  obtain ⟨i, hi, hz, hsize, hb⟩ := info_parts hinfo
  have hb' : (i.bytes : Int) * (n : Int) ≤ 281474976710656 := by
    have h : ((i.bytes * n : Nat) : Int) ≤ 281474976710656 := by rw [hb]; omega
    rwa [Int.natCast_mul] at h
  have hr := run_make (P := P) w t e i z ht hi hz kl kc n n (by omega) (Int.le_refl _) hb' (by omega)
  simp only [Int.toNat_natCast, hsize, hz1] at hr
  exact hr

theorem one_strs4 (x y z u : ByteArray) : (#[Value.string x, .string y, .string z, .string u]).all (·.oneCell') = true := by simp [Value.oneCell']
theorem one_strs3 (x y z : ByteArray) : (#[Value.string x, .string y, .string z]).all (·.oneCell') = true := by simp [Value.oneCell']
theorem one_strs2 (x y : ByteArray) : (#[Value.string x, .string y]).all (·.oneCell') = true := by simp [Value.oneCell']
theorem one_msg (x y z u : ByteArray) (a1 a2 a3 : Option Addr) (n1 n2 n3 c1 c2 c3 : Nat) (b : Bool) : (#[Value.string x, .string y, .slice a1 n1 c1, .string z, .bool b, .slice a2 n2 c2, .slice a3 n3 c3, .string u]).all (·.oneCell') = true := by simp [Value.oneCell']
theorem there_made (w : World) (zc : Array Value) (n : Nat) (e : TypeId) : (w.alloc (.cells (madeCells zc n) e)).there w.heap.size 0 n := fun j hj => by
  have hb : (w.alloc (.cells (madeCells zc n) e)).heap[w.heap.size]? = some (.cells (madeCells zc n) e (0, 0)) := heap_alloc_new w _
  refine ⟨?_, ?_⟩
  · rw [cell_of_row _ w.heap.size (0 + j) _ e (0, 0) hb]
    have : 0 + j < (madeCells zc n).size := by rw [size_madeCells]; omega
    rw [Array.getElem?_eq_getElem this]
    rfl
  · exact frozen_of_row _ w.heap.size (0 + j) _ e hb

theorem there_made' {w : World} {zc : Array Value} {n b : Nat} {e : TypeId} (h : b = w.heap.size) : (w.alloc (.cells (madeCells zc n) e)).there b 0 n := by
  subst h
  exact there_made w zc n e

/-- Structs of strings that were copied: nil, or a block from lo on. -/
def SCl (w : World) (lo size : Nat) (a : Option Addr) (n : Nat) (s : Nat → Nat → ByteArray) : Prop :=
  (a = none ∧ n = 0) ∨ ∃ b, a = some ⟨b, 0, none⟩ ∧ lo ≤ b ∧ b < w.heap.size ∧ ∀ j, j < n → ∀ f, f < size → w.cell? ⟨b, j * size + f, none⟩ = some (.string (s j f))
theorem SCl.later {w w' : World} {lo size B : Nat} {a : Option Addr} {n : Nat} {s : Nat → Nat → ByteArray} (h : SCl w lo size a n s) (hB : w.heap.size ≤ B) (hb : Below B w w') : SCl w' lo size a n s := by
  rcases h with h | ⟨b, rfl, h1, h2, h⟩
  · exact .inl h
  · refine .inr ⟨b, rfl, h1, Nat.lt_of_lt_of_le h2 hb.size, fun j hj f hf => ?_⟩
    rw [hb.cell (by exact Nat.lt_of_lt_of_le h2 hB)]
    exact h j hj f hf
theorem SCl.low {w : World} {lo lo' size : Nat} {a : Option Addr} {n : Nat} {s : Nat → Nat → ByteArray} (h : SCl w lo size a n s) (hl : lo' ≤ lo) : SCl w lo' size a n s := by
  rcases h with h | ⟨b, rfl, h1, h2, h⟩
  · exact .inl h
  · exact .inr ⟨b, rfl, by omega, h2, h⟩
theorem SCl.store {w : World} {lo size : Nat} {a : Option Addr} {n : Nat} {s : Nat → Nat → ByteArray} (h : SCl w lo size a n s) {c : Nat} (hc : c < lo) (o : Nat) (vs : List Value) : SCl (w.setCells c o vs) lo size a n s := by
  rcases h with h | ⟨b, rfl, h1, h2, h⟩
  · exact .inl h
  · refine .inr ⟨b, rfl, h1, ?_, fun j hj f hf => ?_⟩
    · have := (below_setCells (B := 0) (b := c) (Nat.zero_le _) vs o w (Below.refl 0 w)).size
      omega
    · rw [World.cell?_setCells_out c vs o w ⟨b, j * size + f, none⟩ (fun hb _ => by simp at hb; omega)]
      exact h j hj f hf

/-- A message of the copy. -/
structure Out (w : World) (g i : Nat) (m : Msg) : Prop where
  f0 : w.cell? ⟨g, i * 8, none⟩ = some (.string m.role)
  f2 : ∃ A, w.cell? ⟨g, i * 8 + 2, none⟩ = some (.slice A m.cn m.cn) ∧ SCl w (g + 1) 4 A m.cn m.cs
  f3 : w.cell? ⟨g, i * 8 + 3, none⟩ = some (.string m.id)
theorem Out.later {w w' : World} {g i B : Nat} {m : Msg} (h : Out w g i m) (hB : w.heap.size ≤ B) (hb : Below B w w') : Out w' g i m := by
  have hg : g < B := by
    have := World.block_lt_of_cell? w _ h.f0
    simp at this
    omega
  obtain ⟨A, h2, h3⟩ := h.f2
  exact ⟨(hb.cell (by exact hg)).trans h.f0, ⟨A, (hb.cell (by exact hg)).trans h2, h3.later hB hb⟩, (hb.cell (by exact hg)).trans h.f3⟩
theorem Out.store {w : World} {g i : Nat} {m : Msg} (h : Out w g i m) {k : Nat} {vs : List Value} (hv : vs.length = 8) (hk : i < k) : Out (w.setCells g (k * 8) vs) g i m := by
  obtain ⟨A, h2, h3⟩ := h.f2
  refine ⟨?_, ⟨A, ?_, h3.store (by omega) _ _⟩, ?_⟩
  · rw [World.cell?_setCells_out g vs (k * 8) w ⟨g, i * 8, none⟩ (fun _ _ => by simp; omega)]; exact h.f0
  · rw [World.cell?_setCells_out g vs (k * 8) w ⟨g, i * 8 + 2, none⟩ (fun _ _ => by simp; omega)]; exact h2
  · rw [World.cell?_setCells_out g vs (k * 8) w ⟨g, i * 8 + 3, none⟩ (fun _ _ => by simp; omega)]; exact h.f3

theorem there_later {w w' : World} {b o n B : Nat} (h : w.there b o n) (hn : b < B) (hb : Below B w w') : w'.there b o n := fun j hj => by
  have := h j hj
  rw [hb.cell (by exact hn), hb.frozen (by exact hn)]
  exact this
theorem there_part {w : World} {b n o k : Nat} (h : w.there b 0 n) (hk : o + k ≤ n) : w.there b o k := fun j hj => by
  have := h (o + j) (by omega)
  simpa using this

/-- One element more is copied. -/
theorem fill_step {W wx : World} {B size n j : Nat} {T : Obj} {vs : List Value} (hb : Below B W wx) (hth : wx.there B 0 (n * size)) (hB : B ≤ wx.heap.size) (hvs : vs.length = size) (hj : j < n) :
    Below B W ((wx.alloc T).setCells B (j * size) vs) ∧ ((wx.alloc T).setCells B (j * size) vs).there B 0 (n * size) ∧ wx.heap.size ≤ ((wx.alloc T).setCells B (j * size) vs).heap.size ∧
    (∀ j', j' < j → ∀ f v, f < size → wx.cell? ⟨B, j' * size + f, none⟩ = some v → ((wx.alloc T).setCells B (j * size) vs).cell? ⟨B, j' * size + f, none⟩ = some v) ∧
    ∀ f (hf : f < vs.length), ((wx.alloc T).setCells B (j * size) vs).cell? ⟨B, j * size + f, none⟩ = some vs[f] := by
  have hal : Below B W (wx.alloc T) := hb.alloc hB T
  have hst := below_setCells (Nat.le_refl B) vs (j * size) _ hal
  have hin : j * size + size ≤ n * size := by
    have h1 := Nat.mul_le_mul_right size (show j + 1 ≤ n from hj)
    rw [Nat.succ_mul] at h1
    exact h1
  refine ⟨hst, World.there_setCells (World.there_alloc hth T) _ _ _, ?_, fun j' hj' f v hf hv => ?_, fun f hf => ?_⟩
  · have h1 := (below_setCells (B := 0) (b := B) (Nat.zero_le _) vs (j * size) (wx.alloc T) ((Below.refl 0 wx).alloc (Nat.zero_le _) T)).size
    exact h1
  · have h1 := Nat.mul_le_mul_right size (show j' + 1 ≤ j from hj')
    rw [Nat.succ_mul] at h1
    rw [World.cell?_setCells_out B vs (j * size) _ ⟨B, j' * size + f, none⟩ (fun _ _ => by left; show j' * size + f < j * size; omega), World.cell?_alloc_lt _ _ _ (World.block_lt_of_cell? wx _ hv)]
    exact hv
  · refine World.cell?_setCells_in B vs (j * size) _ (fun i hi => ?_) f hf
    have := (there_part (World.there_alloc hth T) (o := j * size) (k := size) hin i (by omega)).1
    exact this

theorem fill_all4 {w : World} {B j : Nat} {s : Nat → Nat → ByteArray} (h : ∀ j', j' < j → ∀ f, f < 4 → w.cell? ⟨B, j' * 4 + f, none⟩ = some (.string (s j' f))) (h0 : w.cell? ⟨B, j * 4 + 0, none⟩ = some (.string (s j 0))) (h1 : w.cell? ⟨B, j * 4 + 1, none⟩ = some (.string (s j 1))) (h2 : w.cell? ⟨B, j * 4 + 2, none⟩ = some (.string (s j 2))) (h3 : w.cell? ⟨B, j * 4 + 3, none⟩ = some (.string (s j 3))) :
    ∀ j', j' < j + 1 → ∀ f, f < 4 → w.cell? ⟨B, j' * 4 + f, none⟩ = some (.string (s j' f)) := fun j' hj' f hf => by
  by_cases e : j' = j
  · subst e
    rcases f with _ | _ | _ | _ | f
    · exact h0
    · exact h1
    · exact h2
    · exact h3
    · omega
  · exact h j' (by omega) f hf

theorem Try.info73 : (Try.prog.info? 73).map (fun i => (i.zero, i.size, i.bytes)) = some (some (.agg #[.string ByteArray.empty, .string ByteArray.empty, .slice none 0 0, .string ByteArray.empty, .bool false, .slice none 0 0, .slice none 0 0, .string ByteArray.empty]), 8, 144) := by kernel_rfl
theorem Try.info64 : (Try.prog.info? 64).map (fun i => (i.zero, i.size, i.bytes)) = some (some (.agg #[.string ByteArray.empty, .string ByteArray.empty, .string ByteArray.empty, .string ByteArray.empty]), 4, 64) := by kernel_rfl
theorem Try.info67 : (Try.prog.info? 67).map (fun i => (i.zero, i.size, i.bytes)) = some (some (.agg #[.string ByteArray.empty, .string ByteArray.empty, .string ByteArray.empty]), 3, 48) := by kernel_rfl
theorem Try.info70 : (Try.prog.info? 70).map (fun i => (i.zero, i.size, i.bytes)) = some (some (.agg #[.string ByteArray.empty, .string ByteArray.empty]), 2, 32) := by kernel_rfl
theorem Try.size73 : (Try.prog.info? 73).map (·.size) = some 8 := by kernel_rfl
theorem Try.size64 : (Try.prog.info? 64).map (·.size) = some 4 := by kernel_rfl
theorem Try.size67 : (Try.prog.info? 67).map (·.size) = some 3 := by kernel_rfl
theorem Try.size70 : (Try.prog.info? 70).map (·.size) = some 2 := by kernel_rfl

set_option maxRecDepth 100000 in
set_option maxHeartbeats 40000000 in
theorem toMsgs_some (b off n cap : Nat) (M : Nat → Msg) (hsm : Small n M) (w : World) (h : ∀ i, i < n → Fields w ⟨b, off, none⟩ i (M i)) :
    Calls Try.prog 13 #[.slice (some ⟨b, off, none⟩) n cap] w fun e w' => e = .returned (.slice (some ⟨w.heap.size, 0, none⟩) n n) ∧ Below w.heap.size w w' ∧ ∀ i, i < n → Out w' w.heap.size i (M i) := by
  have HI : Hid ((∀ i, i < n → Fields w ⟨b, off, none⟩ i (M i)) ∧ Small n M) := ⟨h, hsm⟩
  have hn := hsm.1
  clear h hsm
  have hnil := fun w => Lib.run_eql_slice_nil (P := Try.prog) w 22 38 (some ⟨b, off, none⟩) n cap 0 0 Try.underlying22
  have hmk := run_make_wide (P := Try.prog) 29 73 _ _ 8 144 Try.underlying29 Try.info73 rfl .i64 .i64 n (by omega) (by omega)
  go_enter Try.func13, Try.ntmps13
  go_wp2
  clear hnil hmk
  go_loopg [4] n (fun g i wr => ∃ (k : Nat), g = n - k ∧ k ≤ n ∧ i = .int .i64 k ∧ Below w.heap.size w wr ∧ wr.there w.heap.size 0 (n * 8) ∧ ∀ r, r < k → Out wr w.heap.size r (M r))
  case atStart => exact ⟨0, by omega, by omega, rfl, (Below.refl _ _).alloc (Nat.le_refl _) _, there_made _ _ _ _, fun r hr => by omega⟩
  case round =>
    obtain ⟨k, hg, hk, rfl, hbel, hth, hout⟩ := hrel
    have HG : Hid (gk = n - k) := hg
    have HB : Hid (Below w.heap.size w wr ∧ wr.there w.heap.size 0 (n * 8) ∧ ∀ r, r < k → Out wr w.heap.size r (M r)) := ⟨hbel, hth, hout⟩
    clear hg hbel hth hout
    by_cases hlt : k < n
    · have HF0 : Fields wr ⟨b, off, none⟩ k (M k) := (HI.out.1 k hlt).later HB.out.1
      have hsm := HI.out.2.2 k hlt
      obtain ⟨mm, hmm⟩ : ∃ mm, mm = M k := ⟨_, rfl⟩
      have HMM : Hid (mm = M k) := hmm
      rw [← hmm] at HF0 hsm
      clear hmm
      obtain ⟨hcn, htn, hpn⟩ := hsm
      have HF : Hid (Fields wr ⟨b, off, none⟩ k mm) := HF0
      have q0 := HF0.f0
      have q1 := HF0.f1
      have q2 := HF0.f2
      have q3 := HF0.f3
      have q4 := HF0.f4
      have q5 := HF0.f5
      have q6 := HF0.f6
      have q7 := HF0.f7
      clear HF0
      rw [Addr.add_lit] at q0 q1 q2 q3 q4 q5 q6 q7
      rw [← Nat.add_assoc] at q1 q2 q3 q4 q5 q6 q7
      have hn2 := fun w => run_neq_slice_nil_any (P := Try.prog) w 34 52 mm.ca mm.cn mm.cc 0 0 Try.underlying34
      have hb2 : World.cell? (wr.alloc (.cells #[.string mm.role, .string mm.content, .slice mm.ca mm.cn mm.cc, .string mm.id, .bool mm.failed, .slice mm.ta mm.tn mm.tc, .slice mm.pa mm.pn mm.pc, .string mm.prov] 38)) ⟨wr.heap.size, 2, none⟩ = some (.slice mm.ca mm.cn mm.cc) := box_cell _ _ _ rfl
      go_upto_if 32 with fail
      go_cut [6] (fun v wx => ∃ A, v = .slice A mm.cn mm.cn ∧ SCl wx (wr.heap.size + 1) 4 A mm.cn mm.cs ∧ Below (wr.heap.size + 1) (wr.alloc (.cells #[.string mm.role, .string mm.content, .slice mm.ca mm.cn mm.cc, .string mm.id, .bool mm.failed, .slice mm.ta mm.tn mm.tc, .slice mm.pa mm.pn mm.pc, .string mm.prov] 38)) wx)
      case first =>
        clear hn2
        rcases Option.eq_none_or_eq_some mm.ca with hca | ⟨cx, hca⟩
        · have hz : mm.ca.isSome = false := by rw [hca]; rfl
          have hc0 : mm.cn = 0 := by
            rcases HF.out.calls with ⟨_, h, _⟩ | ⟨x, h, _⟩
            · exact h
            · rw [hca] at h; cases h
          have HC0 : Hid (mm.cn = 0) := hc0
          rw [hz]
          clear hca hz hc0
          go_wp2
          go_meet
          case rel => exact ⟨none, by rw [HC0.out], (show SCl _ _ _ _ _ _ from .inl ⟨rfl, HC0.out⟩), Below.refl _ _⟩
        · have hz : mm.ca.isSome = true := by rw [hca]; rfl
          rw [hz]
          clear hz hca cx
          have hmk := run_make_wide (P := Try.prog) 62 64 _ _ 4 64 Try.underlying62 Try.info64 rfl .i64 .i64 mm.cn (by omega) (by omega)
          go_wp2
          clear hmk
          go_loopg [7] mm.cn (fun g i wx => ∃ (j : Nat), g = mm.cn - j ∧ j ≤ mm.cn ∧ i = .int .i64 j ∧ Below (wr.heap.size + 1) (wr.alloc (.cells #[.string mm.role, .string mm.content, .slice mm.ca mm.cn mm.cc, .string mm.id, .bool mm.failed, .slice mm.ta mm.tn mm.tc, .slice mm.pa mm.pn mm.pc, .string mm.prov] 38)) wx ∧ wx.there (wr.heap.size + 1) 0 (mm.cn * 4) ∧ wr.heap.size + 1 < wx.heap.size ∧ ∀ j', j' < j → ∀ f, f < 4 → wx.cell? ⟨wr.heap.size + 1, j' * 4 + f, none⟩ = some (.string (mm.cs j' f)))
          case atStart => exact ⟨0, by omega, by omega, rfl, (Below.refl _ _).alloc (by simp) _, there_made' (by simp), by simp, fun j' hj' => by omega⟩
          case round =>
            obtain ⟨j, hg, hj, rfl, hbx, hth, hlo, hkp⟩ := hrel
            rename World => wx
            have HGX : Hid (gk = mm.cn - j) := hg
            have HX : Hid (Below (wr.heap.size + 1) (wr.alloc (.cells #[.string mm.role, .string mm.content, .slice mm.ca mm.cn mm.cc, .string mm.id, .bool mm.failed, .slice mm.ta mm.tn mm.tc, .slice mm.pa mm.pn mm.pc, .string mm.prov] 38)) wx ∧ wx.there (wr.heap.size + 1) 0 (mm.cn * 4) ∧ wr.heap.size + 1 < wx.heap.size ∧ ∀ j', j' < j → ∀ f, f < 4 → wx.cell? ⟨wr.heap.size + 1, j' * 4 + f, none⟩ = some (.string (mm.cs j' f))) := ⟨hbx, hth, hlo, hkp⟩
            clear hg hbx hth hlo hkp
            have hq : wx.cell? ⟨wr.heap.size, 2, none⟩ = some (.slice mm.ca mm.cn mm.cc) := (HX.out.1.cell (by simp)).trans hb2
            by_cases hjl : j < mm.cn
            · obtain ⟨cb, coff, hca, hcb, hcl⟩ := sin_some ((HF.out.calls.later ((Below.refl _ _).alloc (Nat.le_refl _) _)).later (HX.out.1.mono (by simp))) (by omega) (by omega)
              rw [hca] at hq
              clear hca
              have g0 := hcl j hjl 0 (by omega)
              rw [Nat.add_zero] at g0
              have g1 := hcl j hjl 1 (by omega)
              rw [← Nat.add_assoc] at g1
              have g2 := hcl j hjl 2 (by omega)
              rw [← Nat.add_assoc] at g2
              have g3 := hcl j hjl 3 (by omega)
              rw [← Nat.add_assoc] at g3
              clear hcl
              have ht : (wx.alloc (.cells #[.string (mm.cs j 0), .string (mm.cs j 1), .string (mm.cs j 2), .string (mm.cs j 3)] 52)).there (wr.heap.size + 1) (j * 4) 4 := there_part (World.there_alloc HX.out.2.1 _) (by omega)
              have HT : Hid ((wx.alloc (.cells #[.string (mm.cs j 0), .string (mm.cs j 1), .string (mm.cs j 2), .string (mm.cs j 3)] 52)).there (wr.heap.size + 1) (j * 4) 4) := ht
              clear ht
              go_wp2_with (refine wpList_store_mid rfl 64 _ _ rfl (wr.heap.size + 1) (j * 4) #[.string (mm.cs j 0), .string (mm.cs j 1), .string (mm.cs j 2), .string (mm.cs j 3)] rfl rfl HT.out Try.size64 (one_strs4 _ _ _ _) ?_; generalize HW : World.setCells (wx.alloc (.cells #[.string (mm.cs j 0), .string (mm.cs j 1), .string (mm.cs j 2), .string (mm.cs j 3)] 52)) (wr.heap.size + 1) (j * 4) (#[.string (mm.cs j 0), .string (mm.cs j 1), .string (mm.cs j 2), .string (mm.cs j 3)] : Array Value).toList = wy; have HWY : Hid (World.setCells (wx.alloc (.cells #[.string (mm.cs j 0), .string (mm.cs j 1), .string (mm.cs j 2), .string (mm.cs j 3)] 52)) (wr.heap.size + 1) (j * 4) (#[.string (mm.cs j 0), .string (mm.cs j 1), .string (mm.cs j 2), .string (mm.cs j 3)] : Array Value).toList = wy) := HW; clear HW)
              go_roundg (mm.cn - (j + 1))
              case rel =>
                have hfs := fill_step (T := (.cells #[.string (mm.cs j 0), .string (mm.cs j 1), .string (mm.cs j 2), .string (mm.cs j 3)] 52)) (vs := (#[.string (mm.cs j 0), .string (mm.cs j 1), .string (mm.cs j 2), .string (mm.cs j 3)] : Array Value).toList) HX.out.1 HX.out.2.1 (by have := HX.out.1.size; simp at this; omega) rfl hjl
                rw [HWY.out] at hfs
                exact ⟨j + 1, rfl, by omega, by go_num, hfs.1, hfs.2.1, Nat.lt_of_lt_of_le HX.out.2.2.1 hfs.2.2.1, fill_all4 (fun j' hj' f hf => hfs.2.2.2.1 j' hj' f _ hf (HX.out.2.2.2 j' hj' f hf)) (hfs.2.2.2.2 0 (by simp)) (hfs.2.2.2.2 1 (by simp)) (hfs.2.2.2.2 2 (by simp)) (hfs.2.2.2.2 3 (by simp))⟩
              case measure =>
                have := HGX.out
                omega
            · have HJ : Hid (j = mm.cn) := by simp [Hid]; omega
              go_wp2
              go_meet
              case rel => exact ⟨_, rfl, (show SCl _ _ _ _ _ _ from .inr ⟨_, rfl, Nat.le_refl _, HX.out.2.2.1, fun j' hj' f hf => HX.out.2.2.2 j' (by have := HJ.out; omega) f hf⟩), HX.out.1⟩
      case rest =>
        obtain ⟨A, rfl, hA, hb2⟩ := hcut
        rename World => w2
        have HB2 : Hid (SCl w2 (wr.heap.size + 1) 4 A mm.cn mm.cs ∧ Below (wr.heap.size + 1) (wr.alloc (.cells #[.string mm.role, .string mm.content, .slice mm.ca mm.cn mm.cc, .string mm.id, .bool mm.failed, .slice mm.ta mm.tn mm.tc, .slice mm.pa mm.pn mm.pc, .string mm.prov] 38)) w2) := ⟨hA, hb2⟩
        clear hA hb2
        have hlt2 : wr.heap.size < w2.heap.size := by have := HB2.out.2.size; simp at this; omega
        have hn5 := fun w => run_neq_slice_nil_any (P := Try.prog) w 35 54 mm.ta mm.tn mm.tc 0 0 Try.underlying35
        have hb5 : World.cell? (w2) ⟨wr.heap.size, 5, none⟩ = some (.slice mm.ta mm.tn mm.tc) := (HB2.out.2.cell (by simp)).trans (box_cell _ _ _ rfl)
        go_upto_if 63 with fail
        go_cut [9] (fun v wx => ∃ A, v = .slice A mm.tn mm.tn ∧ Below (w2.heap.size) (w2) wx)
        case first =>
          clear hn5
          rcases Option.eq_none_or_eq_some mm.ta with hca | ⟨cx, hca⟩
          · have hz : mm.ta.isSome = false := by rw [hca]; rfl
            have hc0 : mm.tn = 0 := by
              rcases HF.out.think with ⟨_, h, _⟩ | ⟨x, h, _⟩
              · exact h
              · rw [hca] at h; cases h
            have HC0 : Hid (mm.tn = 0) := hc0
            rw [hz]
            clear hca hz hc0
            go_wp2
            go_meet
            case rel => exact ⟨none, by rw [HC0.out], Below.refl _ _⟩
          · have hz : mm.ta.isSome = true := by rw [hca]; rfl
            rw [hz]
            clear hz hca cx
            have hmk := run_make_wide (P := Try.prog) 65 67 _ _ 3 48 Try.underlying65 Try.info67 rfl .i64 .i64 mm.tn (by omega) (by omega)
            go_wp2
            clear hmk
            go_loopg [10] mm.tn (fun g i wx => ∃ (j : Nat), g = mm.tn - j ∧ j ≤ mm.tn ∧ i = .int .i64 j ∧ Below (w2.heap.size) (w2) wx ∧ wx.there (w2.heap.size) 0 (mm.tn * 3))
            case atStart => exact ⟨0, by omega, by omega, rfl, (Below.refl _ _).alloc (Nat.le_refl _) _, there_made' (by simp)⟩
            case round =>
              obtain ⟨j, hg, hj, rfl, hbx, hth⟩ := hrel
              rename World => wx
              have HGX : Hid (gk = mm.tn - j) := hg
              have HX : Hid (Below (w2.heap.size) (w2) wx ∧ wx.there (w2.heap.size) 0 (mm.tn * 3)) := ⟨hbx, hth⟩
              clear hg hbx hth 
              have hq : wx.cell? ⟨wr.heap.size, 5, none⟩ = some (.slice mm.ta mm.tn mm.tc) := (HX.out.1.cell (by exact hlt2)).trans hb5
              by_cases hjl : j < mm.tn
              · obtain ⟨cb, coff, hca, hcb, hcl⟩ := sin_some ((HF.out.think.later (below_box HB2.out.2)).later (HX.out.1.mono (Nat.le_refl _))) (by omega) (by omega)
                rw [hca] at hq
                clear hca
                have g0 := hcl j hjl 0 (by omega)
                rw [Nat.add_zero] at g0
                have g1 := hcl j hjl 1 (by omega)
                rw [← Nat.add_assoc] at g1
                have g2 := hcl j hjl 2 (by omega)
                rw [← Nat.add_assoc] at g2
                clear hcl
                have ht : (wx.alloc (.cells #[.string (mm.ts j 0), .string (mm.ts j 1), .string (mm.ts j 2)] 54)).there (w2.heap.size) (j * 3) 3 := there_part (World.there_alloc HX.out.2 _) (by omega)
                have HT : Hid ((wx.alloc (.cells #[.string (mm.ts j 0), .string (mm.ts j 1), .string (mm.ts j 2)] 54)).there (w2.heap.size) (j * 3) 3) := ht
                clear ht
                go_wp2_with (refine wpList_store_mid rfl 67 _ _ rfl (w2.heap.size) (j * 3) #[.string (mm.ts j 0), .string (mm.ts j 1), .string (mm.ts j 2)] rfl rfl HT.out Try.size67 (one_strs3 _ _ _) ?_; generalize HW : World.setCells (wx.alloc (.cells #[.string (mm.ts j 0), .string (mm.ts j 1), .string (mm.ts j 2)] 54)) (w2.heap.size) (j * 3) (#[.string (mm.ts j 0), .string (mm.ts j 1), .string (mm.ts j 2)] : Array Value).toList = wy; have HWY : Hid (World.setCells (wx.alloc (.cells #[.string (mm.ts j 0), .string (mm.ts j 1), .string (mm.ts j 2)] 54)) (w2.heap.size) (j * 3) (#[.string (mm.ts j 0), .string (mm.ts j 1), .string (mm.ts j 2)] : Array Value).toList = wy) := HW; clear HW)
                go_roundg (mm.tn - (j + 1))
                case rel =>
                  have hfs := fill_step (T := (.cells #[.string (mm.ts j 0), .string (mm.ts j 1), .string (mm.ts j 2)] 54)) (vs := (#[.string (mm.ts j 0), .string (mm.ts j 1), .string (mm.ts j 2)] : Array Value).toList) HX.out.1 HX.out.2 (by have := HX.out.1.size; exact this) rfl hjl
                  rw [HWY.out] at hfs
                  exact ⟨j + 1, rfl, by omega, by go_num, hfs.1, hfs.2.1⟩
                case measure =>
                  have := HGX.out
                  omega
              · have HJ : Hid (j = mm.tn) := by simp [Hid]; omega
                go_wp2
                go_meet
                case rel => exact ⟨_, rfl, HX.out.1⟩
        case rest =>
          obtain ⟨A2, rfl, hb3⟩ := hcut
          rename World => w3
          have HB3 : Hid (Below w2.heap.size w2 w3) := hb3
          clear hb3
          have hlt3 : wr.heap.size < w3.heap.size := Nat.lt_of_lt_of_le hlt2 HB3.out.size
          have hn6 := fun w => run_neq_slice_nil_any (P := Try.prog) w 36 56 mm.pa mm.pn mm.pc 0 0 Try.underlying36
          have hb6 : World.cell? (w3) ⟨wr.heap.size, 6, none⟩ = some (.slice mm.pa mm.pn mm.pc) := (HB3.out.cell (by exact hlt2)).trans ((HB2.out.2.cell (by simp)).trans (box_cell _ _ _ rfl))
          go_upto_if 92 with fail
          go_cut [12] (fun v wx => ∃ A, v = .slice A mm.pn mm.pn ∧ Below (w3.heap.size) (w3) wx)
          case first =>
            clear hn6
            rcases Option.eq_none_or_eq_some mm.pa with hca | ⟨cx, hca⟩
            · have hz : mm.pa.isSome = false := by rw [hca]; rfl
              have hc0 : mm.pn = 0 := by
                rcases HF.out.parts with ⟨_, h, _⟩ | ⟨x, h, _⟩
                · exact h
                · rw [hca] at h; cases h
              have HC0 : Hid (mm.pn = 0) := hc0
              rw [hz]
              clear hca hz hc0
              go_wp2
              go_meet
              case rel => exact ⟨none, by rw [HC0.out], Below.refl _ _⟩
            · have hz : mm.pa.isSome = true := by rw [hca]; rfl
              rw [hz]
              clear hz hca cx
              have hmk := run_make_wide (P := Try.prog) 68 70 _ _ 2 32 Try.underlying68 Try.info70 rfl .i64 .i64 mm.pn (by omega) (by omega)
              go_wp2
              clear hmk
              go_loopg [13] mm.pn (fun g i wx => ∃ (j : Nat), g = mm.pn - j ∧ j ≤ mm.pn ∧ i = .int .i64 j ∧ Below (w3.heap.size) (w3) wx ∧ wx.there (w3.heap.size) 0 (mm.pn * 2))
              case atStart => exact ⟨0, by omega, by omega, rfl, (Below.refl _ _).alloc (Nat.le_refl _) _, there_made' (by simp)⟩
              case round =>
                obtain ⟨j, hg, hj, rfl, hbx, hth⟩ := hrel
                rename World => wx
                have HGX : Hid (gk = mm.pn - j) := hg
                have HX : Hid (Below (w3.heap.size) (w3) wx ∧ wx.there (w3.heap.size) 0 (mm.pn * 2)) := ⟨hbx, hth⟩
                clear hg hbx hth 
                have hq : wx.cell? ⟨wr.heap.size, 6, none⟩ = some (.slice mm.pa mm.pn mm.pc) := (HX.out.1.cell (by exact hlt3)).trans hb6
                by_cases hjl : j < mm.pn
                · obtain ⟨cb, coff, hca, hcb, hcl⟩ := sin_some ((HF.out.parts.later (below_box (HB2.out.2.trans (HB3.out.mono hlt2)))).later (HX.out.1.mono (Nat.le_refl _))) (by omega) (by omega)
                  rw [hca] at hq
                  clear hca
                  have g0 := hcl j hjl 0 (by omega)
                  rw [Nat.add_zero] at g0
                  have g1 := hcl j hjl 1 (by omega)
                  rw [← Nat.add_assoc] at g1
                  clear hcl
                  have ht : (wx.alloc (.cells #[.string (mm.ps j 0), .string (mm.ps j 1)] 56)).there (w3.heap.size) (j * 2) 2 := there_part (World.there_alloc HX.out.2 _) (by omega)
                  have HT : Hid ((wx.alloc (.cells #[.string (mm.ps j 0), .string (mm.ps j 1)] 56)).there (w3.heap.size) (j * 2) 2) := ht
                  clear ht
                  go_wp2_with (refine wpList_store_mid rfl 70 _ _ rfl (w3.heap.size) (j * 2) #[.string (mm.ps j 0), .string (mm.ps j 1)] rfl rfl HT.out Try.size70 (one_strs2 _ _) ?_; generalize HW : World.setCells (wx.alloc (.cells #[.string (mm.ps j 0), .string (mm.ps j 1)] 56)) (w3.heap.size) (j * 2) (#[.string (mm.ps j 0), .string (mm.ps j 1)] : Array Value).toList = wy; have HWY : Hid (World.setCells (wx.alloc (.cells #[.string (mm.ps j 0), .string (mm.ps j 1)] 56)) (w3.heap.size) (j * 2) (#[.string (mm.ps j 0), .string (mm.ps j 1)] : Array Value).toList = wy) := HW; clear HW)
                  go_roundg (mm.pn - (j + 1))
                  case rel =>
                    have hfs := fill_step (T := (.cells #[.string (mm.ps j 0), .string (mm.ps j 1)] 56)) (vs := (#[.string (mm.ps j 0), .string (mm.ps j 1)] : Array Value).toList) HX.out.1 HX.out.2 (by have := HX.out.1.size; exact this) rfl hjl
                    rw [HWY.out] at hfs
                    exact ⟨j + 1, rfl, by omega, by go_num, hfs.1, hfs.2.1⟩
                  case measure =>
                    have := HGX.out
                    omega
                · have HJ : Hid (j = mm.pn) := by simp [Hid]; omega
                  go_wp2
                  go_meet
                  case rel => exact ⟨_, rfl, HX.out.1⟩
          case rest =>
            obtain ⟨A3, rfl, hb4⟩ := hcut
            rename World => w4
            have HZ : Hid (Below (wr.heap.size + 1) (wr.alloc (.cells #[.string mm.role, .string mm.content, .slice mm.ca mm.cn mm.cc, .string mm.id, .bool mm.failed, .slice mm.ta mm.tn mm.tc, .slice mm.pa mm.pn mm.pc, .string mm.prov] 38)) w4) := (HB2.out.2.trans (HB3.out.mono hlt2)).trans (hb4.mono (Nat.le_trans hlt2 HB3.out.size))
            have HB4 : Hid (Below w3.heap.size w3 w4) := hb4
            clear hb4
            have hx0 : w4.cell? ⟨wr.heap.size, 0, none⟩ = some (.string mm.role) := (HZ.out.cell (by simp)).trans (box_cell _ _ _ rfl)
            have hx1 : w4.cell? ⟨wr.heap.size, 1, none⟩ = some (.string mm.content) := (HZ.out.cell (by simp)).trans (box_cell _ _ _ rfl)
            have hx3 : w4.cell? ⟨wr.heap.size, 3, none⟩ = some (.string mm.id) := (HZ.out.cell (by simp)).trans (box_cell _ _ _ rfl)
            have hx4 : w4.cell? ⟨wr.heap.size, 4, none⟩ = some (.bool mm.failed) := (HZ.out.cell (by simp)).trans (box_cell _ _ _ rfl)
            have hx7 : w4.cell? ⟨wr.heap.size, 7, none⟩ = some (.string mm.prov) := (HZ.out.cell (by simp)).trans (box_cell _ _ _ rfl)
            have hNr : w.heap.size < wr.heap.size := by
              obtain ⟨u, hu⟩ := Option.isSome_iff_exists.1 (HB.out.2.1 0 (by omega)).1
              exact World.block_lt_of_cell? wr _ hu
            have HT : Hid (w4.there w.heap.size (k * 8) 8) := there_part (there_later HB.out.2.1 hNr (below_box HZ.out)) (by omega)
            go_wp2_with (refine wpList_store_mid rfl 73 _ _ rfl w.heap.size (k * 8) #[.string mm.role, .string mm.content, .slice A mm.cn mm.cn, .string mm.id, .bool mm.failed, .slice A2 mm.tn mm.tn, .slice A3 mm.pn mm.pn, .string mm.prov] rfl rfl HT.out Try.size73 (one_msg _ _ _ _ _ _ _ _ _ _ _ _ _ _) ?_; generalize HW : World.setCells w4 w.heap.size (k * 8) (#[.string mm.role, .string mm.content, .slice A mm.cn mm.cn, .string mm.id, .bool mm.failed, .slice A2 mm.tn mm.tn, .slice A3 mm.pn mm.pn, .string mm.prov] : Array Value).toList = wy; have HWY : Hid (World.setCells w4 w.heap.size (k * 8) (#[.string mm.role, .string mm.content, .slice A mm.cn mm.cn, .string mm.id, .bool mm.failed, .slice A2 mm.tn mm.tn, .slice A3 mm.pn mm.pn, .string mm.prov] : Array Value).toList = wy) := HW; clear HW)
            go_roundg (n - (k + 1))
            case rel =>
              have hbw : Below wr.heap.size wr w4 := below_box HZ.out
              have hSA : SCl w4 (w.heap.size + 1) 4 A mm.cn mm.cs := ((HB2.out.1.low (by omega)).later (Nat.le_refl _) HB3.out).later (Nat.le_refl _) HB4.out
              rw [← HWY.out]
              refine ⟨k + 1, rfl, by omega, by go_num, below_setCells (Nat.le_refl _) _ _ _ (HB.out.1.trans (hbw.mono HB.out.1.size)), World.there_setCells (there_later HB.out.2.1 hNr hbw) _ _ _, fun r hr => ?_⟩
              by_cases e : r = k
              · subst e
                rw [← HMM.out]
                have hin := World.cell?_setCells_in w.heap.size (#[.string mm.role, .string mm.content, .slice A mm.cn mm.cn, .string mm.id, .bool mm.failed, .slice A2 mm.tn mm.tn, .slice A3 mm.pn mm.pn, .string mm.prov] : Array Value).toList (r * 8) w4 (fun i hi => (HT.out i (by simpa using hi)).1)
                exact ⟨hin 0 (by simp), ⟨A, hin 2 (by simp), hSA.store (by omega) _ _⟩, hin 3 (by simp)⟩
              · exact ((HB.out.2.2 r (by omega)).later (Nat.le_refl _) hbw).store (by simp) (by omega)
            case measure =>
              have := HG.out
              omega
    · have HN : Hid (k = n) := by simp [Hid]; omega
      go_wp2
      go_ret
      exact ⟨rfl, HB.out.1, fun i hi => HB.out.2.2 i (by have := HN.out; omega)⟩

end Go.Proofs.Qxb6601521a
