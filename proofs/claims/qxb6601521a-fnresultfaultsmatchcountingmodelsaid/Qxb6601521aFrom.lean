/-
  THE WALKS of ZZResultFaults, ZZFaultParts (zzexport.go), zzFromFaults, zzIsTool, zzAllTools (laws_root_b1.go).
-/
import Derived.Test.Qxb6601521aRes
import Derived.Test.Qxb6601521aPlain
import Derived.Deep.QuietTactic
import Derived.BigQuiet
namespace Go.Proofs.Qxb6601521a
open Go.RowKit
set_option linter.unusedVariables false

set_option maxHeartbeats 1000000 in
theorem zzResF (fv0 : Value) (n0 : Nat) (xs0 : List Value) (g n q : Nat) (M : Nat → Msg) (hsm : Small n M) (hn0 : n0 ≤ 1048576) (hq : q < n) (w : World) (hown : w.ownsRow 0 61 4 fv0 n0 xs0) (hf : ∀ f, fv0.ownBlock = some f → f < g) (hout : ∀ i, i < n → Out w g i (M i)) :
    Calls Try.prog 24 #[fv0, .slice (some ⟨g, 0, none⟩) n n, .int .i64 (q : Int)] w fun e w' => RFPost e w w' fv0 n0 xs0 n q M := by
  have HO : Hid (Small n M ∧ w.ownsRow 0 61 4 fv0 n0 xs0 ∧ (∀ f, fv0.ownBlock = some f → f < g) ∧ (∀ i, i < n → Out w g i (M i))) := ⟨hsm, hown, hf, hout⟩
  clear hsm hown hf hout
  go_enter Try.func24, Try.ntmps24
  go_wp2_with fail
  refine (resF fv0 n0 xs0 g n q M HO.out.1 hn0 hq w HO.out.2.1 HO.out.2.2.1 HO.out.2.2.2).mono ?_
  rintro e w' ⟨fv, K, ans, rfl, h⟩
  have H : Hid (q + 1 + K ≤ n ∧ (q + 1 + K < n → (M (q + 1 + K)).role ≠ toolB) ∧ (∀ k', k' < K → (M (q + 1 + k')).role = toolB) ∧
    Marks (Cof M q) (Iof M q) (M q).cn K ans ∧ trues ans (M q).cn + (exE (Cof M q) (Iof M q) (M q).cn q K).length = K ∧
    Base w w' fv0 fv n0 xs0 (M q).cn ans (exE (Cof M q) (Iof M q) (M q).cn q K ++ misE ans ((q + 1 + K : Nat) : Int) q (M q).cn)) := h
  clear h
  go_wp2
  go_ret2
  exact ⟨fv, K, ans, rfl, H.out⟩

theorem results_tmp4 {fn : Func} {t u v x : Tmp} (h : fn.results = #[.tmp t, .tmp u, .tmp v, .tmp x]) (tmps : Array Value) (P : Program) (w : World) :
    (results fn tmps).run P w = .ok (.tuple #[tmps.getD t undef, tmps.getD u undef, tmps.getD v undef, tmps.getD x undef]) w := by
  simp [results, h]

set_option maxHeartbeats 1000000 in
theorem parts_any (k a q c : Int) (w : World) :
    Calls Try.prog 31 #[.agg #[.int .i64 k, .int .i64 a, .int .i64 q, .int .i64 c]] w fun e w' => e = .returned (.tuple #[.int .i64 k, .int .i64 a, .int .i64 q, .int .i64 c]) ∧ Below w.heap.size w w' := by
  have HB : Hid (Below w.heap.size w (w.alloc (.cells #[.int .i64 k, .int .i64 a, .int .i64 q, .int .i64 c] 61)).drew) := ((Below.refl _ _).alloc (Nat.le_refl _) _).drew
  go_enter Try.func31, Try.ntmps31
  go_wp2
  go_region
  go_wp2
  (try simp only [Exit.inBlock, Exit.then])
  refine bodyPost_ret (results_tmp4 rfl _ _ _) rfl ?_
  exact ⟨rfl, HB.out⟩

set_option maxHeartbeats 1000000 in
theorem isTool_any (m : Msg) (w : World) :
    Calls Try.prog 17 #[.agg #[.string m.role, .string m.content, .slice m.ca m.cn m.cc, .string m.id, .bool m.failed, .slice m.ta m.tn m.tc, .slice m.pa m.pn m.pc, .string m.prov]] w fun e w' => e = .returned (.bool (m.role.toList == [116, 111, 111, 108])) ∧ Below w.heap.size w w' := by
  have HB : Hid (∀ o, Below w.heap.size w (w.alloc o)) := fun o => (Below.refl _ _).alloc (Nat.le_refl _) _
  go_enter Try.func17, Try.ntmps17
  go_wp2
  go_ret
  exact ⟨rfl, HB.out _⟩

/-- The cells of a row of faults. -/
structure FAt (w : World) (b i : Nat) (f : Flt) : Prop where
  f0 : w.cell? ⟨b, i * 4, none⟩ = some (.int .i64 f.k)
  f1 : w.cell? ⟨b, i * 4 + 1, none⟩ = some (.int .i64 f.a)
  f2 : w.cell? ⟨b, i * 4 + 2, none⟩ = some (.int .i64 f.q)
  f3 : w.cell? ⟨b, i * 4 + 3, none⟩ = some (.int .i64 f.c)
theorem FAt.later {w w' : World} {b i : Nat} {f : Flt} (h : FAt w b i f) (hb : Below w.heap.size w w') : FAt w' b i f :=
  ⟨cell_later hb h.f0, cell_later hb h.f1, cell_later hb h.f2, cell_later hb h.f3⟩
theorem own_fat {w : World} {g m cap : Nat} {L : List Flt} (h : w.ownsRow 0 61 4 (.slice (some ⟨g, 0, none⟩) m cap) m (fcells L)) (hm : m = L.length) : ∀ i, i < m → FAt w g i (nth L i) := fun i hi => by
  obtain ⟨h0, h1, h2, h3⟩ := fcells_at L i (by omega)
  exact ⟨(h.cellAt _ (by omega)).trans h0, (h.cellAt _ (by omega)).trans h1, (h.cellAt _ (by omega)).trans h2, (h.cellAt _ (by omega)).trans h3⟩

theorem Try.info40 : (Try.prog.info? 40).map (fun i => (i.zero, i.size, i.bytes)) = some (some (.agg #[.int .i64 0, .int .i64 0, .int .i64 0, .int .i64 0]), 4, 32) := by kernel_rfl
theorem Try.size40 : (Try.prog.info? 40).map (·.size) = some 4 := by kernel_rfl
theorem one_ints' (a b c d : Int) : (#[Value.int .i64 a, .int .i64 b, .int .i64 c, .int .i64 d]).all (·.oneCell') = true := by simp [Value.oneCell']

/-- What it answers: nil for nil; else a row of its own. -/
def FFPost (e : Ending) (w w' : World) (m : Nat) (L : List Flt) : Prop :=
  ∃ b, e = .returned (.slice (some ⟨b, 0, none⟩) m m) ∧ w.heap.size ≤ b ∧ b < w'.heap.size ∧ (∀ i, i < m → FAt w' b i (nth L i)) ∧ Below w.heap.size w w'

set_option maxRecDepth 100000 in
set_option maxHeartbeats 4000000 in
theorem fromF_some (g m cap : Nat) (L : List Flt) (hm : m ≤ 8388608) (w : World) (h : ∀ i, i < m → FAt w g i (nth L i)) :
    Calls Try.prog 11 #[.slice (some ⟨g, 0, none⟩) m cap] w fun e w' => FFPost e w w' m L := by
  have HI : Hid (∀ i, i < m → FAt w g i (nth L i)) := h
  clear h
  have hnil := fun w => Lib.run_eql_slice_nil (P := Try.prog) w 27 61 (some ⟨g, 0, none⟩) m cap 0 0 Try.underlying27
  have hmk := run_make_wide (P := Try.prog) 25 40 _ _ 4 32 Try.underlying25 Try.info40 rfl .i64 .i64 m (by omega) (by omega)
  go_enter Try.func11, Try.ntmps11
  go_wp2
  clear hnil hmk
  go_loopg [4] m (fun gk i wr => ∃ (k : Nat), gk = m - k ∧ k ≤ m ∧ i = .int .i64 k ∧ Below w.heap.size w wr ∧ wr.there w.heap.size 0 (m * 4) ∧ w.heap.size < wr.heap.size ∧ ∀ r, r < k → FAt wr w.heap.size r (nth L r))
  case atStart => exact ⟨0, by omega, by omega, rfl, (Below.refl _ _).alloc (Nat.le_refl _) _, there_made _ _ _ _, by simp, fun r hr => by omega⟩
  case round =>
    obtain ⟨k, hg, hk, rfl, hbel, hth, hlo, hfl⟩ := hrel
    have HG : Hid (gk = m - k) := hg
    have HB : Hid (Below w.heap.size w wr ∧ wr.there w.heap.size 0 (m * 4) ∧ ∀ r, r < k → FAt wr w.heap.size r (nth L r)) := ⟨hbel, hth, hfl⟩
    clear hg hbel hth hfl
    by_cases hlt : k < m
    · have hf := (HI.out k hlt).later HB.out.1
      have q0 := hf.f0
      have q1 := hf.f1
      have q2 := hf.f2
      have q3 := hf.f3
      clear hf
      go_wp2_with fail
      clear q0 q1 q2 q3
      refine (parts_any _ _ _ _ _).mono ?_
      rintro e w2 ⟨rfl, hb2⟩
      have HB2 : Hid (Below wr.heap.size wr w2) := hb2
      clear hb2
      have HT : Hid (w2.there w.heap.size (k * 4) 4) := there_part (there_later HB.out.2.1 hlo HB2.out) (by omega)
      go_wp2_with (refine wpList_store_mid rfl 40 _ _ rfl w.heap.size (k * 4) #[.int .i64 (nth L k).k, .int .i64 (nth L k).a, .int .i64 (nth L k).q, .int .i64 (nth L k).c] rfl rfl HT.out Try.size40 (one_ints' _ _ _ _) ?_; generalize HW : World.setCells w2 w.heap.size (k * 4) (#[.int .i64 (nth L k).k, .int .i64 (nth L k).a, .int .i64 (nth L k).q, .int .i64 (nth L k).c] : Array Value).toList = wy; have HWY : Hid (World.setCells w2 w.heap.size (k * 4) (#[.int .i64 (nth L k).k, .int .i64 (nth L k).a, .int .i64 (nth L k).q, .int .i64 (nth L k).c] : Array Value).toList = wy) := HW; clear HW)
      go_roundg (m - (k + 1))
      case rel =>
        rw [← HWY.out]
        have hsz := (below_setCells (B := 0) (b := w.heap.size) (Nat.zero_le _) (#[.int .i64 (nth L k).k, .int .i64 (nth L k).a, .int .i64 (nth L k).q, .int .i64 (nth L k).c] : Array Value).toList (k * 4) w2 (Below.refl 0 w2)).size
        refine ⟨k + 1, rfl, by omega, by go_num, below_setCells (Nat.le_refl _) _ _ _ (HB.out.1.trans (HB2.out.mono HB.out.1.size)), World.there_setCells (there_later HB.out.2.1 hlo HB2.out) _ _ _, Nat.lt_of_lt_of_le hlo (Nat.le_trans HB2.out.size hsz), fun r hr => ?_⟩
        by_cases e : r = k
        · subst e
          have hin := World.cell?_setCells_in w.heap.size (#[.int .i64 (nth L r).k, .int .i64 (nth L r).a, .int .i64 (nth L r).q, .int .i64 (nth L r).c] : Array Value).toList (r * 4) w2 (fun i hi => (HT.out i (by simpa using hi)).1)
          exact ⟨hin 0 (by simp), hin 1 (by simp), hin 2 (by simp), hin 3 (by simp)⟩
        · have hf := (HB.out.2.2 r (by omega)).later HB2.out
          refine ⟨?_, ?_, ?_, ?_⟩
          · rw [World.cell?_setCells_out w.heap.size _ (k * 4) w2 ⟨w.heap.size, r * 4, none⟩ (fun _ _ => by simp; omega)]; exact hf.f0
          · rw [World.cell?_setCells_out w.heap.size _ (k * 4) w2 ⟨w.heap.size, r * 4 + 1, none⟩ (fun _ _ => by simp; omega)]; exact hf.f1
          · rw [World.cell?_setCells_out w.heap.size _ (k * 4) w2 ⟨w.heap.size, r * 4 + 2, none⟩ (fun _ _ => by simp; omega)]; exact hf.f2
          · rw [World.cell?_setCells_out w.heap.size _ (k * 4) w2 ⟨w.heap.size, r * 4 + 3, none⟩ (fun _ _ => by simp; omega)]; exact hf.f3
      case measure =>
        have := HG.out
        omega
    · have HN : Hid (k = m) := by simp [Hid]; omega
      go_wp2
      go_ret
      exact ⟨w.heap.size, rfl, Nat.le_refl _, hlo, fun i hi => HB.out.2.2 i (by have := HN.out; omega), HB.out.1⟩

set_option maxHeartbeats 1000000 in
theorem fromF_nil (w : World) : Calls Try.prog 11 #[.slice none 0 0] w fun e w' => e = .returned (.slice none 0 0) ∧ w = w' := by
  have hnil := fun w => Lib.run_eql_slice_nil (P := Try.prog) w 27 61 none 0 0 0 0 Try.underlying27
  go_enter Try.func11, Try.ntmps11
  go_wp2
  go_ret
  exact ⟨rfl, rfl⟩

/-- All of them tools? -/
def ATPost (e : Ending) (w w' : World) (t : Bool) : Prop := e = .returned (.bool t) ∧ Below w.heap.size w w'
set_option maxRecDepth 100000 in
set_option maxHeartbeats 4000000 in
theorem allTools_yes (b off n cap lo hi : Nat) (M : Nat → Msg) (hn : n ≤ 1048576) (hlh : lo ≤ hi) (hhi : hi ≤ n) (w : World) (h : ∀ i, i < n → Fields w ⟨b, off, none⟩ i (M i)) (ht : ∀ i, lo ≤ i → i < hi → (M i).role = toolB) :
    Calls Try.prog 19 #[.slice (some ⟨b, off, none⟩) n cap, .int .i64 (lo : Int), .int .i64 (hi : Int)] w fun e w' => ATPost e w w' true := by
  have HI : Hid ((∀ i, i < n → Fields w ⟨b, off, none⟩ i (M i)) ∧ ∀ i, lo ≤ i → i < hi → (M i).role = toolB) := ⟨h, ht⟩
  clear h ht
  go_enter Try.func19, Try.ntmps19
  go_wp2
  go_loopg [7] (hi - lo) (fun gk i wr => ∃ (k : Nat), gk = hi - k ∧ lo ≤ k ∧ k ≤ hi ∧ i = .int .i64 k ∧ Below w.heap.size w wr)
  case atStart => exact ⟨lo, by omega, by omega, by omega, rfl, Below.refl _ _⟩
  case round =>
    obtain ⟨k, hg, hlk, hk, rfl, hbel⟩ := hrel
    have HG : Hid (gk = hi - k) := hg
    have HB : Hid (Below w.heap.size w wr) := hbel
    clear hg hbel
    by_cases hlt : k < hi
    · have HF0 : Fields wr ⟨b, off, none⟩ k (M k) := (HI.out.1 k (by omega)).later HB.out
      obtain ⟨mm, hmm⟩ : ∃ mm, mm = M k := ⟨_, rfl⟩
      have hb := beq_of_eq (HI.out.2 k hlk hlt)
      rw [tool_list] at hb
      rw [← hmm] at HF0 hb
      clear hmm
      have q0 := HF0.f0
      have q1 := HF0.f1
      have q2 := HF0.f2
      have q3 := HF0.f3
      have q4 := HF0.f4
      have q5 := HF0.f5
      have q6 := HF0.f6
      have q7 := HF0.f7
      clear HF0
      rw [Addr.add_lit] at q0 q1 q2 q3 q4 q5 q6 q7
      rw [← Nat.add_assoc] at q1 q2 q3 q4 q5 q6 q7
      have hkn : k < n := by omega
      go_wp2_with fail
      clear q0 q1 q2 q3 q4 q5 q6 q7
      refine (isTool_any mm _).mono ?_
      rintro e w2 ⟨rfl, hb2⟩
      have HB2 : Hid (Below w.heap.size w w2) := HB.out.trans (hb2.mono HB.out.size)
      clear hb2
      rw [hb]
      clear hb
      go_wp2
      go_roundg (hi - (k + 1))
      case rel => exact ⟨k + 1, rfl, by omega, by omega, by go_num, HB2.out⟩
      case measure =>
        have := HG.out
        omega
    · go_wp2
      go_ret
      exact ⟨rfl, HB.out⟩

end Go.Proofs.Qxb6601521a
