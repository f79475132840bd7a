/-
  THE WALKS of ZZMakeFault (zzexport.go), zzToFaults and zzCloneFaults (laws_root_b1.go).
-/
import Derived.Test.Qxb6601521aFrom
import Derived.Laws.Rows
import Derived.Deep.RegionLaw
import Derived.Deep.RegionHeld3
namespace Go.Proofs.Qxb6601521a
open Go.RowKit
set_option linter.unusedVariables false

/-- A slice of faults that came in. -/
def FIn (w : World) (a : Option Addr) (n cap : Nat) (L : List Flt) : Prop :=
  n = L.length ∧ ((a = none ∧ n = 0 ∧ cap = 0) ∨ ∃ x, a = some x ∧ ∀ i, i < n → w.cell? (x.add (i * 4)) = some (.int .i64 (nth L i).k) ∧ w.cell? (x.add (i * 4 + 1)) = some (.int .i64 (nth L i).a) ∧ w.cell? (x.add (i * 4 + 2)) = some (.int .i64 (nth L i).q) ∧ w.cell? (x.add (i * 4 + 3)) = some (.int .i64 (nth L i).c))

theorem rowIs_setCells_same {b : Nat} {t : TypeId} {n : Nat} : ∀ (vs : List Value) (o : Nat) (w : World), (∃ f, w.rowIs b t n f) → ∃ f, (w.setCells b o vs).rowIs b t n f
  | [], _, _, h => h
  | v :: r, o, w, h => by
    rw [World.setCells]
    obtain ⟨f, hf⟩ := h
    exact rowIs_setCells_same r (o + 1) _ ⟨_, hf.set o v⟩

theorem row_made (w : World) (z : Array Value) (n : Nat) (e : TypeId) : ∃ f, (w.alloc (.cells (madeCells z n) e)).rowIs w.heap.size e n f :=
  ⟨fun i => ((madeCells z n)[i]?).getD undef, madeCells z n, heap_alloc_new w _, size_madeCells _ _, fun i hi => by
    have h : i < (madeCells z n).size := by rw [size_madeCells]; exact hi
    simp [Array.getElem?_eq_getElem h]⟩

theorem own_of_fat {w : World} {g n : Nat} {e : TypeId} {L : List Flt} (h : ∃ f, w.rowIs g e (n * 4) f) (hf : ∀ i, i < n → FAt w g i (nth L i)) (hL : n = L.length) (hn : n ≤ maxLen) : w.ownsRow 0 e 4 (.slice (some ⟨g, 0, none⟩) n n) n (fcells L) := by
  obtain ⟨f, cur, hb, hsz, _⟩ := h
  refine ⟨by rw [fcells_length, hL], .inr ⟨g, n, cur, rfl, Nat.zero_le _, hb, Nat.le_refl _, hn, hsz, ?_⟩⟩
  apply List.ext_getElem?
  intro j
  by_cases hj : j < n * 4
  · rw [List.getElem?_take_of_lt hj]
    have hc : ∀ v, w.cell? ⟨g, j, none⟩ = some v → cur.toList[j]? = some v := fun v hv => by
      rw [cell_of_row w g j cur e (0, 0) hb] at hv
      simpa using hv
    obtain ⟨i, d, hd, hji⟩ : ∃ i d, d < 4 ∧ j = i * 4 + d := ⟨j / 4, j % 4, by omega, by omega⟩
    have hi : i < n := by omega
    obtain ⟨h0, h1, h2, h3⟩ := fcells_at L i (by omega)
    have hfa := hf i hi
    subst hji
    rcases d with _ | _ | _ | _ | d
    · rw [hc _ hfa.f0]; exact h0.symm
    · rw [hc _ hfa.f1]; exact h1.symm
    · rw [hc _ hfa.f2]; exact h2.symm
    · rw [hc _ hfa.f3]; exact h3.symm
    · omega
  · have h1 : (fcells L).length ≤ j := by rw [fcells_length]; omega
    have h2 : (cur.toList.take (n * 4)).length ≤ j := by simp; omega
    rw [List.getElem?_eq_none h1, List.getElem?_eq_none h2]

theorem Try.size61 : (Try.prog.info? 61).map (·.size) = some 4 := by kernel_rfl
/-- What a copy of faults is. -/
def CFPost (e : Ending) (w w' : World) (ty : TypeId) (n : Nat) (L : List Flt) : Prop :=
  ∃ g, e = .returned (.slice (some ⟨g, 0, none⟩) n n) ∧ w.heap.size ≤ g ∧ g < w'.heap.size ∧ w'.ownsRow 0 ty 4 (.slice (some ⟨g, 0, none⟩) n n) n (fcells L) ∧ Below w.heap.size w w'

set_option maxRecDepth 100000 in
set_option maxHeartbeats 4000000 in
theorem cloneF_some (b off n cap : Nat) (L : List Flt) (hn : n ≤ 1048576) (hL : n = L.length) (w : World) (hh : ∀ i, i < n → w.cell? ⟨b, off + i * 4, none⟩ = some (.int .i64 (nth L i).k) ∧ w.cell? ⟨b, off + i * 4 + 1, none⟩ = some (.int .i64 (nth L i).a) ∧ w.cell? ⟨b, off + i * 4 + 2, none⟩ = some (.int .i64 (nth L i).q) ∧ w.cell? ⟨b, off + i * 4 + 3, none⟩ = some (.int .i64 (nth L i).c)) :
    Calls Try.prog 27 #[.slice (some ⟨b, off, none⟩) n cap] w fun e w' => CFPost e w w' 40 n L := by
  have HI : Hid ((∀ i, i < n → w.cell? ⟨b, off + i * 4, none⟩ = some (.int .i64 (nth L i).k) ∧ w.cell? ⟨b, off + i * 4 + 1, none⟩ = some (.int .i64 (nth L i).a) ∧ w.cell? ⟨b, off + i * 4 + 2, none⟩ = some (.int .i64 (nth L i).q) ∧ w.cell? ⟨b, off + i * 4 + 3, none⟩ = some (.int .i64 (nth L i).c)) ∧ n = L.length) := ⟨hh, hL⟩
  clear hh hL
  have hnil := fun w => Lib.run_eql_slice_nil (P := Try.prog) w 25 40 (some ⟨b, off, none⟩) n cap 0 0 Try.underlying25
  have hmk := run_make_wide (P := Try.prog) 25 40 _ _ 4 32 Try.underlying25 Try.info40 rfl .i64 .i64 n (by omega) (by omega)
  go_enter Try.func27, Try.ntmps27
  go_wp2
  clear hnil hmk
  go_loopg [4] n (fun gk i wr => ∃ (k : Nat), gk = n - k ∧ k ≤ n ∧ i = .int .i64 k ∧ Below w.heap.size w wr ∧ wr.there w.heap.size 0 (n * 4) ∧ w.heap.size < wr.heap.size ∧ (∀ r, r < k → FAt wr w.heap.size r (nth L r)) ∧ ∃ f, wr.rowIs w.heap.size 40 (n * 4) f)
  case atStart =>
    refine ⟨0, by omega, by omega, rfl, (Below.refl _ _).alloc (Nat.le_refl _) _, there_made _ _ _ _, by simp, (fun r hr => by omega), row_made _ _ _ _⟩
  case round =>
    obtain ⟨k, hg, hk, rfl, hbel, hth, hlo, hfl, hrow⟩ := hrel
    have HG : Hid (gk = n - k) := hg
    have HB : Hid (Below w.heap.size w wr ∧ wr.there w.heap.size 0 (n * 4) ∧ (∀ r, r < k → FAt wr w.heap.size r (nth L r)) ∧ ∃ f, wr.rowIs w.heap.size 40 (n * 4) f) := ⟨hbel, hth, hfl, hrow⟩
    clear hg hbel hth hfl hrow
    by_cases hlt : k < n
    · obtain ⟨q0, q1, q2, q3⟩ := HI.out.1 k hlt
      have hbw : b < w.heap.size := World.block_lt_of_cell? w _ q0
      rw [← HB.out.1.cell (by exact hbw)] at q0 q1 q2 q3
      have HT : Hid (wr.there w.heap.size (k * 4) 4) := there_part HB.out.2.1 (by omega)
      go_wp2_with (refine wpList_store_mid rfl 40 _ _ rfl w.heap.size (k * 4) #[.int .i64 (nth L k).k, .int .i64 (nth L k).a, .int .i64 (nth L k).q, .int .i64 (nth L k).c] rfl rfl HT.out Try.size40 (one_ints' _ _ _ _) ?_; generalize HW : World.setCells wr w.heap.size (k * 4) (#[.int .i64 (nth L k).k, .int .i64 (nth L k).a, .int .i64 (nth L k).q, .int .i64 (nth L k).c] : Array Value).toList = wy; have HWY : Hid (World.setCells wr w.heap.size (k * 4) (#[.int .i64 (nth L k).k, .int .i64 (nth L k).a, .int .i64 (nth L k).q, .int .i64 (nth L k).c] : Array Value).toList = wy) := HW; clear HW)
      go_roundg (n - (k + 1))
      case rel =>
        rw [← HWY.out]
        have hsz := (below_setCells (B := 0) (b := w.heap.size) (Nat.zero_le _) (#[.int .i64 (nth L k).k, .int .i64 (nth L k).a, .int .i64 (nth L k).q, .int .i64 (nth L k).c] : Array Value).toList (k * 4) wr (Below.refl 0 wr)).size
        refine ⟨k + 1, rfl, by omega, by go_num, below_setCells (Nat.le_refl _) _ _ _ HB.out.1, World.there_setCells HB.out.2.1 _ _ _, Nat.lt_of_lt_of_le hlo hsz, fun r hr => ?_, rowIs_setCells_same _ _ _ HB.out.2.2.2⟩
        by_cases e : r = k
        · subst e
          have hin := World.cell?_setCells_in w.heap.size (#[.int .i64 (nth L r).k, .int .i64 (nth L r).a, .int .i64 (nth L r).q, .int .i64 (nth L r).c] : Array Value).toList (r * 4) wr (fun i hi => (HT.out i (by simpa using hi)).1)
          exact ⟨hin 0 (by simp), hin 1 (by simp), hin 2 (by simp), hin 3 (by simp)⟩
        · have hf := HB.out.2.2.1 r (by omega)
          refine ⟨?_, ?_, ?_, ?_⟩
          · rw [World.cell?_setCells_out w.heap.size _ (k * 4) wr ⟨w.heap.size, r * 4, none⟩ (fun _ _ => by simp; omega)]; exact hf.f0
          · rw [World.cell?_setCells_out w.heap.size _ (k * 4) wr ⟨w.heap.size, r * 4 + 1, none⟩ (fun _ _ => by simp; omega)]; exact hf.f1
          · rw [World.cell?_setCells_out w.heap.size _ (k * 4) wr ⟨w.heap.size, r * 4 + 2, none⟩ (fun _ _ => by simp; omega)]; exact hf.f2
          · rw [World.cell?_setCells_out w.heap.size _ (k * 4) wr ⟨w.heap.size, r * 4 + 3, none⟩ (fun _ _ => by simp; omega)]; exact hf.f3
      case measure =>
        have := HG.out
        omega
    · have HN : Hid (k = n) := by simp [Hid]; omega
      go_wp2
      go_ret
      exact ⟨w.heap.size, rfl, Nat.le_refl _, hlo, own_of_fat HB.out.2.2.2 (fun i hi => HB.out.2.2.1 i (by have := HN.out; omega)) HI.out.2 (by unfold maxLen; omega), HB.out.1⟩

set_option maxHeartbeats 1000000 in
theorem cloneF_nil (w : World) : Calls Try.prog 27 #[.slice none 0 0] w fun e w' => e = .returned (.slice none 0 0) ∧ w = w' := by
  have hnil := fun w => Lib.run_eql_slice_nil (P := Try.prog) w 25 40 none 0 0 0 0 Try.underlying25
  go_enter Try.func27, Try.ntmps27
  go_wp2
  go_ret
  exact ⟨rfl, rfl⟩

set_option maxHeartbeats 1000000 in
theorem toF_nil (w : World) : Calls Try.prog 25 #[.slice none 0 0] w fun e w' => e = .returned (.slice none 0 0) ∧ w = w' := by
  have hnil := fun w => Lib.run_eql_slice_nil (P := Try.prog) w 25 40 none 0 0 0 0 Try.underlying25
  go_enter Try.func25, Try.ntmps25
  go_wp2
  go_ret
  exact ⟨rfl, rfl⟩

set_option maxHeartbeats 1000000 in
theorem makeF (k a q c : Int) (w : World) : Calls Try.prog 34 #[.int .i64 k, .int .i64 a, .int .i64 q, .int .i64 c] w fun e w' => e = .returned (.agg #[.int .i64 k, .int .i64 a, .int .i64 q, .int .i64 c]) ∧ w' = w.alloc (.cells #[.int .i64 k, .int .i64 a, .int .i64 q, .int .i64 c] 61) := by
  go_enter Try.func34, Try.ntmps34
  go_wp2
  refine bodyPost_ret (results_cell_row rfl _ _ w.heap.size 61 #[.int .i64 k, .int .i64 a, .int .i64 q, .int .i64 c] (0, 0) _ rfl (heap_alloc_new w _) Try.underlying61 rfl Try.size61) rfl ?_
  exact ⟨rfl, rfl⟩

/-- One fault more is laid. -/
theorem toF_step {w wr : World} {n k : Nat} {L : List Flt} {ty : TypeId} (hb : Below w.heap.size w wr) (hth : wr.there w.heap.size 0 (n * 4)) (hlo : w.heap.size < wr.heap.size) (hfl : ∀ r, r < k → FAt wr w.heap.size r (nth L r)) (hrow : ∃ f, wr.rowIs w.heap.size ty (n * 4) f) (hlt : k < n) :
    Below w.heap.size w (wr.setCells w.heap.size (k * 4) [.int .i64 (nth L k).k, .int .i64 (nth L k).a, .int .i64 (nth L k).q, .int .i64 (nth L k).c]) ∧ (wr.setCells w.heap.size (k * 4) [.int .i64 (nth L k).k, .int .i64 (nth L k).a, .int .i64 (nth L k).q, .int .i64 (nth L k).c]).there w.heap.size 0 (n * 4) ∧ w.heap.size < (wr.setCells w.heap.size (k * 4) [.int .i64 (nth L k).k, .int .i64 (nth L k).a, .int .i64 (nth L k).q, .int .i64 (nth L k).c]).heap.size ∧ (∀ r, r < k + 1 → FAt (wr.setCells w.heap.size (k * 4) [.int .i64 (nth L k).k, .int .i64 (nth L k).a, .int .i64 (nth L k).q, .int .i64 (nth L k).c]) w.heap.size r (nth L r)) ∧ ∃ f, (wr.setCells w.heap.size (k * 4) [.int .i64 (nth L k).k, .int .i64 (nth L k).a, .int .i64 (nth L k).q, .int .i64 (nth L k).c]).rowIs w.heap.size ty (n * 4) f := by
  have hsz := (below_setCells (B := 0) (b := w.heap.size) (Nat.zero_le _) ([.int .i64 (nth L k).k, .int .i64 (nth L k).a, .int .i64 (nth L k).q, .int .i64 (nth L k).c] : List Value) (k * 4) wr (Below.refl 0 wr)).size
  have HT : wr.there w.heap.size (k * 4) 4 := there_part hth (by omega)
  refine ⟨below_setCells (Nat.le_refl _) _ _ _ hb, World.there_setCells hth _ _ _, Nat.lt_of_lt_of_le hlo hsz, fun r hr => ?_, rowIs_setCells_same _ _ _ hrow⟩
  by_cases e : r = k
  · subst e
    have hin := World.cell?_setCells_in w.heap.size ([.int .i64 (nth L r).k, .int .i64 (nth L r).a, .int .i64 (nth L r).q, .int .i64 (nth L r).c] : List Value) (r * 4) wr (fun i hi => (HT i (by simpa using hi)).1)
    exact ⟨hin 0 (by simp), hin 1 (by simp), hin 2 (by simp), hin 3 (by simp)⟩
  · have hf := hfl r (by omega)
    refine ⟨?_, ?_, ?_, ?_⟩
    · rw [World.cell?_setCells_out w.heap.size _ (k * 4) wr ⟨w.heap.size, r * 4, none⟩ (fun _ _ => by simp; omega)]; exact hf.f0
    · rw [World.cell?_setCells_out w.heap.size _ (k * 4) wr ⟨w.heap.size, r * 4 + 1, none⟩ (fun _ _ => by simp; omega)]; exact hf.f1
    · rw [World.cell?_setCells_out w.heap.size _ (k * 4) wr ⟨w.heap.size, r * 4 + 2, none⟩ (fun _ _ => by simp; omega)]; exact hf.f2
    · rw [World.cell?_setCells_out w.heap.size _ (k * 4) wr ⟨w.heap.size, r * 4 + 3, none⟩ (fun _ _ => by simp; omega)]; exact hf.f3

theorem below4 {wr : World} {N a0 a1 a2 a3 : Nat} {v0 v1 v2 v3 : Value} {o : Obj} (hN : N ≤ wr.heap.size) : Below N wr ((((((wr.setCell ⟨N, a0, none⟩ v0).setCell ⟨N, a1, none⟩ v1).setCell ⟨N, a2, none⟩ v2).setCell ⟨N, a3, none⟩ v3).alloc o).drew) := by
  have h := ((((Below.refl N wr).setCell (p := ⟨N, a0, none⟩) (Nat.le_refl _) v0).setCell (p := ⟨N, a1, none⟩) (Nat.le_refl _) v1).setCell (p := ⟨N, a2, none⟩) (Nat.le_refl _) v2).setCell (p := ⟨N, a3, none⟩) (Nat.le_refl _) v3
  exact (h.alloc (Nat.le_trans hN h.size) o).drew
theorem src_keep {wr : World} {N b o a0 a1 a2 a3 : Nat} {v v0 v1 v2 v3 : Value} {ob : Obj} (hb : b < N) (hN : N ≤ wr.heap.size) (h : wr.cell? ⟨b, o, none⟩ = some v) :
    ((((((wr.setCell ⟨N, a0, none⟩ v0).setCell ⟨N, a1, none⟩ v1).setCell ⟨N, a2, none⟩ v2).setCell ⟨N, a3, none⟩ v3).alloc ob).drew).cell? ⟨b, o, none⟩ = some v :=
  ((below4 hN).cell (by exact hb)).trans h

set_option maxRecDepth 100000 in
set_option maxHeartbeats 4000000 in
theorem toF_some (b off n cap : Nat) (L : List Flt) (hn : n ≤ 1048576) (hL : n = L.length) (w : World) (hh : ∀ i, i < n → w.cell? ⟨b, off + i * 4, none⟩ = some (.int .i64 (nth L i).k) ∧ w.cell? ⟨b, off + i * 4 + 1, none⟩ = some (.int .i64 (nth L i).a) ∧ w.cell? ⟨b, off + i * 4 + 2, none⟩ = some (.int .i64 (nth L i).q) ∧ w.cell? ⟨b, off + i * 4 + 3, none⟩ = some (.int .i64 (nth L i).c)) :
    Calls Try.prog 25 #[.slice (some ⟨b, off, none⟩) n cap] w fun e w' => CFPost e w w' 61 n L := by
  have HI : Hid ((∀ i, i < n → w.cell? ⟨b, off + i * 4, none⟩ = some (.int .i64 (nth L i).k) ∧ w.cell? ⟨b, off + i * 4 + 1, none⟩ = some (.int .i64 (nth L i).a) ∧ w.cell? ⟨b, off + i * 4 + 2, none⟩ = some (.int .i64 (nth L i).q) ∧ w.cell? ⟨b, off + i * 4 + 3, none⟩ = some (.int .i64 (nth L i).c)) ∧ n = L.length) := ⟨hh, hL⟩
  clear hh hL
  have hnil := fun w => Lib.run_eql_slice_nil (P := Try.prog) w 25 40 (some ⟨b, off, none⟩) n cap 0 0 Try.underlying25
  have hmk := run_make_wide (P := Try.prog) 27 61 _ _ 4 32 Try.underlying27 Try.info61 rfl .i64 .i64 n (by omega) (by omega)
  go_enter Try.func25, Try.ntmps25
  go_wp2
  clear hnil hmk
  go_loopg [4] n (fun gk i wr => ∃ (k : Nat), gk = n - k ∧ k ≤ n ∧ i = .int .i64 k ∧ Below w.heap.size w wr ∧ wr.there w.heap.size 0 (n * 4) ∧ w.heap.size < wr.heap.size ∧ (∀ r, r < k → FAt wr w.heap.size r (nth L r)) ∧ ∃ f, wr.rowIs w.heap.size 61 (n * 4) f)
  case atStart => exact ⟨0, by omega, by omega, rfl, (Below.refl _ _).alloc (Nat.le_refl _) _, there_made _ _ _ _, by simp, (fun r hr => by omega), row_made _ _ _ _⟩
  case round =>
    obtain ⟨k, hg, hk, rfl, hbel, hth, hlo, hfl, hrow⟩ := hrel
    have HG : Hid (gk = n - k) := hg
    have HB : Hid (Below w.heap.size w wr ∧ wr.there w.heap.size 0 (n * 4) ∧ (∀ r, r < k → FAt wr w.heap.size r (nth L r)) ∧ ∃ f, wr.rowIs w.heap.size 61 (n * 4) f) := ⟨hbel, hth, hfl, hrow⟩
    clear hg hbel hth hfl hrow
    by_cases hlt : k < n
    · obtain ⟨q0, q1, q2, q3⟩ := HI.out.1 k hlt
      have hbw : b < w.heap.size := World.block_lt_of_cell? w _ q0
      rw [← HB.out.1.cell (by exact hbw)] at q0 q1 q2 q3
      have hth := there_part (b := w.heap.size) (o := k * 4) (k := 4) HB.out.2.1 (by omega)
      obtain ⟨v0, hd0⟩ := Option.isSome_iff_exists.1 (hth 0 (by omega)).1
      obtain ⟨v1, hd1⟩ := Option.isSome_iff_exists.1 (hth 1 (by omega)).1
      obtain ⟨v2, hd2⟩ := Option.isSome_iff_exists.1 (hth 2 (by omega)).1
      obtain ⟨v3, hd3⟩ := Option.isSome_iff_exists.1 (hth 3 (by omega)).1
      have hz0 := (hth 0 (by omega)).2
      have hz1 := (hth 1 (by omega)).2
      have hz2 := (hth 2 (by omega)).2
      have hz3 := (hth 3 (by omega)).2
      rw [Nat.add_zero] at hd0 hz0
      clear hth
      go_upto_region 7 with fail
      have hbn : b ≠ w.heap.size := by omega
      have hbr : b < wr.heap.size := by omega
      have hNr : w.heap.size ≤ wr.heap.size := by omega
      go_region_held3 (fun w' => w'.cell? ⟨b, off + k * 4, none⟩ = some (.int .i64 (nth L k).k) ∧ w'.cell? ⟨b, off + k * 4 + 1, none⟩ = some (.int .i64 (nth L k).a) ∧ w'.cell? ⟨b, off + k * 4 + 2, none⟩ = some (.int .i64 (nth L k).q) ∧ w'.cell? ⟨b, off + k * 4 + 3, none⟩ = some (.int .i64 (nth L k).c)) (first | (go_keep; done) | exact ⟨src_keep hbw hNr q0, src_keep hbw hNr q1, src_keep hbw hNr q2, src_keep hbw hNr q3⟩) (first | (go_at_call 34; refine (makeF _ _ _ _ _).mono ?_; rintro e w' ⟨rfl, rfl⟩))
      clear q0 q1 q2 q3 hd0 hd1 hd2 hd3 hz0 hz1 hz2 hz3
      generalize HW : ((((((wr.setCell ⟨w.heap.size, k * 4, none⟩ (.int .i64 (nth L k).k)).setCell ⟨w.heap.size, k * 4 + 1, none⟩ (.int .i64 (nth L k).a)).setCell ⟨w.heap.size, k * 4 + 2, none⟩ (.int .i64 (nth L k).q)).setCell ⟨w.heap.size, k * 4 + 3, none⟩ (.int .i64 (nth L k).c)).alloc (.cells #[.int .i64 (nth L k).k, .int .i64 (nth L k).a, .int .i64 (nth L k).q, .int .i64 (nth L k).c] 61)).drew) = wy
      have HWY : Hid ((((wr.setCells w.heap.size (k * 4) [.int .i64 (nth L k).k, .int .i64 (nth L k).a, .int .i64 (nth L k).q, .int .i64 (nth L k).c]).alloc (.cells #[.int .i64 (nth L k).k, .int .i64 (nth L k).a, .int .i64 (nth L k).q, .int .i64 (nth L k).c] 61)).drew) = wy) := HW
      clear HW
      go_wp2
      go_roundg (n - (k + 1))
      case rel =>
        have hX := toF_step (k := k) HB.out.1 HB.out.2.1 hlo HB.out.2.2.1 HB.out.2.2.2 hlt
        have hbl := ((Below.refl _ (wr.setCells w.heap.size (k * 4) [.int .i64 (nth L k).k, .int .i64 (nth L k).a, .int .i64 (nth L k).q, .int .i64 (nth L k).c])).alloc (Nat.le_refl _) (.cells #[.int .i64 (nth L k).k, .int .i64 (nth L k).a, .int .i64 (nth L k).q, .int .i64 (nth L k).c] 61)).drew
        rw [HWY.out] at hbl
        obtain ⟨x1, x2, x3, x4, x5⟩ := hX
        exact ⟨k + 1, rfl, by omega, by go_num, x1.trans (hbl.mono (Nat.le_of_lt x3)), there_later x2 x3 hbl, Nat.lt_of_lt_of_le x3 hbl.size, fun r hr => (x4 r hr).later hbl, by obtain ⟨f, hf⟩ := x5; exact ⟨f, hf.of_block (hbl.block _ x3)⟩⟩
      case measure =>
        have := HG.out
        omega
    · have HN : Hid (k = n) := by simp [Hid]; omega
      go_wp2
      go_ret
      exact ⟨w.heap.size, rfl, Nat.le_refl _, hlo, own_of_fat HB.out.2.2.2 (fun i hi => HB.out.2.2.1 i (by have := HN.out; omega)) HI.out.2 (by unfold maxLen; omega), HB.out.1⟩

/-- A copy of the prior faults, nil for nil. -/
def PFPost (e : Ending) (w w' : World) (a : Option Addr) (ty : TypeId) (n : Nat) (L : List Flt) : Prop :=
  ∃ v, e = .returned v ∧ (v = .slice none 0 0 ↔ a = none) ∧ (∀ f, v.ownBlock = some f → w.heap.size ≤ f ∧ f < w'.heap.size) ∧ w'.ownsRow 0 ty 4 v n (fcells L) ∧ Below w.heap.size w w'
theorem fin_cells {w : World} {x : Addr} {n : Nat} {L : List Flt} (hn : 0 < n) (h : ∀ i, i < n → w.cell? (x.add (i * 4)) = some (.int .i64 (nth L i).k) ∧ w.cell? (x.add (i * 4 + 1)) = some (.int .i64 (nth L i).a) ∧ w.cell? (x.add (i * 4 + 2)) = some (.int .i64 (nth L i).q) ∧ w.cell? (x.add (i * 4 + 3)) = some (.int .i64 (nth L i).c)) :
    ∃ b off, x = ⟨b, off, none⟩ ∧ ∀ i, i < n → w.cell? ⟨b, off + i * 4, none⟩ = some (.int .i64 (nth L i).k) ∧ w.cell? ⟨b, off + i * 4 + 1, none⟩ = some (.int .i64 (nth L i).a) ∧ w.cell? ⟨b, off + i * 4 + 2, none⟩ = some (.int .i64 (nth L i).q) ∧ w.cell? ⟨b, off + i * 4 + 3, none⟩ = some (.int .i64 (nth L i).c) := by
  obtain ⟨b, off, rfl, _⟩ := addr_plain (by simpa using (h 0 hn).1)
  refine ⟨b, off, rfl, fun i hi => ?_⟩
  have h1 := h i hi
  simp only [Addr.add_lit, ← Nat.add_assoc] at h1
  exact h1
theorem post_of {e : Ending} {w w' : World} {ty : TypeId} {n : Nat} {L : List Flt} {x : Addr} (h : CFPost e w w' ty n L) : PFPost e w w' (some x) ty n L := by
  obtain ⟨g, rfl, h1, h2, h3, h4⟩ := h
  refine ⟨_, rfl, ⟨(fun h => by cases h), (fun h => by cases h)⟩, fun f hf => ?_, h3, h4⟩
  simp only [Value.ownBlock] at hf
  injection hf with hf
  omega
theorem post_nil {e : Ending} {w w' : World} {ty : TypeId} (h : e = .returned (.slice none 0 0) ∧ w = w') : PFPost e w w' none ty 0 [] := by
  obtain ⟨rfl, rfl⟩ := h
  exact ⟨_, rfl, ⟨fun _ => rfl, fun _ => rfl⟩, (fun f hf => by simp [Value.ownBlock] at hf), ⟨rfl, .inl ⟨rfl, rfl⟩⟩, Below.refl _ _⟩

end Go.Proofs.Qxb6601521a
