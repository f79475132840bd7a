/-
  zzToFaults and zzCloneFaults, whatever the slice.
-/
import Derived.Test.Qxb6601521aPrior
namespace Go.Proofs.Qxb6601521a
open Go.RowKit
set_option linter.unusedVariables false

set_option maxHeartbeats 1000000 in
theorem toF_zero (x : Addr) (cap : Nat) (w : World) : Calls Try.prog 25 #[.slice (some x) 0 cap] w fun e w' => CFPost e w w' 61 0 [] := by
  have hnil := fun w => Lib.run_eql_slice_nil (P := Try.prog) w 25 40 (some x) 0 cap 0 0 Try.underlying25
  have hmk := run_make_wide (P := Try.prog) 27 61 _ _ 4 32 Try.underlying27 Try.info61 rfl .i64 .i64 0 (by omega) (by omega)
  simp only [Int.natCast_zero] at hmk
  go_enter Try.func25, Try.ntmps25
  go_wp2
  clear hnil hmk
  go_loopg [4] 0 (fun gk i wr => i = .int .i64 0 ∧ Below w.heap.size w wr ∧ w.heap.size < wr.heap.size ∧ ∃ f, wr.rowIs w.heap.size 61 (0 * 4) f)
  case atStart => exact ⟨rfl, (Below.refl _ _).alloc (Nat.le_refl _) _, by simp, row_made _ _ _ _⟩
  case round =>
    obtain ⟨rfl, hb, hlo, hr⟩ := hrel
    have HB : Hid (Below w.heap.size w wr ∧ ∃ f, wr.rowIs w.heap.size 61 (0 * 4) f) := ⟨hb, hr⟩
    clear hb hr
    go_wp2
    go_ret
    exact ⟨w.heap.size, rfl, Nat.le_refl _, hlo, own_of_fat HB.out.2 (fun i hi => by omega) rfl (by unfold maxLen; omega), HB.out.1⟩

set_option maxHeartbeats 1000000 in
theorem cloneF_zero (x : Addr) (cap : Nat) (w : World) : Calls Try.prog 27 #[.slice (some x) 0 cap] w fun e w' => CFPost e w w' 40 0 [] := by
  have hnil := fun w => Lib.run_eql_slice_nil (P := Try.prog) w 25 40 (some x) 0 cap 0 0 Try.underlying25
  have hmk := run_make_wide (P := Try.prog) 25 40 _ _ 4 32 Try.underlying25 Try.info40 rfl .i64 .i64 0 (by omega) (by omega)
  simp only [Int.natCast_zero] at hmk
  go_enter Try.func27, Try.ntmps27
  go_wp2
  clear hnil hmk
  go_loopg [4] 0 (fun gk i wr => i = .int .i64 0 ∧ Below w.heap.size w wr ∧ w.heap.size < wr.heap.size ∧ ∃ f, wr.rowIs w.heap.size 40 (0 * 4) f)
  case atStart => exact ⟨rfl, (Below.refl _ _).alloc (Nat.le_refl _) _, by simp, row_made _ _ _ _⟩
  case round =>
    obtain ⟨rfl, hb, hlo, hr⟩ := hrel
    have HB : Hid (Below w.heap.size w wr ∧ ∃ f, wr.rowIs w.heap.size 40 (0 * 4) f) := ⟨hb, hr⟩
    clear hb hr
    go_wp2
    go_ret
    exact ⟨w.heap.size, rfl, Nat.le_refl _, hlo, own_of_fat HB.out.2 (fun i hi => by omega) rfl (by unfold maxLen; omega), HB.out.1⟩

theorem toF_any (a : Option Addr) (n cap : Nat) (L : List Flt) (hn : n ≤ 1048576) (w : World) (h : FIn w a n cap L) : Calls Try.prog 25 #[.slice a n cap] w fun e w' => PFPost e w w' a 61 n L := by
  obtain ⟨hL, ⟨rfl, rfl, rfl⟩ | ⟨x, rfl, h⟩⟩ := h
  · obtain rfl : L = [] := List.eq_nil_of_length_eq_zero hL.symm
    exact (toF_nil w).mono fun e w' h => post_nil h
  · rcases Nat.eq_zero_or_pos n with h0 | h0
    · subst h0
      obtain rfl : L = [] := List.eq_nil_of_length_eq_zero hL.symm
      exact (toF_zero x cap w).mono fun e w' h => post_of h
    · obtain ⟨b, off, rfl, hc⟩ := fin_cells h0 h
      exact (toF_some b off n cap L hn hL w hc).mono fun e w' h => post_of h
theorem cloneF_any (a : Option Addr) (n cap : Nat) (L : List Flt) (hn : n ≤ 1048576) (w : World) (h : FIn w a n cap L) : Calls Try.prog 27 #[.slice a n cap] w fun e w' => PFPost e w w' a 40 n L := by
  obtain ⟨hL, ⟨rfl, rfl, rfl⟩ | ⟨x, rfl, h⟩⟩ := h
  · obtain rfl : L = [] := List.eq_nil_of_length_eq_zero hL.symm
    exact (cloneF_nil w).mono fun e w' h => post_nil h
  · rcases Nat.eq_zero_or_pos n with h0 | h0
    · subst h0
      obtain rfl : L = [] := List.eq_nil_of_length_eq_zero hL.symm
      exact (cloneF_zero x cap w).mono fun e w' h => post_of h
    · obtain ⟨b, off, rfl, hc⟩ := fin_cells h0 h
      exact (cloneF_some b off n cap L hn hL w hc).mono fun e w' h => post_of h

theorem FIn.later {w w' : World} {a : Option Addr} {n cap : Nat} {L : List Flt} (h : FIn w a n cap L) (hb : Below w.heap.size w w') : FIn w' a n cap L := by
  obtain ⟨hL, h | ⟨x, rfl, h⟩⟩ := h
  · exact ⟨hL, .inl h⟩
  · refine ⟨hL, .inr ⟨x, rfl, fun i hi => ?_⟩⟩
    obtain ⟨h0, h1, h2, h3⟩ := h i hi
    exact ⟨cell_later hb h0, cell_later hb h1, cell_later hb h2, cell_later hb h3⟩

/-- nil where nothing was there and nothing was added. -/
theorem nil_iff {w : World} {ty : TypeId} {v v0 : Value} {n0 : Nat} {L : List Flt} {xs : List Value} (h : w.ownsRow 0 ty 4 v (n0 + L.length) xs) (hs : L = [] → v = v0) : v = .slice none 0 0 ↔ (L = [] ∧ v0 = .slice none 0 0) := by
  constructor
  · intro hv
    rcases h.2 with ⟨_, h0⟩ | ⟨g, cap, cur, h1, _⟩
    · have hL : L = [] := List.eq_nil_of_length_eq_zero (by omega)
      exact ⟨hL, by rw [← hs hL]; exact hv⟩
    · rw [hv] at h1
      cases h1
  · rintro ⟨hL, h0⟩
    rw [hs hL, h0]

theorem own_fat' {w : World} {ty : TypeId} {g m cap : Nat} {L : List Flt} (h : w.ownsRow 0 ty 4 (.slice (some ⟨g, 0, none⟩) m cap) m (fcells L)) (hm : m = L.length) : ∀ i, i < m → FAt w g i (nth L i) := fun i hi => by
  obtain ⟨h0, h1, h2, h3⟩ := fcells_at L i (by omega)
  exact ⟨(h.cellAt _ (by omega)).trans h0, (h.cellAt _ (by omega)).trans h1, (h.cellAt _ (by omega)).trans h2, (h.cellAt _ (by omega)).trans h3⟩
/-- The shape of a row of faults. -/
theorem own_shape {w : World} {ty : TypeId} {v : Value} {m : Nat} {L : List Flt} (h : w.ownsRow 0 ty 4 v m (fcells L)) (hm : m = L.length) : ∃ wa wc, v = .slice wa m wc ∧ (wa = none ↔ v = .slice none 0 0) ∧ (0 < m → ∃ d, wa = some ⟨d, 0, none⟩ ∧ d < w.heap.size ∧ ∀ i, i < m → FAt w d i (nth L i)) := by
  have hlt := h.lt
  rcases h.2 with ⟨rfl, rfl⟩ | ⟨g, cap, cur, rfl, _, hb, _⟩
  · exact ⟨none, 0, rfl, ⟨fun _ => rfl, fun _ => rfl⟩, fun h => by omega⟩
  · exact ⟨some ⟨g, 0, none⟩, cap, rfl, ⟨(fun h => by cases h), (fun h => by cases h)⟩, fun _ => ⟨g, rfl, (hlt g rfl).2, own_fat' h hm⟩⟩

end Go.Proofs.Qxb6601521a
