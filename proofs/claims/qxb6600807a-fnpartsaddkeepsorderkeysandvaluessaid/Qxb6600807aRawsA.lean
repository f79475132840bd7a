/-
  THE WALKS of openaiB1CloneRaws and openaiB1SameBytes (laws_openai_b1.go).
-/
import Derived.Test.Qxb6600807aClone
import Derived.Test.Qxb6600807aStrs
import Derived.Deep.QuietTactic
import Derived.BigQuiet
namespace Go.Proofs.Qxb6600807a.Raws
open Go.RowKit
set_option linter.unusedVariables false

/-- A row of bytes that came in. -/
def BIn (w : World) (a : Option Addr) (n cap : Nat) (z : Nat → Int) : Prop :=
  (a = none ∧ n = 0 ∧ cap = 0) ∨ ∃ x, a = some x ∧ ∀ j, j < n → w.cell? (x.add j) = some (.int .u8 (z j))
/-- A copy of it, in a block from lo on; nil where it was nil. -/
def BCl (w : World) (lo : Nat) (a a' : Option Addr) (n : Nat) (z : Nat → Int) : Prop :=
  (a = none ∧ a' = none ∧ n = 0) ∨ ∃ x b, a = some x ∧ a' = some ⟨b, 0, none⟩ ∧ lo ≤ b ∧ b < w.heap.size ∧ ∀ j, j < n → w.cell? ⟨b, j, none⟩ = some (.int .u8 (z j))

theorem BIn.later {w w' : World} {a : Option Addr} {n cap : Nat} {z : Nat → Int} (h : BIn w a n cap z) (hb : Below w.heap.size w w') : BIn w' a n cap z := by
  rcases h with h | ⟨x, rfl, h⟩
  · exact .inl h
  · refine .inr ⟨x, rfl, fun j hj => ?_⟩
    have h0 := h j hj
    rw [hb.cell (World.block_lt_of_cell? w _ h0)]
    exact h0
theorem BCl.later {w w' : World} {lo B : Nat} {a a' : Option Addr} {n : Nat} {z : Nat → Int} (h : BCl w lo a a' n z) (hB : w.heap.size ≤ B) (hb : Below B w w') : BCl w' lo a a' n z := by
  rcases h with h | ⟨x, b, rfl, rfl, h1, h2, h⟩
  · exact .inl h
  · refine .inr ⟨x, b, rfl, rfl, h1, Nat.lt_of_lt_of_le h2 hb.size, fun j hj => ?_⟩
    rw [hb.cell (by exact Nat.lt_of_lt_of_le h2 hB)]
    exact h j hj
/-- .. while a cell of a block below lo is written. -/
theorem BCl.store {w : World} {lo : Nat} {a a' : Option Addr} {n : Nat} {z : Nat → Int} (h : BCl w lo a a' n z) {p : Addr} (hp : p.block < lo) (u : Value) : BCl (w.setCell p u) lo a a' n z := by
  rcases h with h | ⟨x, b, rfl, rfl, h1, h2, h⟩
  · exact .inl h
  · refine .inr ⟨x, b, rfl, rfl, h1, by simpa using h2, fun j hj => ?_⟩
    rw [World.cell?_of_block (w := w) (heap_setCell_other w p b u (by omega))]
    exact h j hj
theorem BCl.bin {w : World} {lo : Nat} {a a' : Option Addr} {n : Nat} {z : Nat → Int} (h : BCl w lo a a' n z) : BIn w a' n n z := by
  rcases h with ⟨_, rfl, rfl⟩ | ⟨x, b, _, rfl, _, _, h⟩
  · exact .inl ⟨rfl, rfl, rfl⟩
  · exact .inr ⟨_, rfl, fun j hj => by rw [Addr.add_lit]; simpa using h j hj⟩
theorem BCl.nil {w : World} {lo : Nat} {a a' : Option Addr} {n : Nat} {z : Nat → Int} (h : BCl w lo a a' n z) : a'.isNone = a.isNone := by
  rcases h with ⟨rfl, rfl, _⟩ | ⟨x, b, rfl, rfl, _⟩ <;> rfl

theorem cloneB (a : Option Addr) (n cap : Nat) (z : Nat → Int) (hn : n ≤ 1048576) (w : World) (h : BIn w a n cap z) :
    Calls Try.prog 10 #[.slice a n cap] w fun e w' => ∃ a', e = .returned (.slice a' n n) ∧ BCl w' w.heap.size a a' n z ∧ Below w.heap.size w w' := by
  rcases h with ⟨rfl, rfl, rfl⟩ | ⟨x, rfl, h⟩
  · refine (cloneBytes_nil w).mono fun e w' ⟨he, hw⟩ => ?_
    subst hw
    exact ⟨none, he, .inl ⟨rfl, rfl, rfl⟩, Below.refl _ _⟩
  · refine (cloneBytes_any x n cap z hn w h).mono fun e w' ⟨he, hr, hb⟩ => ?_
    exact ⟨_, he, .inr ⟨x, _, rfl, rfl, Nat.le_refl _, hr.lt, fun j hj => hr.cell hj⟩, hb⟩

/-- A slice of rows that came in. -/
def RIn (w : World) (a : Option Addr) (n cap : Nat) (A : Nat → Option Addr) (L C : Nat → Nat) (Z : Nat → Nat → Int) : Prop :=
  (a = none ∧ n = 0 ∧ cap = 0) ∨ ∃ x, a = some x ∧ ∀ r, r < n → w.cell? (x.add r) = some (.slice (A r) (L r) (C r)) ∧ BIn w (A r) (L r) (C r) (Z r)
/-- A deep copy of it. -/
def RCl (w : World) (a : Option Addr) (n : Nat) (A A' : Nat → Option Addr) (L : Nat → Nat) (Z : Nat → Nat → Int) : Prop :=
  (a = none ∧ n = 0) ∨ ∃ b, a = some ⟨b, 0, none⟩ ∧ b < w.heap.size ∧ ∀ r, r < n → w.cell? ⟨b, r, none⟩ = some (.slice (A' r) (L r) (L r)) ∧ BCl w (b + 1) (A r) (A' r) (L r) (Z r)

theorem RIn.later {w w' : World} {a : Option Addr} {n cap : Nat} {A : Nat → Option Addr} {L C : Nat → Nat} {Z : Nat → Nat → Int} (h : RIn w a n cap A L C Z) (hb : Below w.heap.size w w') : RIn w' a n cap A L C Z := by
  rcases h with h | ⟨x, rfl, h⟩
  · exact .inl h
  · refine .inr ⟨x, rfl, fun r hr => ⟨?_, (h r hr).2.later hb⟩⟩
    have h0 := (h r hr).1
    rw [hb.cell (World.block_lt_of_cell? w _ h0)]
    exact h0
theorem RCl.later {w w' : World} {a : Option Addr} {n B : Nat} {A A' : Nat → Option Addr} {L : Nat → Nat} {Z : Nat → Nat → Int} (h : RCl w a n A A' L Z) (hB : w.heap.size ≤ B) (hb : Below B w w') : RCl w' a n A A' L Z := by
  rcases h with h | ⟨b, rfl, h2, h⟩
  · exact .inl h
  · refine .inr ⟨b, rfl, Nat.lt_of_lt_of_le h2 hb.size, fun r hr => ⟨?_, (h r hr).2.later hB hb⟩⟩
    rw [hb.cell (by exact Nat.lt_of_lt_of_le h2 hB)]
    exact (h r hr).1
theorem RCl.rin {w : World} {a : Option Addr} {n : Nat} {A A' : Nat → Option Addr} {L : Nat → Nat} {Z : Nat → Nat → Int} (h : RCl w a n A A' L Z) : RIn w a n n A' L L Z := by
  rcases h with ⟨rfl, rfl⟩ | ⟨b, rfl, _, h⟩
  · exact .inl ⟨rfl, rfl, rfl⟩
  · exact .inr ⟨_, rfl, fun r hr => ⟨by rw [Addr.add_lit]; simpa using (h r hr).1, (h r hr).2.bin⟩⟩

theorem Try.info22 : (Try.prog.info? 22).map (fun i => (i.zero, i.size, i.bytes)) = some (some (.slice none 0 0), 1, 24) := by kernel_rfl

/-- The rows' slice as far as it is filled. -/
def filled (A' : Nat → Option Addr) (L : Nat → Nat) (k : Nat) : Nat → Value := fun r => if r < k then .slice (A' r) (L r) (L r) else .slice none 0 0

/-- One row more. -/
theorem filled_step {w : World} {b n k : Nat} {A A' : Nat → Option Addr} {L : Nat → Nat} {Z : Nat → Nat → Int} {a' : Option Addr} (h : w.rowIs b 22 n (filled A' L k)) (hcl : ∀ r, r < k → BCl w (b + 1) (A r) (A' r) (L r) (Z r)) (hn : BCl w (b + 1) (A k) a' (L k) (Z k)) :
    ∃ A'', (w.setCell ⟨b, k, none⟩ (.slice a' (L k) (L k))).rowIs b 22 n (filled A'' L (k + 1)) ∧ ∀ r, r < k + 1 → BCl (w.setCell ⟨b, k, none⟩ (.slice a' (L k) (L k))) (b + 1) (A r) (A'' r) (L r) (Z r) := by
  refine ⟨fun r => if r = k then a' else A' r, (h.set k _).congr fun j hj => ?_, fun r hr => ?_⟩
  · unfold filled
    by_cases e : j = k
    · subst e; simp
    · rw [if_neg e]
      by_cases e2 : j < k
      · rw [if_pos e2, if_pos (by omega)]; simp [e]
      · rw [if_neg e2, if_neg (by omega)]
  · refine BCl.store ?_ (by simp) _
    by_cases e : r = k
    · subst e; simpa using hn
    · simp only [if_neg e]
      exact hcl r (by omega)

set_option maxRecDepth 100000 in
set_option maxHeartbeats 800000 in
theorem cloneRaws_some (x : Addr) (n cap : Nat) (A : Nat → Option Addr) (L C : Nat → Nat) (Z : Nat → Nat → Int) (hn : n ≤ 1048576) (hL : ∀ r, r < n → L r ≤ 1048576) (w : World) (h : ∀ r, r < n → w.cell? (x.add r) = some (.slice (A r) (L r) (C r)) ∧ BIn w (A r) (L r) (C r) (Z r)) :
    Calls Try.prog 23 #[.slice (some x) n cap] w fun e w' => ∃ a' A', e = .returned (.slice a' n n) ∧ RCl w' a' n A A' L Z ∧ Below w.heap.size w w' := by
  have hnil := fun w => Lib.run_eql_slice_nil (P := Try.prog) w 38 22 (some x) n cap 0 0 Try.underlying38
  have hmk := run_make_row' (P := Try.prog) 38 22 (.slice none 0 0) 24 Try.underlying38 Try.info22 rfl .i64 .i64 n (by omega) (by omega)
  have HH : Hid (∀ r, r < n → w.cell? (x.add r) = some (.slice (A r) (L r) (C r)) ∧ BIn w (A r) (L r) (C r) (Z r)) := h
  have HL : Hid (∀ r, r < n → L r ≤ 1048576) := hL
  clear h hL
  go_enter Try.func23, Try.ntmps23
  go_wp2
  clear hnil hmk
  go_loopw [4] (fun i wr => ∃ (k : Nat) (A' : Nat → Option Addr), k ≤ n ∧ i = .int .i64 k ∧ wr.rowIs w.heap.size 22 n (filled A' L k) ∧ (∀ r, r < k → BCl wr (w.heap.size + 1) (A r) (A' r) (L r) (Z r)) ∧ Below w.heap.size w wr) (fun i _ => n - (intOf i).toNat)
  case atStart => exact ⟨0, fun _ => none, Nat.zero_le _, rfl, (World.rowIs_made w (.slice none 0 0) n 22).congr (fun j _ => by simp [filled]), fun r hr => by omega, (Below.refl _ _).alloc (Nat.le_refl _) _⟩
  case round =>
    obtain ⟨k, A', hk, rfl, hrow, hcl, hbel⟩ := hrel
    have HR : Hid (wr.rowIs w.heap.size 22 n (filled A' L k) ∧ (∀ r, r < k → BCl wr (w.heap.size + 1) (A r) (A' r) (L r) (Z r)) ∧ Below w.heap.size w wr) := ⟨hrow, hcl, hbel⟩
    clear hrow hcl hbel
    by_cases hlt : k < n
    · obtain ⟨b, off, rfl, hb⟩ := addr_plain (HH.out 0 (by omega)).1
      have hsrc : wr.cell? ⟨b, off + k, none⟩ = some (.slice (A k) (L k) (C k)) := by
        have h0 := (HH.out k hlt).1
        rw [Addr.add_lit] at h0
        exact (HR.out.2.2.cell (by exact hb)).trans h0
      have hbl : Hid (BIn wr (A k) (L k) (C k) (Z k)) := (HH.out k hlt).2.later HR.out.2.2
      have hlr := HR.out.1.lt
      go_wp2_with fail
      refine (cloneB (A k) (L k) (C k) (Z k) (HL.out k hlt) _ hbl.out).mono ?_
      rintro e w2 ⟨a2, rfl, hc2, hb2⟩
      have hrow2 : w2.rowIs w.heap.size 22 n (filled A' L k) := HR.out.1.of_block (hb2.block _ hlr)
      have hcl2 : ∀ r, r < k → BCl w2 (w.heap.size + 1) (A r) (A' r) (L r) (Z r) := fun r hr => (HR.out.2.1 r hr).later (Nat.le_refl _) hb2
      have hc2' : BCl w2 (w.heap.size + 1) (A k) a2 (L k) (Z k) := by
        rcases hc2 with h | ⟨y, b', h1, h2, h3, h4, h5⟩
        · exact .inl h
        · exact .inr ⟨y, b', h1, h2, by omega, h4, h5⟩
      have hbel2 : Below w.heap.size w w2 := HR.out.2.2.trans (hb2.mono HR.out.2.2.size)
      have hdst : ∃ v, w2.cell? ⟨w.heap.size, k, none⟩ = some v := ⟨_, hrow2.cell hlt⟩
      obtain ⟨v0, hdst⟩ := hdst
      have hfz := hrow2.frozen k
      have HF := (show Hid _ from filled_step hrow2 hcl2 hc2')
      have HB2 : Hid (Below w.heap.size w (w2.setCell ⟨w.heap.size, k, none⟩ (.slice a2 (L k) (L k)))) := hbel2.setCell (p := ⟨w.heap.size, k, none⟩) (Nat.le_refl _) _
      clear hrow2 hcl2 hc2' hbel2 hc2 hb2
      go_wp2
      go_roundw
      case rel =>
        obtain ⟨A'', h1, h2⟩ := HF.out
        exact ⟨k + 1, A'', by omega, by go_num, h1, h2, HB2.out⟩
      case measure => simp [intOf]; omega
    · have HN : Hid (k = n) := by simp [Hid]; omega
      go_wp2
      go_ret
      refine ⟨_, A', rfl, .inr ⟨w.heap.size, rfl, HR.out.1.lt, fun r hr => ⟨?_, HR.out.2.1 r (by have := HN.out; omega)⟩⟩, HR.out.2.2⟩
      rw [HR.out.1.cell hr]
      have := HN.out
      simp only [filled]
      rw [if_pos (by omega)]

set_option maxHeartbeats 400000 in
theorem cloneRaws_nil (w : World) : Calls Try.prog 23 #[.slice none 0 0] w fun e w' => e = .returned (.slice none 0 0) ∧ w = w' := by
  have hnil := fun w => Lib.run_eql_slice_nil (P := Try.prog) w 38 22 none 0 0 0 0 Try.underlying38
  go_enter Try.func23, Try.ntmps23
  go_wp2
  go_ret
  exact ⟨rfl, rfl⟩

theorem cloneRaws_any (a : Option Addr) (n cap : Nat) (A : Nat → Option Addr) (L C : Nat → Nat) (Z : Nat → Nat → Int) (hn : n ≤ 1048576) (hL : ∀ r, r < n → L r ≤ 1048576) (w : World) (h : RIn w a n cap A L C Z) :
    Calls Try.prog 23 #[.slice a n cap] w fun e w' => ∃ a' A', e = .returned (.slice a' n n) ∧ RCl w' a' n A A' L Z ∧ Below w.heap.size w w' := by
  rcases h with ⟨rfl, rfl, rfl⟩ | ⟨x, rfl, h⟩
  · refine (cloneRaws_nil w).mono fun e w' ⟨he, hw⟩ => ?_
    subst hw
    exact ⟨none, fun _ => none, he, .inl ⟨rfl, rfl⟩, Below.refl _ _⟩
  · exact cloneRaws_some x n cap A L C Z hn hL w h

end Go.Proofs.Qxb6600807a.Raws
