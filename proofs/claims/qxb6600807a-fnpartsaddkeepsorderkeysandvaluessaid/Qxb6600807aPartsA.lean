/-
  'openai.parts': what its memory holds; the plain lemmas on it.
-/
import Derived.Test.Qxb6600807aRows
import Derived.Test.Qxb6600807aFindP
import Derived.WalkKit
import Derived.WalkSpells
import Derived.WalkLawsBesides
import Derived.Outline
import Derived.Below
import Derived.Maps.OwnSet
import Derived.Deep.AppendLies
namespace Go.Proofs.Qxb6600807a.Parts
open Go.RowKit Go.Maps
open Find
set_option linter.unusedVariables false

theorem Try.info58 : (Try.prog.info? 58).map (fun i => (i.zero, i.size, i.bytes)) = some (some (.agg #[.string ByteArray.empty, .slice none 0 0, .pointer none]), 3, 48) := by kernel_rfl
theorem law9 : Keyed Try.prog 9 := string_keyed Try.underlying9
theorem zero3 (w : World) : (zeroValue 3).run Try.prog w = .ok (.int .i64 0) w := by kernel_rfl

/-- The cells of n entries: key, raw, parts. -/
def cellsOf (S : Nat → ByteArray) (R : Nat → Value) : Nat → List Value
  | 0 => []
  | n + 1 => cellsOf S R n ++ [.string (S n), R n, .pointer none]

theorem cellsOf_len (S : Nat → ByteArray) (R : Nat → Value) (n : Nat) : (cellsOf S R n).length = n * 3 := by
  induction n with
  | zero => rfl
  | succ n ih => simp [cellsOf, ih]; omega

theorem cellsOf_at (S : Nat → ByteArray) (R : Nat → Value) (n : Nat) : ∀ i, i < n → (cellsOf S R n)[i * 3]? = some (.string (S i)) ∧ (cellsOf S R n)[i * 3 + 1]? = some (R i) ∧ (cellsOf S R n)[i * 3 + 2]? = some (.pointer none) := by
  induction n with
  | zero => intro i hi; omega
  | succ n ih =>
    intro i hi
    have hl := cellsOf_len S R n
    simp only [cellsOf]
    rcases Nat.lt_or_ge i n with h | h
    · obtain ⟨h1, h2, h3⟩ := ih i h
      rw [List.getElem?_append_left (by omega), List.getElem?_append_left (by omega), List.getElem?_append_left (by omega)]
      exact ⟨h1, h2, h3⟩
    · have : i = n := by omega
      subst this
      rw [List.getElem?_append_right (by omega), List.getElem?_append_right (by omega), List.getElem?_append_right (by omega), hl]
      have e1 : i * 3 - i * 3 = 0 := by omega
      have e2 : i * 3 + 1 - i * 3 = 1 := by omega
      have e3 : i * 3 + 2 - i * 3 = 2 := by omega
      rw [e1, e2, e3]
      exact ⟨rfl, rfl, rfl⟩

/-- THE OBJECT AND ITS ENTRIES: block p holds the kind, the entries' slice ev, the map m; ev owns the n entries. -/
structure Ent (w : World) (B p : Nat) (S : Nat → ByteArray) (R : Nat → Value) (n : Nat) (ev : Value) (m : Option Nat) : Prop where
  base : B ≤ p
  blk : ∃ k, w.heap[p]? = some (.cells #[k, ev, .map m] 52 (0, 0))
  own : w.ownsRow B 58 3 ev n (cellsOf S R n)

/-- THE MAP: none while there are few; then each key's last place. -/
def Mp (w : World) (B : Nat) (S : Nat → ByteArray) (n : Nat) (m : Option Nat) : Prop :=
  (n ≤ 16 ∧ m = none) ∨ (16 < n ∧ ∃ mb, m = some mb ∧ B ≤ mb ∧ ∃ D : DataW Unit, w.ownsMap Try.prog 9 (plainElem Try.prog 3) mb n D ∧ Reads D S n)

namespace Ent
variable {w : World} {B p : Nat} {S : Nat → ByteArray} {R : Nat → Value} {n : Nat} {ev : Value} {m : Option Nat}
theorem lt (h : Ent w B p S R n ev m) : p < w.heap.size := by
  obtain ⟨k, hk⟩ := h.blk
  exact (Array.getElem?_eq_some_iff.1 hk).1
theorem cell1 (h : Ent w B p S R n ev m) : w.cell? ⟨p, 1, none⟩ = some ev := by
  obtain ⟨k, hk⟩ := h.blk
  simp [World.cell?, hk]
theorem cell2 (h : Ent w B p S R n ev m) : w.cell? ⟨p, 2, none⟩ = some (.map m) := by
  obtain ⟨k, hk⟩ := h.blk
  simp [World.cell?, hk]
theorem frz (h : Ent w B p S R n ev m) (i : Nat) : w.frozen? ⟨p, i, none⟩ = false := by
  obtain ⟨k, hk⟩ := h.blk
  simp [World.frozen?, hk]
/-- The entries' row is not the object's block. -/
theorem apart (h : Ent w B p S R n ev m) : ev.ownBlock ≠ some p := by
  intro e
  obtain ⟨k, hk⟩ := h.blk
  rcases h.own.2 with ⟨rfl, _⟩ | ⟨g, cap, cur, rfl, _, hg, _⟩
  · simp [Value.ownBlock] at e
  · simp [Value.ownBlock] at e
    subst e
    rw [hk] at hg
    simp at hg
theorem alloc (h : Ent w B p S R n ev m) (o : Obj) : Ent (w.alloc o) B p S R n ev m := by
  refine ⟨h.base, ?_, h.own.alloc o⟩
  obtain ⟨k, hk⟩ := h.blk
  exact ⟨k, by rw [Below.heap_alloc _ _ _ h.lt]; exact hk⟩
theorem drew (h : Ent w B p S R n ev m) : Ent w.drew B p S R n ev m := ⟨h.base, h.blk, h.own⟩
end Ent

/-- A new slice (the entries') is stored into the object. -/
theorem ent_store1 {w : World} {B p : Nat} {S : Nat → ByteArray} {R : Nat → Value} {n : Nat} {ev ev' : Value} {m : Option Nat} (hb : B ≤ p) (hblk : ∃ k, w.heap[p]? = some (.cells #[k, ev, .map m] 52 (0, 0)))
    (ho : w.ownsRow B 58 3 ev' n (cellsOf S R n)) (hne : ev'.ownBlock ≠ some p) : Ent (w.setCell ⟨p, 1, none⟩ ev') B p S R n ev' m := by
  obtain ⟨k, hk⟩ := hblk
  refine ⟨hb, ⟨k, ?_⟩, ?_⟩
  · rw [heap_setCell_same w p 1 _ 52 ev' hk]
    simp
  · refine ho.kept (row := some p) ⟨rfl, rfl, rfl, by simp, fun k _ hk' => heap_setCell_other w ⟨p, 1, none⟩ k ev' (fun e => hk' (by simp [e]))⟩ ?_
    right
    exact hne
/-- A map is stored into the object. -/
theorem ent_store2 {w : World} {B p : Nat} {S : Nat → ByteArray} {R : Nat → Value} {n : Nat} {ev : Value} {m m' : Option Nat} (h : Ent w B p S R n ev m) : Ent (w.setCell ⟨p, 2, none⟩ (.map m')) B p S R n ev m' := by
  have hne := h.apart
  obtain ⟨k, hk⟩ := h.blk
  refine ⟨h.base, ⟨k, ?_⟩, ?_⟩
  · rw [heap_setCell_same w p 2 _ 52 (.map m') hk]
    simp
  · refine h.own.kept (row := some p) ⟨rfl, rfl, rfl, by simp, fun k _ hk' => heap_setCell_other w ⟨p, 2, none⟩ k (.map m') (fun e => hk' (by simp [e]))⟩ ?_
    right
    exact hne

end Go.Proofs.Qxb6600807a.Parts
