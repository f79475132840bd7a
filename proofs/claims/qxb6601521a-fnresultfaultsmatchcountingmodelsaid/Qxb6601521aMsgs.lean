/-
  WHAT THE LAWS ARE HANDED: a slice of messages, each with three slices of strings' structs.
-/
import Derived.Test.Qxb6601521aRows
import Derived.WalkKit
import Derived.WalkSpells
import Derived.WalkLawsBesides
import Derived.Outline
import Derived.Below
import Derived.Deep.OwnRows
namespace Go.Proofs.Qxb6601521a
open Go.RowKit
set_option linter.unusedVariables false

/-- A message as data; a slice's elements as strings by (index, field). -/
structure Msg where
  role : ByteArray
  content : ByteArray
  id : ByteArray
  prov : ByteArray
  failed : Bool
  ca : Option Addr
  cn : Nat
  cc : Nat
  cs : Nat → Nat → ByteArray
  ta : Option Addr
  tn : Nat
  tc : Nat
  ts : Nat → Nat → ByteArray
  pa : Option Addr
  pn : Nat
  pc : Nat
  ps : Nat → Nat → ByteArray

/-- A slice of structs of 'size' strings. -/
def SIn (w : World) (size : Nat) (a : Option Addr) (n cap : Nat) (s : Nat → Nat → ByteArray) : Prop :=
  (a = none ∧ n = 0 ∧ cap = 0) ∨ ∃ x, a = some x ∧ ∀ j, j < n → ∀ f, f < size → w.cell? (x.add (j * size + f)) = some (.string (s j f))

/-- The cells of one message. -/
structure Fields (w : World) (x : Addr) (i : Nat) (m : Msg) : Prop where
  f0 : w.cell? (x.add (i * 8)) = some (.string m.role)
  f1 : w.cell? (x.add (i * 8 + 1)) = some (.string m.content)
  f2 : w.cell? (x.add (i * 8 + 2)) = some (.slice m.ca m.cn m.cc)
  f3 : w.cell? (x.add (i * 8 + 3)) = some (.string m.id)
  f4 : w.cell? (x.add (i * 8 + 4)) = some (.bool m.failed)
  f5 : w.cell? (x.add (i * 8 + 5)) = some (.slice m.ta m.tn m.tc)
  f6 : w.cell? (x.add (i * 8 + 6)) = some (.slice m.pa m.pn m.pc)
  f7 : w.cell? (x.add (i * 8 + 7)) = some (.string m.prov)
  calls : SIn w 4 m.ca m.cn m.cc m.cs
  think : SIn w 3 m.ta m.tn m.tc m.ts
  parts : SIn w 2 m.pa m.pn m.pc m.ps

/-- Every string and slice is no longer than Go allows. -/
structure Sized (m : Msg) : Prop where
  role : m.role.size ≤ 9223372036854775807
  content : m.content.size ≤ 9223372036854775807
  id : m.id.size ≤ 9223372036854775807
  prov : m.prov.size ≤ 9223372036854775807
  cn : m.cn ≤ 9223372036854775807
  cs : ∀ j f, (m.cs j f).size ≤ 9223372036854775807
  tn : m.tn ≤ 9223372036854775807
  ts : ∀ j f, (m.ts j f).size ≤ 9223372036854775807
  pn : m.pn ≤ 9223372036854775807
  ps : ∀ j f, (m.ps j f).size ≤ 9223372036854775807

def MIn (w : World) (a : Option Addr) (n cap : Nat) (M : Nat → Msg) : Prop :=
  (a = none ∧ n = 0 ∧ cap = 0) ∨ ∃ x, a = some x ∧ ∀ i, i < n → Fields w x i (M i)

/-- The address of a cell that is there: no spot, and its block is there. -/
theorem addr_plain {w : World} {x : Addr} {v : Value} (h : w.cell? (x.add 0) = some v) : ∃ b off, x = ⟨b, off, none⟩ ∧ b < w.heap.size := by
  obtain ⟨b, off, spot⟩ := x
  have hspot : spot = none := by simpa [Addr.add] using World.cell?_spot h
  subst hspot
  refine ⟨b, off, rfl, ?_⟩
  have := World.block_lt_of_cell? w _ h
  simpa [Addr.add] using this

theorem min_some {w : World} {a : Option Addr} {n cap : Nat} {M : Nat → Msg} (h : MIn w a n cap M) (hn : 0 < n) : ∃ b off, a = some ⟨b, off, none⟩ ∧ b < w.heap.size ∧ ∀ i, i < n → Fields w ⟨b, off, none⟩ i (M i) := by
  rcases h with ⟨_, h, _⟩ | ⟨x, rfl, h⟩
  · omega
  · obtain ⟨b, off, rfl, hb⟩ := addr_plain (v := .string (M 0).role) (by simpa using (h 0 hn).f0)
    exact ⟨b, off, rfl, hb, h⟩
theorem sin_some {w : World} {size : Nat} {a : Option Addr} {n cap : Nat} {s : Nat → Nat → ByteArray} (h : SIn w size a n cap s) (hn : 0 < n) (hs : 0 < size) : ∃ b off, a = some ⟨b, off, none⟩ ∧ b < w.heap.size ∧ ∀ j, j < n → ∀ f, f < size → w.cell? ⟨b, off + (j * size + f), none⟩ = some (.string (s j f)) := by
  rcases h with ⟨_, h, _⟩ | ⟨x, rfl, h⟩
  · omega
  · obtain ⟨b, off, rfl, hb⟩ := addr_plain (v := .string (s 0 0)) (by simpa using h 0 hn 0 hs)
    exact ⟨b, off, rfl, hb, fun j hj f hf => by have := h j hj f hf; rw [Addr.add_lit] at this; exact this⟩

theorem SIn.later {w w' : World} {size : Nat} {a : Option Addr} {n cap : Nat} {s : Nat → Nat → ByteArray} (h : SIn w size a n cap s) (hb : Below w.heap.size w w') : SIn w' size a n cap s := by
  rcases h with h | ⟨x, rfl, h⟩
  · exact .inl h
  · refine .inr ⟨x, rfl, fun j hj f hf => ?_⟩
    have h0 := h j hj f hf
    rw [hb.cell (World.block_lt_of_cell? w _ h0)]
    exact h0
theorem cell_later {w w' : World} {p : Addr} {v : Value} (hb : Below w.heap.size w w') (h : w.cell? p = some v) : w'.cell? p = some v := by
  rw [hb.cell (World.block_lt_of_cell? w _ h)]
  exact h
theorem Fields.later {w w' : World} {x : Addr} {i : Nat} {m : Msg} (h : Fields w x i m) (hb : Below w.heap.size w w') : Fields w' x i m :=
  ⟨cell_later hb h.f0, cell_later hb h.f1, cell_later hb h.f2, cell_later hb h.f3, cell_later hb h.f4, cell_later hb h.f5, cell_later hb h.f6, cell_later hb h.f7, h.calls.later hb, h.think.later hb, h.parts.later hb⟩
theorem MIn.later {w w' : World} {a : Option Addr} {n cap : Nat} {M : Nat → Msg} (h : MIn w a n cap M) (hb : Below w.heap.size w w') : MIn w' a n cap M := by
  rcases h with h | ⟨x, rfl, h⟩
  · exact .inl h
  · exact .inr ⟨x, rfl, fun i hi => (h i hi).later hb⟩

/-- It answers some bool, and the world is as it was. -/
def AnyBool (e : Ending) (w w' : World) (q : Prop) : Prop := ∃ t, e = .returned (.bool t) ∧ w = w' ∧ (t = true → q)
theorem anyNo {e : Ending} {w w' : World} {q : Prop} (h : e = .returned (.bool false)) (h' : w = w') : AnyBool e w w' q := ⟨false, h, h', fun h => by cases h⟩
theorem anyYes {e : Ending} {w w' : World} {q : Prop} (h : e = .returned (.bool true)) (h' : w = w') (hq : q) : AnyBool e w w' q := ⟨true, h, h', fun _ => hq⟩

/-- What the guard of lengths gives. -/
def Small (n : Nat) (M : Nat → Msg) : Prop := n ≤ 1048576 ∧ ∀ i, i < n → (M i).cn ≤ 1048576 ∧ (M i).tn ≤ 1048576 ∧ (M i).pn ≤ 1048576

end Go.Proofs.Qxb6601521a
