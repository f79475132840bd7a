/-
  PLAIN: first and last places of a key among keys; what a map that was filled key by key holds. No Go text in sight.
-/
import Derived.Maps.OwnSet
import Derived.WideShapes
namespace Go.Proofs.Qxb6600807a.Find

def First (S : Nat → ByteArray) (n : Nat) (q : ByteArray) (r : Int) : Prop :=
  (r = -1 ∧ ∀ j, j < n → S j ≠ q) ∨ ∃ i : Nat, r = (i : Int) ∧ i < n ∧ S i = q ∧ ∀ j, j < i → S j ≠ q
def Last (S : Nat → ByteArray) (n : Nat) (q : ByteArray) (r : Int) : Prop :=
  (r = -1 ∧ ∀ j, j < n → S j ≠ q) ∨ ∃ i : Nat, r = (i : Int) ∧ i < n ∧ S i = q ∧ ∀ j, i < j → j < n → S j ≠ q
/-- What find answers: the first place while there are few, the last when there are many. -/
def Finds (S : Nat → ByteArray) (n : Nat) (q : ByteArray) (r : Int) : Prop := (n ≤ 16 → First S n q r) ∧ (16 < n → Last S n q r)

theorem first_one {S : Nat → ByteArray} {n : Nat} {q : ByteArray} {r r' : Int} (h : First S n q r) (h' : First S n q r') : r = r' := by
  rcases h with ⟨rfl, h⟩ | ⟨i, rfl, h1, h2, h3⟩
  · rcases h' with ⟨rfl, h'⟩ | ⟨i', rfl, h1', h2', h3'⟩
    · rfl
    · exact absurd h2' (h i' h1')
  · rcases h' with ⟨rfl, h'⟩ | ⟨i', rfl, h1', h2', h3'⟩
    · exact absurd h2 (h' i h1)
    · rcases Nat.lt_trichotomy i i' with h | h | h
      · exact absurd h2 (h3' i h)
      · rw [h]
      · exact absurd h2' (h3 i' h)
theorem last_one {S : Nat → ByteArray} {n : Nat} {q : ByteArray} {r r' : Int} (h : Last S n q r) (h' : Last S n q r') : r = r' := by
  rcases h with ⟨rfl, h⟩ | ⟨i, rfl, h1, h2, h3⟩
  · rcases h' with ⟨rfl, h'⟩ | ⟨i', rfl, h1', h2', h3'⟩
    · rfl
    · exact absurd h2' (h i' h1')
  · rcases h' with ⟨rfl, h'⟩ | ⟨i', rfl, h1', h2', h3'⟩
    · exact absurd h2 (h' i h1)
    · rcases Nat.lt_trichotomy i i' with h | h | h
      · exact absurd h2' (h3 i' h h1')
      · rw [h]
      · exact absurd h2 (h3' i h h1)
theorem finds_one {S : Nat → ByteArray} {n : Nat} {q : ByteArray} {r r' : Int} (h : Finds S n q r) (h' : Finds S n q r') : r = r' := by
  by_cases hn : n ≤ 16
  · exact first_one (h.1 hn) (h'.1 hn)
  · exact last_one (h.2 (by omega)) (h'.2 (by omega))

/-- It is a place that holds the key, or there is none. -/
theorem finds_some {S : Nat → ByteArray} {n : Nat} {q : ByteArray} {r : Int} (h : Finds S n q r) : (r = -1 ∧ ∀ j, j < n → S j ≠ q) ∨ ∃ i : Nat, r = (i : Int) ∧ i < n ∧ S i = q := by
  by_cases hn : n ≤ 16
  · rcases h.1 hn with h | ⟨i, h1, h2, h3, _⟩
    · exact .inl h
    · exact .inr ⟨i, h1, h2, h3⟩
  · rcases h.2 (by omega) with h | ⟨i, h1, h2, h3, _⟩
    · exact .inl h
    · exact .inr ⟨i, h1, h2, h3⟩

theorem beq_yes {a b : ByteArray} (h : (a.toList == b.toList) = true) : a = b := by
  have h' : a.toList = b.toList := by simpa using h
  rw [ByteArray.toList_eq, ByteArray.toList_eq] at h'
  exact WideShapes.bytes_inj h'
theorem beq_no {a b : ByteArray} (h : (a.toList == b.toList) = false) : a ≠ b := by
  intro e
  subst e
  simp at h
theorem beq_of_eq {a b : ByteArray} (h : a = b) : (a.toList == b.toList) = true := by subst h; simp
theorem beq_of_ne {a b : ByteArray} (h : a ≠ b) : (a.toList == b.toList) = false := by
  cases e : (a.toList == b.toList)
  · rfl
  · exact absurd (beq_yes e) h

/-- THE MAP D HOLDS, OF THE FIRST n KEYS, EACH KEY's LAST PLACE. -/
def Reads (D : DataW Unit) (S : Nat → ByteArray) (n : Nat) : Prop :=
  ∀ q : ByteArray, (Maps.has D (.string q.data.toList) = false ∧ ∀ j, j < n → S j ≠ q) ∨
    (Maps.has D (.string q.data.toList) = true ∧ ∃ i : Nat, i < n ∧ S i = q ∧ (∀ j, i < j → j < n → S j ≠ q) ∧ ∀ z, D.atKey (.string q.data.toList) z = .lit (.int .i64 (i : Int)))

theorem reads_start (S : Nat → ByteArray) : Reads (.map []) S 0 := fun q => .inl ⟨rfl, fun j hj => by omega⟩

theorem isKeyLit_string (l : List UInt8) : WideAt.IsKeyLit (.string l) := by trivial

theorem reads_put {D : DataW Unit} {S : Nat → ByteArray} {n : Nat} (h : Reads D S n) (hD : Maps.IsMap D) : Reads (D.put (.string (S n).data.toList) (.lit (.int .i64 (n : Int)))) S (n + 1) := by
  intro q
  by_cases e : S n = q
  · right
    subst e
    exact ⟨Maps.has_put_same hD (isKeyLit_string _) _, n, by omega, rfl, fun j h1 h2 => by omega, fun z => Maps.atKey_put_same hD (isKeyLit_string _) _ _⟩
  · have hne : (Lit.string q.data.toList) ≠ .string (S n).data.toList := by
      intro h'
      apply e
      exact (WideShapes.bytes_inj (by simpa using h')).symm
    rcases h q with ⟨h1, h2⟩ | ⟨h1, i, h2, h3, h4, h5⟩
    · left
      refine ⟨by rw [Maps.has_put_other hne]; exact h1, fun j hj => ?_⟩
      rcases Nat.lt_or_ge j n with h | h
      · exact h2 j h
      · have : j = n := by omega
        subst this
        exact e
    · right
      refine ⟨by rw [Maps.has_put_other hne]; exact h1, i, by omega, h3, fun j hj1 hj2 => ?_, fun z => by rw [Maps.atKey_put_other hne]; exact h5 z⟩
      rcases Nat.lt_or_ge j n with h | h
      · exact h4 j hj1 h
      · have : j = n := by omega
        subst this
        exact e

theorem reads_no {D : DataW Unit} {S : Nat → ByteArray} {n : Nat} {q : ByteArray} (h : Reads D S n) (hh : Maps.has D (.string q.data.toList) = false) : Last S n q (-1) := by
  rcases h q with ⟨_, h2⟩ | ⟨h1, _⟩
  · exact .inl ⟨rfl, h2⟩
  · rw [h1] at hh; cases hh
theorem reads_yes {D : DataW Unit} {S : Nat → ByteArray} {n : Nat} {q : ByteArray} {c : Int} (h : Reads D S n) (hh : Maps.has D (.string q.data.toList) = true) (hc : D.atKey (.string q.data.toList) (.lit (.int .i64 0)) = .lit (.int .i64 c)) : Last S n q c := by
  rcases h q with ⟨h1, h2⟩ | ⟨h1, i, h2, h3, h4, h5⟩
  · rw [h1] at hh; cases hh
  · rw [h5] at hc
    have : (i : Int) = c := by simpa using hc
    exact .inr ⟨i, this.symm, h2, h3, h4⟩

end Go.Proofs.Qxb6600807a.Find
