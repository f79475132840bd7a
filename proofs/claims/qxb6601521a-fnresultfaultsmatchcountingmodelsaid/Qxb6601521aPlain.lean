/-
  THE PLAIN LAW of the balance: what the lists of faults hold, place by place.
-/
import Derived.Test.Qxb6601521aModel
namespace Go.Proofs.Qxb6601521a
set_option linter.unusedVariables false

def nth (L : List Flt) (i : Nat) : Flt := L.getD i ⟨0, 0, 0, 0⟩
theorem nth_left {x y : List Flt} {i : Nat} (h : i < x.length) : nth (x ++ y) i = nth x i := by simp [nth, List.getElem?_append_left h]
theorem nth_right {x y : List Flt} {i : Nat} (h : x.length ≤ i) : nth (x ++ y) i = nth y (i - x.length) := by simp [nth, List.getElem?_append_right h]
theorem nth_last (x : List Flt) (f : Flt) : nth (x ++ [f]) x.length = f := by simp [nth]

/-- The cells of a list of faults. -/
theorem fcells_at : ∀ (L : List Flt) (i : Nat), i < L.length → (fcells L)[i * 4]? = some (.int .i64 (nth L i).k) ∧ (fcells L)[i * 4 + 1]? = some (.int .i64 (nth L i).a) ∧ (fcells L)[i * 4 + 2]? = some (.int .i64 (nth L i).q) ∧ (fcells L)[i * 4 + 3]? = some (.int .i64 (nth L i).c)
  | [], i, h => by simp at h
  | f :: r, 0, _ => by simp [fcells, Flt.cells, nth]
  | f :: r, i + 1, h => by
    have h1 := fcells_at r i (by simpa using h)
    have e : ∀ d, (fcells (f :: r))[(i + 1) * 4 + d]? = (fcells r)[i * 4 + d]? := fun d => by
      simp only [fcells, Flt.cells]
      have : (i + 1) * 4 + d = (i * 4 + d) + 4 := by omega
      rw [this]
      rfl
    have e0 := e 0
    simp only [Nat.add_zero] at e0
    rw [e0, e 1, e 2, e 3]
    exact h1

/-- Result faults: rising places inside the run. -/
def GoodE (q : Int) (k : Nat) (E : List Flt) : Prop :=
  (∀ i, i < E.length → ((nth E i).k = 1 ∨ (nth E i).k = 2) ∧ q < (nth E i).a ∧ (nth E i).a ≤ q + k ∧ (nth E i).q = q ∧ (nth E i).c = 0) ∧ ∀ i, i + 1 < E.length → (nth E i).a < (nth E (i + 1)).a
theorem goodE (C ids : Nat → ByteArray) (c : Nat) (q : Int) : ∀ k, GoodE q k (exE C ids c q k)
  | 0 => ⟨fun i hi => by simp [exE] at hi, fun i hi => by simp [exE] at hi⟩
  | k + 1 => by
    obtain ⟨h1, h2⟩ := goodE C ids c q k
    have e1 : ((k + 1 : Nat) : Int) = (k : Int) + 1 := by omega
    simp only [exE]
    split
    · refine ⟨fun i hi => ?_, h2⟩
      obtain ⟨a1, a2, a3, a4⟩ := h1 i hi
      exact ⟨a1, a2, by omega, a4⟩
    · refine ⟨fun i hi => ?_, fun i hi => ?_⟩
      · simp only [List.length_append, List.length_cons, List.length_nil] at hi
        by_cases hl : i < (exE C ids c q k).length
        · rw [nth_left hl]
          obtain ⟨a1, a2, a3, a4⟩ := h1 i hl
          exact ⟨a1, a2, by omega, a4⟩
        · have : i = (exE C ids c q k).length := by omega
          subst this
          rw [nth_last]
          refine ⟨?_, by show q < q + 1 + (k : Int); omega, by show q + 1 + (k : Int) ≤ _; omega, rfl, rfl⟩
          show (if _ then (2 : Int) else 1) = 1 ∨ (if _ then (2 : Int) else 1) = 2
          split
          · exact .inr rfl
          · exact .inl rfl
      · simp only [List.length_append, List.length_cons, List.length_nil] at hi
        by_cases hl : i + 1 < (exE C ids c q k).length
        · rw [nth_left hl, nth_left (by omega)]
          exact h2 i hl
        · have e : i + 1 = (exE C ids c q k).length := by omega
          rw [e, nth_last, nth_left (by omega)]
          have := (h1 i (by omega)).2.2.1
          show _ < q + 1 + (k : Int)
          omega

/-- Missing calls: rising. -/
def GoodM (e q : Int) (c : Nat) (L : List Flt) : Prop :=
  (∀ i, i < L.length → (nth L i).k = 3 ∧ (nth L i).a = e ∧ (nth L i).q = q ∧ 0 ≤ (nth L i).c ∧ (nth L i).c < c) ∧ ∀ i, i + 1 < L.length → (nth L i).c < (nth L (i + 1)).c
theorem goodM (ans : Nat → Bool) (e q : Int) : ∀ c, GoodM e q c (misE ans e q c)
  | 0 => ⟨fun i hi => by simp [misE] at hi, fun i hi => by simp [misE] at hi⟩
  | c + 1 => by
    obtain ⟨h1, h2⟩ := goodM ans e q c
    have e1 : ((c + 1 : Nat) : Int) = (c : Int) + 1 := by omega
    simp only [misE]
    split
    · refine ⟨fun i hi => ?_, h2⟩
      obtain ⟨a1, a2, a3, a4, a5⟩ := h1 i hi
      exact ⟨a1, a2, a3, a4, by omega⟩
    · refine ⟨fun i hi => ?_, fun i hi => ?_⟩
      · simp only [List.length_append, List.length_cons, List.length_nil] at hi
        by_cases hl : i < (misE ans e q c).length
        · rw [nth_left hl]
          obtain ⟨a1, a2, a3, a4, a5⟩ := h1 i hl
          exact ⟨a1, a2, a3, a4, by omega⟩
        · have : i = (misE ans e q c).length := by omega
          subst this
          rw [nth_last]
          exact ⟨rfl, rfl, rfl, by show (0 : Int) ≤ (c : Int); omega, by show (c : Int) < _; omega⟩
      · simp only [List.length_append, List.length_cons, List.length_nil] at hi
        by_cases hl : i + 1 < (misE ans e q c).length
        · rw [nth_left hl, nth_left (by omega)]
          exact h2 i hl
        · have e2 : i + 1 = (misE ans e q c).length := by omega
          rw [e2, nth_last, nth_left (by omega)]
          have := (h1 i (by omega)).2.2.2.2
          exact this

end Go.Proofs.Qxb6601521a
