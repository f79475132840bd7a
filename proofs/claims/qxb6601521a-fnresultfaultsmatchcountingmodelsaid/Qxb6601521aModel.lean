/-
  THE PLAIN LAW: marking calls one by one and counting them give the same faults.
-/
import Derived.Test.Qxb6601521aMsgs
namespace Go.Proofs.Qxb6601521a
set_option linter.unusedVariables false

/-- A fault: kind, at, asked, call. -/
structure Flt where
  k : Int
  a : Int
  q : Int
  c : Int
def Flt.cells (f : Flt) : List Value := [.int .i64 f.k, .int .i64 f.a, .int .i64 f.q, .int .i64 f.c]
def fcells : List Flt → List Value
  | [] => []
  | f :: r => f.cells ++ fcells r
theorem fcells_append (x y : List Flt) : fcells (x ++ y) = fcells x ++ fcells y := by
  induction x with
  | nil => rfl
  | cons f r ih => simp [fcells, ih]
theorem fcells_length (x : List Flt) : (fcells x).length = x.length * 4 := by
  induction x with
  | nil => rfl
  | cons f r ih => simp [fcells, Flt.cells, ih]; omega

/-- How many of the first n are x. -/
def cnt (f : Nat → ByteArray) (x : ByteArray) : Nat → Nat
  | 0 => 0
  | n + 1 => cnt f x n + if f n = x then 1 else 0
/-- The faults of the first k results. -/
def exE (C ids : Nat → ByteArray) (c : Nat) (q : Int) : Nat → List Flt
  | 0 => []
  | k + 1 => if cnt ids (ids k) k < cnt C (ids k) c then exE C ids c q k else exE C ids c q k ++ [⟨if 0 < cnt C (ids k) c then 2 else 1, q + 1 + k, q, 0⟩]
/-- The faults of the first j calls. -/
def misE (ans : Nat → Bool) (e q : Int) : Nat → List Flt
  | 0 => []
  | j + 1 => if ans j = true then misE ans e q j else misE ans e q j ++ [⟨3, e, q, j⟩]
def trues (ans : Nat → Bool) : Nat → Nat
  | 0 => 0
  | j + 1 => trues ans j + if ans j = true then 1 else 0
def upd (ans : Nat → Bool) (j : Nat) : Nat → Bool := fun i => if i = j then true else ans i

theorem cnt_mono {f : Nat → ByteArray} {x : ByteArray} {i : Nat} : ∀ j, i ≤ j → cnt f x i ≤ cnt f x j
  | 0, h => by
    have : i = 0 := by omega
    subst this
    exact Nat.le_refl _
  | j + 1, h => by
    by_cases e : i = j + 1
    · subst e; exact Nat.le_refl _
    · have := cnt_mono (f := f) (x := x) (i := i) j (by omega)
      simp only [cnt]
      omega
theorem cnt_lt {f : Nat → ByteArray} {x : ByteArray} {i j : Nat} (h : i < j) (hx : f i = x) : cnt f x i < cnt f x j := by
  have h1 := cnt_mono (f := f) (x := x) (i := i + 1) j h
  simp only [cnt, if_pos hx] at h1
  omega
theorem rank_inj {f : Nat → ByteArray} {x : ByteArray} {i j : Nat} (hi : f i = x) (hj : f j = x) (h : cnt f x i = cnt f x j) : i = j := by
  rcases Nat.lt_trichotomy i j with h1 | h1 | h1
  · have := cnt_lt h1 hi; omega
  · exact h1
  · have := cnt_lt h1 hj; omega
theorem rank_ex {f : Nat → ByteArray} {x : ByteArray} {m : Nat} : ∀ n, m < cnt f x n → ∃ j, j < n ∧ f j = x ∧ cnt f x j = m
  | 0, h => by simp [cnt] at h
  | n + 1, h => by
    by_cases h1 : m < cnt f x n
    · obtain ⟨j, hj, h2⟩ := rank_ex n h1
      exact ⟨j, by omega, h2⟩
    · by_cases e : f n = x
      · simp only [cnt, if_pos e] at h
        exact ⟨n, by omega, e, by omega⟩
      · simp only [cnt, if_neg e] at h
        omega
theorem cnt_pos {f : Nat → ByteArray} {x : ByteArray} {n j : Nat} (h : j < n) (hx : f j = x) : 0 < cnt f x n := by
  have := cnt_lt h hx
  omega
theorem cnt_zero {f : Nat → ByteArray} {x : ByteArray} {n : Nat} (h : ∀ j, j < n → f j ≠ x) : cnt f x n = 0 := by
  rcases Nat.eq_zero_or_pos (cnt f x n) with h0 | h0
  · exact h0
  · obtain ⟨j, hj, hx, _⟩ := rank_ex n h0
    exact absurd hx (h j hj)

/-- The marks after k results. -/
def Marks (C ids : Nat → ByteArray) (c k : Nat) (ans : Nat → Bool) : Prop := ∀ j, j < c → (ans j = true ↔ cnt C (C j) j < cnt ids (C j) k)

theorem marks_none {C ids : Nat → ByteArray} {c k : Nat} {ans : Nat → Bool} (h : Marks C ids c k ans) (hall : ∀ j, j < c → C j = ids k → ans j = true) : Marks C ids c (k + 1) ans ∧ ¬ cnt ids (ids k) k < cnt C (ids k) c := by
  refine ⟨fun j hj => ?_, fun hlt => ?_⟩
  · by_cases e : C j = ids k
    · have h1 := (h j hj).1 (hall j hj e)
      have h2 : cnt C (C j) j < cnt ids (C j) (k + 1) := by simp only [cnt]; omega
      exact ⟨fun _ => h2, fun _ => hall j hj e⟩
    · have h2 : cnt ids (C j) (k + 1) = cnt ids (C j) k := by simp only [cnt, if_neg (Ne.symm e)]; rfl
      rw [h2]
      exact h j hj
  · obtain ⟨j, hj, hx, hr⟩ := rank_ex c hlt
    have h1 := (h j hj).1 (hall j hj hx)
    rw [hx] at h1
    omega

theorem marks_some {C ids : Nat → ByteArray} {c k j : Nat} {ans : Nat → Bool} (h : Marks C ids c k ans) (hj : j < c) (hx : C j = ids k) (hno : ans j = false) (hall : ∀ j', j' < j → C j' = ids k → ans j' = true) :
    Marks C ids c (k + 1) (upd ans j) ∧ cnt ids (ids k) k < cnt C (ids k) c := by
  have hr1 : ¬ cnt C (C j) j < cnt ids (C j) k := fun hh => by
    have := (h j hj).2 hh
    rw [hno] at this
    cases this
  rw [hx] at hr1
  have hr : cnt C (ids k) j = cnt ids (ids k) k := by
    rcases Nat.lt_or_ge (cnt ids (ids k) k) (cnt C (ids k) j) with h1 | h1
    · obtain ⟨j', hj', hx', hr'⟩ := rank_ex j h1
      have := (h j' (by omega)).1 (hall j' hj' hx')
      rw [hx'] at this
      omega
    · omega
  refine ⟨fun i hi => ?_, ?_⟩
  · by_cases e : i = j
    · subst e
      have : cnt C (C i) i < cnt ids (C i) (k + 1) := by
        rw [hx]
        simp only [cnt, if_true]
        omega
      simp only [upd, if_true, true_iff]
      exact this
    · simp only [upd, if_neg e]
      by_cases e2 : C i = ids k
      · rw [h i hi, e2]
        simp only [cnt, if_true]
        constructor
        · intro h1; omega
        · intro h1
          rcases Nat.lt_or_ge (cnt C (ids k) i) (cnt ids (ids k) k) with h2 | h2
          · exact h2
          · exact absurd (rank_inj e2 hx (by omega)) e
      · have h2 : cnt ids (C i) (k + 1) = cnt ids (C i) k := by simp only [cnt, if_neg (Ne.symm e2)]; rfl
        rw [h2]
        exact h i hi
  · rw [← hr]
    exact cnt_lt hj hx

theorem marks_zero (C ids : Nat → ByteArray) (c : Nat) : Marks C ids c 0 (fun _ => false) := fun j hj => by simp [cnt]

theorem trues_same {ans ans' : Nat → Bool} : ∀ n, (∀ i, i < n → ans i = ans' i) → trues ans n = trues ans' n
  | 0, _ => rfl
  | n + 1, h => by simp only [trues, trues_same n (fun i hi => h i (by omega)), h n (by omega)]
theorem trues_upd {ans : Nat → Bool} {j : Nat} (hno : ans j = false) : ∀ n, j < n → trues (upd ans j) n = trues ans n + 1
  | 0, h => by omega
  | n + 1, h => by
    by_cases e : j = n
    · subst e
      have h1 : trues (upd ans j) j = trues ans j := trues_same j (fun i hi => by simp [upd, show i ≠ j by omega])
      simp only [trues, h1]
      simp [upd, hno]
    · have h1 := trues_upd hno n (by omega)
      have h2 : upd ans j n = ans n := by simp [upd, show n ≠ j by omega]
      simp only [trues, h1, h2]
      omega
theorem trues_false : ∀ n, trues (fun _ => false) n = 0
  | 0 => rfl
  | n + 1 => by simp [trues, trues_false n]
theorem misE_length (ans : Nat → Bool) (e q : Int) : ∀ n, (misE ans e q n).length + trues ans n = n
  | 0 => rfl
  | n + 1 => by
    have := misE_length ans e q n
    by_cases h : ans n = true
    · simp only [misE, trues, if_pos h]; omega
    · simp only [misE, trues, if_neg h, List.length_append, List.length_cons, List.length_nil]; omega
theorem exE_length (C ids : Nat → ByteArray) (c : Nat) (q : Int) : ∀ k, (exE C ids c q k).length ≤ k
  | 0 => Nat.le_refl _
  | k + 1 => by
    have := exE_length C ids c q k
    simp only [exE]
    split
    · omega
    · simp only [List.length_append, List.length_cons, List.length_nil]; omega
theorem misE_same {ans ans' : Nat → Bool} (e q : Int) : ∀ n, (∀ i, i < n → ans i = ans' i) → misE ans e q n = misE ans' e q n
  | 0, _ => rfl
  | n + 1, h => by simp only [misE, misE_same e q n (fun i hi => h i (by omega)), h n (by omega)]

end Go.Proofs.Qxb6601521a
