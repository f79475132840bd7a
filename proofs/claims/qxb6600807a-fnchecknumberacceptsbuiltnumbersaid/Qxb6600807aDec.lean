/-
  PLAIN: the decimal of a number, and the automaton's run over what the law builds.
-/
import Derived.Test.Qxb6600807aPlain
namespace Go.Proofs.Qxb6600807a.Num

/-- The decimal of m, with fuel. -/
def decF : Nat → Nat → List Int
  | 0, _ => []
  | f + 1, m => if m / 10 = 0 then [48 + ((m % 10 : Nat) : Int)] else decF f (m / 10) ++ [48 + ((m % 10 : Nat) : Int)]

theorem decF_len (f : Nat) : ∀ m, (decF f m).length ≤ f := by
  induction f with
  | zero => intro m; simp [decF]
  | succ f ih =>
    intro m
    unfold decF
    split
    · simp
    · have := ih (m / 10)
      simp
      omega

theorem decF_last {f m : Nat} (h : m / 10 = 0) : decF (f + 1) m = [48 + ((m % 10 : Nat) : Int)] := by rw [decF, if_pos h]
theorem decF_more {f m : Nat} (h : ¬ m / 10 = 0) : decF (f + 1) m = decF f (m / 10) ++ [48 + ((m % 10 : Nat) : Int)] := by rw [decF, if_neg h]

theorem dig_of_nat (m : Nat) : dig (48 + ((m % 10 : Nat) : Int)) = true := by simp [dig]; omega

/-- Digits that do not begin with a zero. -/
def Lead (l : List Int) : Prop := ∃ c t, l = c :: t ∧ 49 ≤ c ∧ c ≤ 57 ∧ ∀ x ∈ t, dig x = true

theorem decF_lead (f : Nat) : ∀ m, 0 < m → m < 10 ^ f → Lead (decF f m) := by
  induction f with
  | zero => intro m h1 h2; simp at h2; omega
  | succ f ih =>
    intro m h1 h2
    by_cases h : m / 10 = 0
    · rw [decF_last h]
      exact ⟨_, [], rfl, by omega, by omega, by simp⟩
    · rw [decF_more h]
      have hp : 10 ^ (f + 1) = 10 ^ f * 10 := Nat.pow_succ 10 f
      have hlt : m / 10 < 10 ^ f := Nat.div_lt_of_lt_mul (by rw [Nat.mul_comm, ← hp]; exact h2)
      obtain ⟨c, t, e, h3, h4, h5⟩ := ih (m / 10) (by omega) hlt
      refine ⟨c, t ++ [48 + ((m % 10 : Nat) : Int)], by rw [e]; rfl, h3, h4, ?_⟩
      intro x hx
      rcases List.mem_append.1 hx with h' | h'
      · exact h5 x h'
      · simp at h'
        subst h'
        exact dig_of_nat m

/-- A run that takes all, and one byte more. -/
theorem run_snoc {xs : List Int} {s t : Nat} {c : Int} (h : run 0 xs = (xs.length, s)) (ht : nstep s c = t) : run 0 (xs ++ [c]) = ((xs ++ [c]).length, t) := by
  rw [run_append xs [c] 0 s h, run_go ht]
  simp [run]

/-- A run that takes all, and more that is taken whole. -/
theorem run_more {xs ys : List Int} {s t : Nat} (h : run 0 xs = (xs.length, s)) (ht : run s ys = (ys.length, t)) : run 0 (xs ++ ys) = ((xs ++ ys).length, t) := by
  rw [run_append xs ys 0 s h, ht]
  simp

theorem run_digits {s : Nat} (hs : ∀ c, dig c = true → nstep s c = (s : Nat)) (l : List Int) (h : ∀ x ∈ l, dig x = true) : run s l = (l.length, s) := by
  induction l with
  | nil => rfl
  | cons c l ih =>
    rw [run_go (hs c (h c (by simp))), ih (fun x hx => h x (by simp [hx]))]
    simp

theorem run_lead {s : Nat} (hs : s = 0 ∨ s = 1) {l : List Int} (h : Lead l) : run s l = (l.length, 3) := by
  obtain ⟨c, t, rfl, h1, h2, h3⟩ := h
  have hd : dig c = true := by simp [dig]; omega
  have n1 : ¬ c = 45 := by omega
  have n2 : ¬ c = 48 := by omega
  have e : nstep s c = (3 : Nat) := by rcases hs with rfl | rfl <;> simp [nstep, hd, n1, n2]
  rw [run_go e, run_digits ns3 t h3]
  simp

theorem run_dec {s : Nat} (hs : s = 0 ∨ s = 1) (f m : Nat) (h : m < 10 ^ (f + 1)) : ∃ t, run s (decF (f + 1) m) = ((decF (f + 1) m).length, t) ∧ (t = 2 ∨ t = 3) := by
  by_cases h0 : m = 0
  · subst h0
    refine ⟨2, ?_, .inl rfl⟩
    rw [decF_last (by omega)]
    rcases hs with rfl | rfl <;> rfl
  · exact ⟨3, run_lead hs (decF_lead (f + 1) m (by omega) h), .inr rfl⟩

end Go.Proofs.Qxb6600807a.Num
