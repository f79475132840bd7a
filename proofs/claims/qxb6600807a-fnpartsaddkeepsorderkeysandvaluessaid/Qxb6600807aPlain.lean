/-
  THE PLAIN MATHEMATICS OF THE NUMBER LAWS: no Go in sight. Bytes are integers; a byte slice is a list of them.
-/
namespace Go.Proofs.Qxb6600807a.Num

/-- Is it a decimal digit's byte? -/
def dig (c : Int) : Bool := decide (48 ≤ c) && decide (c ≤ 57)

/-- The automaton's next state; -1 where the byte cannot continue. -/
def nstep (s : Nat) (c : Int) : Int :=
  if s = 0 then (if c = 45 then 1 else if c = 48 then 2 else if dig c then 3 else -1)
  else if s = 1 then (if c = 48 then 2 else if dig c then 3 else -1)
  else if s = 2 then (if c = 46 then 4 else if c = 101 ∨ c = 69 then 6 else -1)
  else if s = 3 then (if dig c then 3 else if c = 46 then 4 else if c = 101 ∨ c = 69 then 6 else -1)
  else if s = 4 then (if dig c then 5 else -1)
  else if s = 5 then (if dig c then 5 else if c = 101 ∨ c = 69 then 6 else -1)
  else if s = 6 then (if c = 43 ∨ c = 45 then 7 else if dig c then 8 else -1)
  else if s = 7 then (if dig c then 8 else -1)
  else if s = 8 then (if dig c then 8 else -1)
  else -1

/-- The greedy run from state s: how many bytes it takes, and the state in which it stops. -/
def run : Nat → List Int → Nat × Nat
  | s, [] => (0, s)
  | s, c :: l => if nstep s c < 0 then (0, s) else ((run (nstep s c).toNat l).1 + 1, (run (nstep s c).toNat l).2)

def acc (s : Nat) : Bool := s == 2 || s == 3 || s == 5 || s == 8

/-- How many digits stand at the head. -/
def digs : List Int → Nat
  | [] => 0
  | c :: l => if dig c then digs l + 1 else 0

theorem digs_le (l : List Int) : digs l ≤ l.length := by
  induction l with
  | nil => simp [digs]
  | cons c l ih => unfold digs; split <;> simp <;> omega

theorem run_le (l : List Int) : ∀ s, (run s l).1 ≤ l.length := by
  induction l with
  | nil => intro s; simp [run]
  | cons c l ih =>
    intro s
    unfold run
    split
    · simp
    · have := ih (nstep s c).toNat
      simp
      omega

theorem run_nil (s : Nat) : run s [] = (0, s) := rfl

theorem run_stop {s : Nat} {c : Int} {l : List Int} (h : nstep s c = -1) : run s (c :: l) = (0, s) := by
  unfold run
  rw [if_pos (by omega)]

theorem run_go {s t : Nat} {c : Int} {l : List Int} (h : nstep s c = t) : run s (c :: l) = ((run t l).1 + 1, (run t l).2) := by
  rw [run]
  rw [if_neg (by omega), h]
  simp

/-- A cut at the place where the run stops changes nothing. -/
theorem run_take (l : List Int) : ∀ s, run s (l.take (run s l).1) = run s l := by
  induction l with
  | nil => intro s; simp [run]
  | cons c l ih =>
    intro s
    by_cases h : nstep s c < 0
    · have e : run s (c :: l) = (0, s) := by unfold run; rw [if_pos h]
      rw [e]
      simp [run]
    · have e : run s (c :: l) = ((run (nstep s c).toNat l).1 + 1, (run (nstep s c).toNat l).2) := by rw [run]; rw [if_neg h]
      rw [e]
      simp only [List.take_succ_cons]
      rw [run]
      rw [if_neg h, ih]

/-- A run that takes all of the first part goes on in the second. -/
theorem run_append (l m : List Int) : ∀ s t, run s l = (l.length, t) → run s (l ++ m) = (l.length + (run t m).1, (run t m).2) := by
  induction l with
  | nil => intro s t h; simp [run] at h; subst h; simp
  | cons c l ih =>
    intro s t h
    by_cases h0 : nstep s c < 0
    · have e : run s (c :: l) = (0, s) := by unfold run; rw [if_pos h0]
      rw [e] at h; simp at h
    · have e : ∀ l, run s (c :: l) = ((run (nstep s c).toNat l).1 + 1, (run (nstep s c).toNat l).2) := by intro l; rw [run]; rw [if_neg h0]
      rw [e] at h
      simp only [List.length_cons, Prod.mk.injEq] at h
      have h' : run (nstep s c).toNat l = (l.length, t) := by
        ext1
        · simpa using h.1
        · simpa using h.2
      rw [List.cons_append, e, ih _ _ h']
      simp
      omega

/-! ### The scanner's stages, by index -/

/-- The byte at index i. -/
def ch (zs : List Int) (i : Nat) : Int := zs.getD i 0
def isC (zs : List Int) (i : Nat) (c : Int) : Bool := decide (i < zs.length) && decide (ch zs i = c)
def isD (zs : List Int) (i : Nat) : Bool := decide (i < zs.length) && dig (ch zs i)
def skip (zs : List Int) (i : Nat) : Nat := i + digs (zs.drop i)

def cnE (zs : List Int) (i : Nat) : Nat × Bool :=
  if isC zs i 101 || isC zs i 69 then
    (if isC zs (i + 1) 43 || isC zs (i + 1) 45 then
      (if isD zs (i + 2) then (skip zs (i + 2), true) else (i + 2, false))
    else (if isD zs (i + 1) then (skip zs (i + 1), true) else (i + 1, false)))
  else (i, true)

def cnF (zs : List Int) (i : Nat) : Nat × Bool :=
  if isC zs i 46 then (if isD zs (i + 1) then cnE zs (skip zs (i + 1)) else (i + 1, false)) else cnE zs i

def cnI (zs : List Int) (i : Nat) : Nat × Bool :=
  if isC zs i 48 then cnF zs (i + 1) else if isD zs i then cnF zs (skip zs i) else (i, false)

def cn (zs : List Int) (i : Nat) : Nat × Bool := if isC zs i 45 then cnI zs (i + 1) else cnI zs i

theorem drop_at (zs : List Int) (i : Nat) (h : i < zs.length) : zs.drop i = ch zs i :: zs.drop (i + 1) := by
  rw [List.drop_eq_getElem_cons h]
  simp [ch, List.getD, h]
theorem drop_past (zs : List Int) (i : Nat) (h : ¬ i < zs.length) : zs.drop i = [] := List.drop_of_length_le (by omega)

/-- The run from state s at index i, as an index and an answer. -/
def at_ (s : Nat) (zs : List Int) (i : Nat) : Nat × Bool := (i + (run s (zs.drop i)).1, acc (run s (zs.drop i)).2)

theorem at_past {s : Nat} {zs : List Int} {i : Nat} (h : ¬ i < zs.length) : at_ s zs i = (i, acc s) := by
  unfold at_; rw [drop_past zs i h]; simp [run]
theorem at_stop {s : Nat} {zs : List Int} {i : Nat} (h : i < zs.length) (hs : nstep s (ch zs i) = -1) : at_ s zs i = (i, acc s) := by
  unfold at_; rw [drop_at zs i h, run_stop hs]; simp
theorem at_go {s t : Nat} {zs : List Int} {i : Nat} (h : i < zs.length) (hs : nstep s (ch zs i) = t) : at_ s zs i = at_ t zs (i + 1) := by
  unfold at_; rw [drop_at zs i h, run_go hs]; simp; omega

/-- A state that a digit keeps: the run goes over all digits. -/
theorem at_digs {s : Nat} (hs : ∀ c, dig c = true → nstep s c = s) (zs : List Int) : ∀ n i, zs.length - i = n → at_ s zs i = at_ s zs (skip zs i) := by
  intro n
  induction n with
  | zero => intro i h; unfold skip; rw [drop_past zs i (by omega)]; simp [digs]
  | succ n ih =>
    intro i h
    by_cases hd : dig (ch zs i) = true
    · have e : skip zs i = skip zs (i + 1) := by
        unfold skip
        rw [drop_at zs i (by omega)]
        simp only [digs, hd, if_true]
        omega
      rw [at_go (by omega) (hs _ hd), ih (i + 1) (by omega), e]
    · have e : skip zs i = i := by
        unfold skip
        rw [drop_at zs i (by omega)]
        simp [digs, hd]
      rw [e]

/-- Behind the digits there is no digit. -/
theorem skip_end (zs : List Int) : ∀ n i, zs.length - i = n → isD zs (skip zs i) = false := by
  intro n
  induction n with
  | zero => intro i h; unfold skip; rw [drop_past zs i (by omega)]; show isD zs i = false; unfold isD; rw [decide_eq_false (by omega)]; rfl
  | succ n ih =>
    intro i h
    by_cases hd : dig (ch zs i) = true
    · have e : skip zs i = skip zs (i + 1) := by
        unfold skip
        rw [drop_at zs i (by omega)]
        simp only [digs, hd, if_true]
        omega
      rw [e, ih (i + 1) (by omega)]
    · have e : skip zs i = i := by
        unfold skip
        rw [drop_at zs i (by omega)]
        simp [digs, hd]
      rw [e]
      simp [isD, hd]

theorem skip_one {zs : List Int} {i : Nat} (h : isD zs i = true) : skip zs i = skip zs (i + 1) := by
  simp [isD] at h
  unfold skip
  rw [drop_at zs i h.1]
  simp only [digs]
  rw [if_pos (by simpa using h.2)]
  omega
theorem skip_none {zs : List Int} {i : Nat} (h : isD zs i = false) : skip zs i = i := by
  unfold skip
  by_cases hl : i < zs.length
  · rw [drop_at zs i hl]
    simp [isD, hl] at h
    simp [digs, h]
  · rw [drop_past zs i hl]; simp [digs]

theorem ns3 (c : Int) (h : dig c = true) : nstep 3 c = (3 : Nat) := by simp [nstep, h]
theorem ns5 (c : Int) (h : dig c = true) : nstep 5 c = (5 : Nat) := by simp [nstep, h]
theorem ns8 (c : Int) (h : dig c = true) : nstep 8 c = (8 : Nat) := by simp [nstep, h]

theorem at8_end {zs : List Int} {i : Nat} (h : isD zs i = false) : at_ 8 zs i = (i, true) := by
  by_cases hl : i < zs.length
  · simp [isD, hl] at h
    exact at_stop hl (by simp only [nstep]; simp; simpa using h)
  · exact at_past hl

theorem at8 (zs : List Int) (i : Nat) : at_ 8 zs i = (skip zs i, true) := by
  rw [at_digs ns8 zs _ i rfl, at8_end (skip_end zs _ i rfl)]

theorem at7 (zs : List Int) (i : Nat) : at_ 7 zs i = if isD zs i then (skip zs i, true) else (i, false) := by
  by_cases hl : i < zs.length
  · by_cases hd : dig (ch zs i) = true
    · have hD : isD zs i = true := by simp only [isD, hl, hd]; rfl
      rw [hD, at_go (t := 8) hl (by simp [nstep, hd]), at8, skip_one hD]
      simp
    · have hD : isD zs i = false := by simp only [isD, hl]; simpa using hd
      rw [hD, at_stop hl (by simp [nstep, hd])]
      simp [acc]
  · have hD : isD zs i = false := by simp [isD, hl]
    rw [hD, at_past hl]
    simp [acc]

theorem at6 (zs : List Int) (i : Nat) : at_ 6 zs i = if isC zs i 43 || isC zs i 45 then (if isD zs (i + 1) then (skip zs (i + 1), true) else (i + 1, false)) else (if isD zs i then (skip zs i, true) else (i, false)) := by
  by_cases hl : i < zs.length
  · by_cases hc : ch zs i = 43 ∨ ch zs i = 45
    · have hC : (isC zs i 43 || isC zs i 45) = true := by
        simp only [isC, hl]; rcases hc with h | h <;> simp [h]
      rw [hC, at_go (t := 7) hl (by simp [nstep, hc]), at7]
      simp
    · have hC : (isC zs i 43 || isC zs i 45) = false := by
        simp only [isC, hl]
        have h1 : ¬ ch zs i = 43 := fun h => hc (.inl h)
        have h2 : ¬ ch zs i = 45 := fun h => hc (.inr h)
        simp [h1, h2]
      rw [hC]
      by_cases hd : dig (ch zs i) = true
      · have hD : isD zs i = true := by simp only [isD, hl, hd]; rfl
        rw [hD, at_go (t := 8) hl (by simp only [nstep]; simp only [hc, hd]; simp), at8, skip_one hD]
        simp
      · have hD : isD zs i = false := by simp only [isD, hl]; simpa using hd
        rw [hD, at_stop hl (by simp only [nstep]; simp only [hc, hd]; simp)]
        simp [acc]
  · have hD : isD zs i = false := by simp [isD, hl]
    have hC : (isC zs i 43 || isC zs i 45) = false := by simp [isC, hl]
    rw [hD, hC, at_past hl]
    simp [acc]

/-- A state in which the fraction is done: 'e' or 'E' leads on, a digit does not, all else stops; it accepts. -/
theorem atE {s : Nat} (ha : acc s = true) (zs : List Int) (i : Nat) (h1 : ∀ c, (c = 101 ∨ c = 69) → nstep s c = (6 : Nat))
    (h2 : ∀ c, ¬ (c = 101 ∨ c = 69) → i < zs.length → c = ch zs i → nstep s c = -1) : at_ s zs i = cnE zs i := by
  unfold cnE
  by_cases hl : i < zs.length
  · by_cases hc : ch zs i = 101 ∨ ch zs i = 69
    · have hC : (isC zs i 101 || isC zs i 69) = true := by
        simp only [isC, hl]; rcases hc with h | h <;> simp [h]
      rw [hC, at_go hl (h1 _ hc), at6]
      simp
    · have hC : (isC zs i 101 || isC zs i 69) = false := by
        simp only [isC, hl]
        have h1 : ¬ ch zs i = 101 := fun h => hc (.inl h)
        have h2 : ¬ ch zs i = 69 := fun h => hc (.inr h)
        simp [h1, h2]
      rw [hC, at_stop hl (h2 _ hc hl rfl), ha]
      simp
  · have hC : (isC zs i 101 || isC zs i 69) = false := by simp [isC, hl]
    rw [hC, at_past hl, ha]
    simp

theorem dig_of {c : Int} (h : c = 101 ∨ c = 69) : dig c = false := by rcases h with rfl | rfl <;> rfl

theorem at5_end {zs : List Int} {i : Nat} (h : isD zs i = false) : at_ 5 zs i = cnE zs i := by
  refine atE rfl zs i (fun c hc => by simp [nstep, dig_of hc, hc]) (fun c hc hl e => ?_)
  subst e
  have hd : dig (ch zs i) = false := by simpa [isD, hl] using h
  simp only [nstep, hd, hc]
  simp

theorem at5 (zs : List Int) (i : Nat) : at_ 5 zs i = cnE zs (skip zs i) := by
  rw [at_digs ns5 zs _ i rfl, at5_end (skip_end zs _ i rfl)]

theorem at4 (zs : List Int) (i : Nat) : at_ 4 zs i = if isD zs i then cnE zs (skip zs i) else (i, false) := by
  by_cases hl : i < zs.length
  · by_cases hd : dig (ch zs i) = true
    · have hD : isD zs i = true := by simp only [isD, hl, hd]; rfl
      rw [hD, at_go (t := 5) hl (by simp [nstep, hd]), at5, skip_one hD]
      simp
    · have hD : isD zs i = false := by simp only [isD, hl]; simpa using hd
      rw [hD, at_stop hl (by simp [nstep, hd])]
      simp [acc]
  · have hD : isD zs i = false := by simp [isD, hl]
    rw [hD, at_past hl]
    simp [acc]

theorem atF {s : Nat} (ha : acc s = true) (zs : List Int) (i : Nat) (h0 : nstep s 46 = (4 : Nat)) (h1 : ∀ c, (c = 101 ∨ c = 69) → nstep s c = (6 : Nat))
    (h2 : ∀ c, ¬ c = 46 → ¬ (c = 101 ∨ c = 69) → i < zs.length → c = ch zs i → nstep s c = -1) : at_ s zs i = cnF zs i := by
  unfold cnF
  by_cases hc : isC zs i 46 = true
  · have hh := hc
    simp [isC] at hh
    rw [hc, at_go (t := 4) hh.1 (by rw [hh.2]; exact h0), at4]
    simp
  · have hc' : isC zs i 46 = false := by simpa using hc
    rw [hc']
    simp only [Bool.false_eq_true, if_false]
    refine atE ha zs i h1 (fun c hce hl e => ?_)
    refine h2 c (fun h => hc ?_) hce hl e
    rw [e] at h
    simp [isC, hl, h]

theorem at2 (zs : List Int) (i : Nat) : at_ 2 zs i = cnF zs i :=
  atF rfl zs i rfl (fun c hc => by rcases hc with rfl | rfl <;> rfl) (fun c h1 h2 _ _ => by simp [nstep, h1, h2])

theorem at3 (zs : List Int) (i : Nat) : at_ 3 zs i = cnF zs (skip zs i) := by
  rw [at_digs ns3 zs _ i rfl]
  refine atF rfl zs _ rfl (fun c hc => by rcases hc with rfl | rfl <;> rfl) (fun c h1 h2 hl e => ?_)
  have h := skip_end zs _ i rfl
  have hd : dig c = false := by subst e; simpa [isD, hl] using h
  simp [nstep, h1, h2, hd]

theorem atI {s : Nat} (ha : acc s = false) (zs : List Int) (i : Nat) (h0 : nstep s 48 = (2 : Nat)) (h1 : ∀ c, ¬ c = 48 → dig c = true → nstep s c = (3 : Nat))
    (h2 : ∀ c, ¬ c = 48 → dig c = false → i < zs.length → c = ch zs i → nstep s c = -1) : at_ s zs i = cnI zs i := by
  unfold cnI
  by_cases hl : i < zs.length
  · by_cases hc : ch zs i = 48
    · have hC : isC zs i 48 = true := by simp only [isC, hl, hc]; rfl
      rw [hC, at_go (t := 2) hl (by rw [hc]; exact h0), at2]
      simp
    · have hC : isC zs i 48 = false := by simp only [isC, hl, hc]; rfl
      rw [hC]
      by_cases hd : dig (ch zs i) = true
      · have hD : isD zs i = true := by simp only [isD, hl, hd]; rfl
        rw [hD, at_go (t := 3) hl (h1 _ hc hd), at3, skip_one hD]
        simp
      · have hd' : dig (ch zs i) = false := by simpa using hd
        have hD : isD zs i = false := by simp only [isD, hl, hd']; rfl
        rw [hD, at_stop hl (h2 _ hc hd' hl rfl), ha]
        simp
  · have hC : isC zs i 48 = false := by simp [isC, hl]
    have hD : isD zs i = false := by simp [isD, hl]
    rw [hC, hD, at_past hl, ha]
    simp

theorem at1 (zs : List Int) (i : Nat) : at_ 1 zs i = cnI zs i :=
  atI rfl zs i rfl (fun c h1 h2 => by simp [nstep, h1, h2]) (fun c h1 h2 _ _ => by simp [nstep, h1, h2])

/-- THE SCANNER IS THE AUTOMATON. -/
theorem at0 (zs : List Int) (i : Nat) : at_ 0 zs i = cn zs i := by
  unfold cn
  by_cases hc : isC zs i 45 = true
  · have hh := hc
    simp [isC] at hh
    rw [hc, at_go (t := 1) hh.1 (by rw [hh.2]; rfl), at1]
    simp
  · have hc' : isC zs i 45 = false := by simpa using hc
    rw [hc']
    simp only [Bool.false_eq_true, if_false]
    refine atI rfl zs i rfl (fun c h1 h2 => ?_) (fun c h1 h2 hl e => ?_)
    · have : ¬ c = 45 := by intro h; subst h; simp [dig] at h2
      simp [nstep, h1, h2, this]
    · have : ¬ c = 45 := by
        intro h
        apply hc
        rw [e] at h
        simp [isC, hl, h]
      simp [nstep, h1, h2, this]

/-! ### What the laws ask of it -/
theorem cn_within (zs : List Int) (i : Nat) (h : i ≤ zs.length) : i ≤ (cn zs i).1 ∧ (cn zs i).1 ≤ zs.length := by
  rw [← at0]
  have := run_le (zs.drop i) 0
  simp at this
  simp [at_]
  omega

theorem cn_past (zs : List Int) (i : Nat) (h : ¬ i < zs.length) : cn zs i = (i, false) := by
  rw [← at0, at_past h]
  rfl

theorem cn_some (zs : List Int) (i : Nat) (h : (cn zs i).2 = true) : (cn zs i).1 ≠ i := by
  rw [← at0] at h ⊢
  by_cases hl : i < zs.length
  · by_cases hs : nstep 0 (ch zs i) = -1
    · rw [at_stop hl hs] at h; simp [acc] at h
    · have h0 : ¬ nstep 0 (ch zs i) < 0 := by
        intro h'
        apply hs
        revert h'
        simp only [nstep]
        simp
        repeat' split
        all_goals simp
      intro e
      simp only [at_] at e
      rw [drop_at zs i hl, run, if_neg h0] at e
      simp at e
  · rw [at_past hl] at h; simp [acc] at h

theorem cn_take (zs : List Int) (i : Nat) : cn (zs.take (cn zs i).1) i = cn zs i := by
  rw [← at0, ← at0]
  simp only [at_]
  have e : (zs.take (i + (run 0 (zs.drop i)).1)).drop i = (zs.drop i).take (run 0 (zs.drop i)).1 := by
    rw [List.drop_take]
    congr 1
    omega
  rw [e, run_take]

end Go.Proofs.Qxb6600807a.Num
