/-
  THE WALKS of zzCountCallID, zzCountResultID, zzBlockEnd (laws_root_b1.go).
-/
import Derived.Test.Qxb6601521aFrom
namespace Go.Proofs.Qxb6601521a
open Go.RowKit
set_option linter.unusedVariables false

theorem cnt_le (f : Nat → ByteArray) (x : ByteArray) : ∀ n, cnt f x n ≤ n
  | 0 => Nat.le_refl _
  | n + 1 => by
    have := cnt_le f x n
    simp only [cnt]
    split <;> omega

theorem cnt_yes {f : Nat → ByteArray} {x : ByteArray} {n : Nat} (h : f n = x) : cnt f x (n + 1) = cnt f x n + 1 := by simp only [cnt, if_pos h]
theorem cnt_no {f : Nat → ByteArray} {x : ByteArray} {n : Nat} (h : f n ≠ x) : cnt f x (n + 1) = cnt f x n := by simp only [cnt, if_neg h]; rfl

set_option maxRecDepth 100000 in
set_option maxHeartbeats 4000000 in
theorem countCall (a : Option Addr) (c cc u : Nat) (s : Nat → Nat → ByteArray) (id : ByteArray) (hc : c ≤ 1048576) (hu : u ≤ c) (w : World) (h : SIn w 4 a c cc s) :
    Calls Try.prog 20 #[.slice a c cc, .int .i64 (u : Int), .string id] w fun e w' => e = .returned (.int .i64 (cnt (fun j => s j 0) id u : Nat)) ∧ w = w' := by
  have HI : Hid (SIn w 4 a c cc s) := h
  clear h
  go_enter Try.func20, Try.ntmps20
  go_wp2
  go_loopg [7, 8] u (fun g z i wr => ∃ k m : Nat, g = u - k ∧ k ≤ u ∧ i = .int .i64 k ∧ z = .int .i64 m ∧ m = cnt (fun j => s j 0) id k ∧ w = wr)
  case atStart => exact ⟨0, 0, by omega, by omega, rfl, rfl, rfl, rfl⟩
  case round =>
    obtain ⟨k, m, hg, hk, rfl, rfl, hm, hw⟩ := hrel
    subst hw
    have HG : Hid (gk = u - k ∧ m = cnt (fun j => s j 0) id k) := ⟨hg, hm⟩
    have hmb : m ≤ 1048576 := by have := cnt_le (fun j => s j 0) id k; omega
    clear hg hm
    by_cases hlt : k < u
    · obtain ⟨b, off, rfl, hb, hl⟩ := sin_some HI.out (by omega) (by omega)
      have g0 := hl k (by omega) 0 (by omega)
      rw [Nat.add_zero] at g0
      clear hl
      by_cases hq : s k 0 = id
      · have hbq := beq_of_eq hq
        have HQ : Hid (s k 0 = id) := hq
        clear hq
        go_wp2
        go_roundg (u - (k + 1))
        case rel => exact ⟨k + 1, m + 1, rfl, by omega, by go_num, by go_num, by simp only [cnt]; rw [if_pos HQ.out, ← HG.out.2], rfl⟩
        case measure =>
          have := HG.out
          omega
      · have hbq := beq_of_ne hq
        have HQ : Hid (s k 0 ≠ id) := hq
        clear hq
        go_wp2
        go_roundg (u - (k + 1))
        case rel => exact ⟨k + 1, m, rfl, by omega, by go_num, rfl, by simp only [cnt]; rw [if_neg HQ.out, ← HG.out.2]; rfl, rfl⟩
        case measure =>
          have := HG.out
          omega
    · have HN : Hid (k = u) := by simp [Hid]; omega
      go_wp2
      go_ret
      have e := HN.out
      subst e
      rw [← HG.out.2]
      exact ⟨rfl, rfl⟩

set_option maxRecDepth 100000 in
set_option maxHeartbeats 4000000 in
theorem countRes (b off n cap lo hi : Nat) (lo' : Int) (elo : lo' = (lo : Int)) (M : Nat → Msg) (id : ByteArray) (hn : n ≤ 1048576) (hlh : lo ≤ hi) (hhi : hi ≤ n) (w : World) (h : ∀ i, i < n → Fields w ⟨b, off, none⟩ i (M i)) :
    Calls Try.prog 35 #[.slice (some ⟨b, off, none⟩) n cap, .int .i64 lo', .int .i64 (hi : Int), .string id] w fun e w' => e = .returned (.int .i64 (cnt (fun k => (M (lo + k)).id) id (hi - lo) : Nat)) ∧ w = w' := by
  have HI : Hid (∀ i, i < n → Fields w ⟨b, off, none⟩ i (M i)) := h
  clear h
  subst elo
  go_enter Try.func35, Try.ntmps35
  go_wp2
  go_loopg [9, 10] (hi - lo) (fun g z i wr => ∃ k m : Nat, g = hi - k ∧ lo ≤ k ∧ k ≤ hi ∧ i = .int .i64 k ∧ z = .int .i64 m ∧ m = cnt (fun k => (M (lo + k)).id) id (k - lo) ∧ w = wr)
  case atStart => exact ⟨lo, 0, by omega, by omega, by omega, rfl, rfl, by rw [Nat.sub_self]; rfl, rfl⟩
  case round =>
    obtain ⟨k, m, hg, hlk, hk, rfl, rfl, hm, hw⟩ := hrel
    subst hw
    have HG : Hid (gk = hi - k ∧ m = cnt (fun k => (M (lo + k)).id) id (k - lo)) := ⟨hg, hm⟩
    have hmb : m ≤ 1048576 := by have := cnt_le (fun k => (M (lo + k)).id) id (k - lo); omega
    clear hg hm
    by_cases hlt : k < hi
    · have q3 := (HI.out k (by omega)).f3
      obtain ⟨x, hx⟩ : ∃ x, x = (M k).id := ⟨_, rfl⟩
      rw [← hx] at q3
      have HX : Hid (x = (M (lo + (k - lo))).id) := by rw [show lo + (k - lo) = k by omega]; exact hx
      clear hx
      rw [Addr.add_lit] at q3
      rw [← Nat.add_assoc] at q3
      have hkn : k < n := by omega
      have e1 : k + 1 - lo = (k - lo) + 1 := by omega
      have HE : Hid (k + 1 - lo = (k - lo) + 1) := e1
      clear e1
      by_cases hq : x = id
      · have hbq := beq_of_eq hq
        have HQ : Hid (x = id) := hq
        clear hq
        go_wp2
        go_roundg (hi - (k + 1))
        case rel => exact ⟨k + 1, m + 1, rfl, by omega, by omega, by go_num, by go_num, by rw [HE.out, cnt_yes (f := fun k => (M (lo + k)).id) (HX.out.symm.trans HQ.out), ← HG.out.2], rfl⟩
        case measure =>
          have := HG.out
          omega
      · have hbq := beq_of_ne hq
        have HQ : Hid (x ≠ id) := hq
        clear hq
        go_wp2
        go_roundg (hi - (k + 1))
        case rel => exact ⟨k + 1, m, rfl, by omega, by omega, by go_num, rfl, by rw [HE.out, cnt_no (f := fun k => (M (lo + k)).id) (fun h => HQ.out (HX.out.trans h)), ← HG.out.2], rfl⟩
        case measure =>
          have := HG.out
          omega
    · have HN : Hid (k = hi) := by simp [Hid]; omega
      go_wp2
      go_ret
      have e := HN.out
      subst e
      rw [← HG.out.2]
      exact ⟨rfl, rfl⟩

def BEPost (e : Ending) (w w' : World) (p : Nat) : Prop := e = .returned (.int .i64 (p : Int)) ∧ Below w.heap.size w w'
set_option maxRecDepth 100000 in
set_option maxHeartbeats 4000000 in
theorem blockEnd (b off n cap q p : Nat) (M : Nat → Msg) (hn : n ≤ 1048576) (hq : q < n) (hqp : q + 1 ≤ p) (hp : p ≤ n) (w : World) (h : ∀ i, i < n → Fields w ⟨b, off, none⟩ i (M i)) (ht : ∀ i, q + 1 ≤ i → i < p → (M i).role = toolB) (hnt : p < n → (M p).role ≠ toolB) :
    Calls Try.prog 28 #[.slice (some ⟨b, off, none⟩) n cap, .int .i64 (q : Int)] w fun e w' => BEPost e w w' p := by
  have HI : Hid ((∀ i, i < n → Fields w ⟨b, off, none⟩ i (M i)) ∧ (∀ i, q + 1 ≤ i → i < p → (M i).role = toolB) ∧ (p < n → (M p).role ≠ toolB)) := ⟨h, ht, hnt⟩
  clear h ht hnt
  go_enter Try.func28, Try.ntmps28
  go_wp2
  go_loopg [5] (p - (q + 1)) (fun gk i wr => ∃ (k : Nat), gk = p - k ∧ q + 1 ≤ k ∧ k ≤ p ∧ i = .int .i64 k ∧ Below w.heap.size w wr)
  case atStart => exact ⟨q + 1, by omega, by omega, by omega, by go_num, Below.refl _ _⟩
  case round =>
    obtain ⟨k, hg, hlk, hk, rfl, hbel⟩ := hrel
    have HG : Hid (gk = p - k) := hg
    have HB : Hid (Below w.heap.size w wr) := hbel
    clear hg hbel
    by_cases hkn : k < n
    · have HF0 : Fields wr ⟨b, off, none⟩ k (M k) := (HI.out.1 k (by omega)).later HB.out
      obtain ⟨mm, hmm⟩ : ∃ mm, mm = M k := ⟨_, rfl⟩
      have HMM : Hid (mm = M k) := hmm
      rw [← hmm] at HF0
      clear hmm
      have q0 := HF0.f0
      have q1 := HF0.f1
      have q2 := HF0.f2
      have q3 := HF0.f3
      have q4 := HF0.f4
      have q5 := HF0.f5
      have q6 := HF0.f6
      have q7 := HF0.f7
      clear HF0
      rw [Addr.add_lit] at q0 q1 q2 q3 q4 q5 q6 q7
      rw [← Nat.add_assoc] at q1 q2 q3 q4 q5 q6 q7
      go_wp2_with fail
      clear q0 q1 q2 q3 q4 q5 q6 q7
      refine (isTool_any mm _).mono ?_
      rintro e w2 ⟨rfl, hb2⟩
      have HB2 : Hid (Below w.heap.size w w2) := HB.out.trans (hb2.mono HB.out.size)
      clear hb2
      by_cases hlt : k < p
      · have hb := beq_of_eq (HI.out.2.1 k hlk hlt)
        rw [tool_list, ← HMM.out] at hb
        rw [hb]
        clear hb
        go_wp2
        go_roundg (p - (k + 1))
        case rel => exact ⟨k + 1, rfl, by omega, by omega, by go_num, HB2.out⟩
        case measure =>
          have := HG.out
          omega
      · have e : k = p := by omega
        subst e
        have hb := beq_of_ne (HI.out.2.2 hkn)
        rw [tool_list, ← HMM.out] at hb
        rw [hb]
        clear hb
        go_wp2
        go_ret
        exact ⟨rfl, HB2.out⟩
    · have e : k = p := by omega
      subst e
      go_wp2
      go_ret
      exact ⟨rfl, HB.out⟩

end Go.Proofs.Qxb6601521a
