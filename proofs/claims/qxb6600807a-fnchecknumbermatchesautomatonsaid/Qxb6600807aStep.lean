/-
  THE WALKS of openaiB1NumberStep, openaiB1NumberAccepting, openaiB1NumberAutomaton (laws_openai_b1.go).
-/
import Derived.Test.Qxb6600807aNumA
namespace Go.Proofs.Qxb6600807a
open Go.RowKit
open Num
set_option linter.unusedVariables false

/-- The kinds of bytes that the table tells apart. -/
theorem kinds (c : Int) : c = 45 ∨ c = 43 ∨ c = 46 ∨ c = 48 ∨ c = 101 ∨ c = 69 ∨ (49 ≤ c ∧ c ≤ 57) ∨ (c < 48 ∧ ¬ c = 45 ∧ ¬ c = 43 ∧ ¬ c = 46) ∨ (57 < c ∧ ¬ c = 101 ∧ ¬ c = 69) := by omega

theorem nstep_dig (s : Nat) (c : Int) (h1 : 49 ≤ c) (h2 : c ≤ 57) : nstep s c = nstep s 49 := by
  have hd : dig c = true := by simp [dig]; omega
  have hd' : dig 49 = true := rfl
  have n1 : ¬ c = 45 := by omega
  have n2 : ¬ c = 43 := by omega
  have n3 : ¬ c = 46 := by omega
  have n4 : ¬ c = 48 := by omega
  have n5 : ¬ c = 101 := by omega
  have n6 : ¬ c = 69 := by omega
  simp [nstep, hd, hd', n1, n2, n3, n4, n5, n6]
theorem nstep_low (s : Nat) (c : Int) (h1 : c < 48) (n1 : ¬ c = 45) (n2 : ¬ c = 43) (n3 : ¬ c = 46) : nstep s c = -1 := by
  have hd : dig c = false := by simp [dig]; omega
  have n4 : ¬ c = 48 := by omega
  have n5 : ¬ c = 101 := by omega
  have n6 : ¬ c = 69 := by omega
  simp [nstep, hd, n1, n2, n3, n4, n5, n6]
theorem nstep_high (s : Nat) (c : Int) (h1 : 57 < c) (n5 : ¬ c = 101) (n6 : ¬ c = 69) : nstep s c = -1 := by
  have hd : dig c = false := by simp [dig]; omega
  have n1 : ¬ c = 45 := by omega
  have n2 : ¬ c = 43 := by omega
  have n3 : ¬ c = 46 := by omega
  have n4 : ¬ c = 48 := by omega
  simp [nstep, hd, n1, n2, n3, n4, n5, n6]

set_option maxRecDepth 100000 in
set_option maxHeartbeats 4000000 in
theorem step_any (s : Nat) (x c : Int) (hx : x = (s : Int)) (hs : s ≤ 8) (w : World) :
    Calls Try.prog 30 #[.int .i64 x, .int .u8 c] w fun e w' => e = .returned (.int .i64 (nstep s c)) ∧ w = w' := by
  rcases (by omega : s = 0 ∨ s = 1 ∨ s = 2 ∨ s = 3 ∨ s = 4 ∨ s = 5 ∨ s = 6 ∨ s = 7 ∨ s = 8) with rfl | rfl | rfl | rfl | rfl | rfl | rfl | rfl | rfl
  all_goals
    simp at hx
    subst hx
    rcases kinds c with rfl | rfl | rfl | rfl | rfl | rfl | ⟨h1, h2⟩ | ⟨h1, n1, n2, n3⟩ | ⟨h1, n5, n6⟩
    · go_enter Try.func30, Try.ntmps30
      go_wp2
      go_ret
      exact ⟨rfl, rfl⟩
    · go_enter Try.func30, Try.ntmps30
      go_wp2
      go_ret
      exact ⟨rfl, rfl⟩
    · go_enter Try.func30, Try.ntmps30
      go_wp2
      go_ret
      exact ⟨rfl, rfl⟩
    · go_enter Try.func30, Try.ntmps30
      go_wp2
      go_ret
      exact ⟨rfl, rfl⟩
    · go_enter Try.func30, Try.ntmps30
      go_wp2
      go_ret
      exact ⟨rfl, rfl⟩
    · go_enter Try.func30, Try.ntmps30
      go_wp2
      go_ret
      exact ⟨rfl, rfl⟩
    · have e1 : (c == 45) = false := by simp; omega
      have e2 : (c == 43) = false := by simp; omega
      have e3 : (c == 46) = false := by simp; omega
      have e4 : (c == 48) = false := by simp; omega
      have e5 : (c == 101) = false := by simp; omega
      have e6 : (c == 69) = false := by simp; omega
      have h0 : 48 ≤ c := by omega
      rw [nstep_dig _ _ h1 h2]
      go_enter Try.func30, Try.ntmps30
      go_wp2
      go_ret
      exact ⟨rfl, rfl⟩
    · have e1 : (c == 45) = false := by simp; omega
      have e2 : (c == 43) = false := by simp; omega
      have e3 : (c == 46) = false := by simp; omega
      have e4 : (c == 48) = false := by simp; omega
      have e5 : (c == 101) = false := by simp; omega
      have e6 : (c == 69) = false := by simp; omega
      rw [nstep_low _ _ h1 n1 n2 n3]
      clear n1 n2 n3
      go_enter Try.func30, Try.ntmps30
      go_wp2
      go_ret
      exact ⟨rfl, rfl⟩
    · have e1 : (c == 45) = false := by simp; omega
      have e2 : (c == 43) = false := by simp; omega
      have e3 : (c == 46) = false := by simp; omega
      have e4 : (c == 48) = false := by simp; omega
      have e5 : (c == 101) = false := by simp; omega
      have e6 : (c == 69) = false := by simp; omega
      have h0 : 48 ≤ c := by omega
      rw [nstep_high _ _ h1 n5 n6]
      clear n5 n6
      go_enter Try.func30, Try.ntmps30
      go_wp2
      go_ret
      exact ⟨rfl, rfl⟩

set_option maxRecDepth 100000 in
set_option maxHeartbeats 1000000 in
theorem accepting_any (s : Nat) (x : Int) (hx : x = (s : Int)) (hs : s ≤ 8) (w : World) :
    Calls Try.prog 31 #[.int .i64 x] w fun e w' => e = .returned (.bool (acc s)) ∧ w = w' := by
  rcases (by omega : s = 0 ∨ s = 1 ∨ s = 2 ∨ s = 3 ∨ s = 4 ∨ s = 5 ∨ s = 6 ∨ s = 7 ∨ s = 8) with rfl | rfl | rfl | rfl | rfl | rfl | rfl | rfl | rfl
  all_goals
    simp at hx
    subst hx
    go_enter Try.func31, Try.ntmps31
    go_wp2
    go_ret
    exact ⟨rfl, rfl⟩

theorem nstep_range (s : Nat) (c : Int) : nstep s c = -1 ∨ (0 ≤ nstep s c ∧ nstep s c ≤ 8) := by
  unfold nstep
  repeat' split
  all_goals omega

set_option maxRecDepth 100000 in
set_option maxHeartbeats 1000000 in
theorem automaton_some (b off cap : Nat) (ys : List Int) (i : Nat) (hi : i ≤ 9223372036854775807) (hn : ys.length ≤ 1048576) (w : World) (hl : Lies w b off ys) :
    Calls Try.prog 12 #[.slice (some ⟨b, off, none⟩) ys.length cap, .int .i64 i] w fun e w' => e = .returned (.tuple #[.int .i64 (at_ 0 ys i).1, .bool (at_ 0 ys i).2]) ∧ w = w' := by
  go_enter Try.func12, Try.ntmps12
  go_wp2
  go_loop [6, 7] (fun st ps => ∃ s k : Nat, st = .int .i64 s ∧ ps = .int .i64 k ∧ s ≤ 8 ∧ k ≤ 9223372036854775807 ∧ at_ 0 ys i = at_ s ys k) (fun _ ps => ys.length - (intOf ps).toNat)
  case atStart => exact ⟨0, i, rfl, rfl, by omega, hi, rfl⟩
  case round =>
    obtain ⟨s, k, rfl, rfl, hs, hk, he⟩ := hrel
    have HE : Hid (at_ 0 ys i = at_ s ys k) := he
    clear he
    by_cases hlt : k < ys.length
    · have hc := hl k hlt
      rcases nstep_range s (ch ys k) with hm | ⟨hm0, hm8⟩
      · have HM : Hid (nstep s (ch ys k) = -1) := hm
        have hm' : nstep s (ch ys k) < 0 := by omega
        clear hm
        go_wp2_with (first | (go_at_call 30; refine (step_any s _ _ rfl hs _).mono ?_; rintro e w' ⟨rfl, rfl⟩) | (go_at_call 31; refine (accepting_any s _ rfl hs _).mono ?_; rintro e w' ⟨rfl, rfl⟩))
        go_ret2
        exact ⟨by rw [HE.out, at_stop hlt HM.out]; rfl, rfl⟩
      · obtain ⟨t, ht⟩ := Int.eq_ofNat_of_zero_le hm0
        have HT : Hid (nstep s (ch ys k) = (t : Int)) := ht
        have ht8 : t ≤ 8 := by omega
        clear hm0 hm8 ht
        go_wp2_with (go_at_call 30; refine (step_any s _ _ rfl hs _).mono ?_; rintro e w' ⟨rfl, rfl⟩; rw [HT.out])
        go_round
        case rel => exact ⟨t, k + 1, rfl, by go_num, ht8, by omega, by rw [HE.out, at_go hlt HT.out]⟩
        case measure => simp [intOf]; omega
    · go_wp2_with (go_at_call 31; refine (accepting_any s _ rfl hs _).mono ?_; rintro e w' ⟨rfl, rfl⟩)
      go_ret2
      exact ⟨by rw [HE.out, at_past hlt]; rfl, rfl⟩

set_option maxRecDepth 100000 in
set_option maxHeartbeats 1000000 in
theorem automaton_none (a : Option Addr) (cap : Nat) (i : Nat) (w : World) :
    Calls Try.prog 12 #[.slice a 0 cap, .int .i64 i] w fun e w' => e = .returned (.tuple #[.int .i64 (at_ 0 [] i).1, .bool (at_ 0 [] i).2]) ∧ w = w' := by
  have h0 : ¬ ((i : Int) < 0) := by omega
  go_enter Try.func12, Try.ntmps12
  go_wp2
  go_loop [6, 7] (fun st ps => st = .int .i64 0 ∧ ps = .int .i64 i) (fun _ ps => 0 - (intOf ps).toNat)
  case atStart => exact ⟨rfl, rfl⟩
  case round =>
    obtain ⟨rfl, rfl⟩ := hrel
    go_wp2_with (go_at_call 31; refine (accepting_any 0 _ rfl (by omega) _).mono ?_; rintro e w' ⟨rfl, rfl⟩)
    go_ret2
    exact ⟨by rw [at_past (by simp)]; rfl, rfl⟩

end Go.Proofs.Qxb6600807a
