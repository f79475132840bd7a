/-
  THE WALK of zzSameFaults (laws_root_b1.go).
-/
import Derived.Test.Qxb6601521aFrom
namespace Go.Proofs.Qxb6601521a
open Go.RowKit
set_option linter.unusedVariables false

set_option maxRecDepth 100000 in
set_option maxHeartbeats 4000000 in
theorem same_some (b d m c c' : Nat) (L : List Flt) (hm : m ≤ 8388608) (w : World) (hb : ∀ i, i < m → FAt w b i (nth L i)) (hd : ∀ i, i < m → FAt w d i (nth L i)) :
    Calls Try.prog 15 #[.slice (some ⟨b, 0, none⟩) m c, .slice (some ⟨d, 0, none⟩) m c'] w fun e w' => e = .returned (.bool true) ∧ ∃ k, w' = w.drewN k := by
  have HB : Hid ((∀ i, i < m → FAt w b i (nth L i)) ∧ ∀ i, i < m → FAt w d i (nth L i)) := ⟨hb, hd⟩
  have e0 : ((m : Int) != (m : Int)) = false := by simp
  clear hb hd
  go_enter Try.func15, Try.ntmps15
  go_wp2
  go_loopw [5] (fun i wr => ∃ k j : Nat, i = .int .i64 k ∧ k ≤ m ∧ wr = w.drewN j) (fun i _ => m - (intOf i).toNat)
  case atStart => exact ⟨0, 0, rfl, by omega, rfl⟩
  case round =>
    obtain ⟨k, j, rfl, hk, rfl⟩ := hrel
    by_cases hlt : k < m
    · have f1 := HB.out.1 k hlt
      have f2 := HB.out.2 k hlt
      obtain ⟨f, hf⟩ : ∃ f, f = nth L k := ⟨_, rfl⟩
      rw [← hf] at f1 f2
      clear hf
      have q0 := f1.f0
      have q1 := f1.f1
      have q2 := f1.f2
      have q3 := f1.f3
      have r0 := f2.f0
      have r1 := f2.f1
      have r2 := f2.f2
      have r3 := f2.f3
      clear f1 f2
      have hi1 : (0 : Int) ≤ (k : Int) := by omega
      have hi2 : (k : Int) < (m : Int) := by omega
      go_wp2
      go_quiet (fail)
      go_wp2
      go_roundw
      case rel => exact ⟨k + 1, _, by go_num, by omega, rfl⟩
      case measure => simp [intOf]; omega
    · go_wp2
      go_ret
      exact ⟨rfl, j, rfl⟩

set_option maxHeartbeats 1000000 in
theorem same_zero (a a' : Option Addr) (c c' : Nat) (w : World) :
    Calls Try.prog 15 #[.slice a 0 c, .slice a' 0 c'] w fun e w' => e = .returned (.bool true) ∧ ∃ k, w' = w.drewN k := by
  go_enter Try.func15, Try.ntmps15
  go_wp2
  go_loopw [5] (fun i wr => i = .int .i64 0 ∧ wr = w) (fun i _ => 0)
  case atStart => exact ⟨rfl, rfl⟩
  case round =>
    obtain ⟨rfl, rfl⟩ := hrel
    go_wp2
    go_ret
    exact ⟨rfl, 0, rfl⟩

theorem same_any (a a' : Option Addr) (m c c' : Nat) (L : List Flt) (hm : m ≤ 8388608) (w : World) (h : 0 < m → ∃ b d, a = some ⟨b, 0, none⟩ ∧ a' = some ⟨d, 0, none⟩ ∧ (∀ i, i < m → FAt w b i (nth L i)) ∧ ∀ i, i < m → FAt w d i (nth L i)) :
    Calls Try.prog 15 #[.slice a m c, .slice a' m c'] w fun e w' => e = .returned (.bool true) ∧ ∃ k, w' = w.drewN k := by
  rcases Nat.eq_zero_or_pos m with h0 | h0
  · subst h0
    exact same_zero a a' c c' w
  · obtain ⟨b, d, rfl, rfl, h1, h2⟩ := h h0
    exact same_some b d m c c' L hm w h1 h2

end Go.Proofs.Qxb6601521a
