/-
  THE WALK of openaiB1SameBytes (laws_openai_b1.go).
-/
import Derived.Test.Qxb6600807aRawsA
import Derived.Deep.QuietTactic
import Derived.BigQuiet
namespace Go.Proofs.Qxb6600807a.Raws
open Go.RowKit
set_option linter.unusedVariables false

/-- The bytes z lie where a leads. -/
def BAt (w : World) (a : Option Addr) (n : Nat) (z : Nat → Int) : Prop :=
  (a = none ∧ n = 0) ∨ ∃ b, a = some ⟨b, 0, none⟩ ∧ ∀ j, j < n → w.cell? ⟨b, j, none⟩ = some (.int .u8 (z j))
theorem BCl.bat {w : World} {lo : Nat} {a a' : Option Addr} {n : Nat} {z : Nat → Int} (h : BCl w lo a a' n z) : BAt w a' n z := by
  rcases h with ⟨_, rfl, rfl⟩ | ⟨x, b, _, rfl, _, _, h⟩
  · exact .inl ⟨rfl, rfl⟩
  · exact .inr ⟨b, rfl, h⟩

set_option maxRecDepth 100000 in
set_option maxHeartbeats 800000 in
theorem same_some (b d n c c' : Nat) (z : Nat → Int) (hn : n ≤ 1048576) (w : World) (hb : ∀ j, j < n → w.cell? ⟨b, j, none⟩ = some (.int .u8 (z j))) (hd : ∀ j, j < n → w.cell? ⟨d, j, none⟩ = some (.int .u8 (z j))) :
    Calls Try.prog 26 #[.slice (some ⟨b, 0, none⟩) n c, .slice (some ⟨d, 0, none⟩) n c'] w fun e w' => e = .returned (.bool true) ∧ ∃ m, w' = w.drewN m := by
  have h1 := fun w => Lib.run_eql_slice_nil (P := Try.prog) w 22 5 (some ⟨b, 0, none⟩) n c 0 0 Try.underlying22
  have h2 := fun w => Lib.run_eql_slice_nil (P := Try.prog) w 22 5 (some ⟨d, 0, none⟩) n c' 0 0 Try.underlying22
  have e0 : ((n : Int) != (n : Int)) = false := by simp
  have HB : Hid ((∀ j, j < n → w.cell? ⟨b, j, none⟩ = some (.int .u8 (z j))) ∧ ∀ j, j < n → w.cell? ⟨d, j, none⟩ = some (.int .u8 (z j))) := ⟨hb, hd⟩
  clear hb hd
  go_enter Try.func26, Try.ntmps26
  go_wp2
  clear h1 h2
  go_loopw [5] (fun i wr => ∃ k m : Nat, i = .int .i64 k ∧ k ≤ n ∧ wr = w.drewN m) (fun i _ => n - (intOf i).toNat)
  case atStart => exact ⟨0, 0, rfl, by omega, rfl⟩
  case round =>
    obtain ⟨k, m, rfl, hk, rfl⟩ := hrel
    by_cases hlt : k < n
    · have q1 := HB.out.1 k hlt
      have q2 := HB.out.2 k hlt
      have hi1 : (0 : Int) ≤ (k : Int) := by omega
      have hi2 : (k : Int) < (n : Int) := by omega
      have e1 : ((z k) != (z k)) = false := by simp
      go_wp2
      go_quiet (fail)
      go_wp2
      go_roundw
      case rel => exact ⟨k + 1, _, by go_num, by omega, rfl⟩
      case measure => simp [intOf]; omega
    · go_wp2
      go_ret
      exact ⟨rfl, m, rfl⟩

set_option maxRecDepth 100000 in
set_option maxHeartbeats 800000 in
theorem same_nil (w : World) :
    Calls Try.prog 26 #[.slice none 0 0, .slice none 0 0] w fun e w' => e = .returned (.bool true) ∧ ∃ m, w' = w.drewN m := by
  have h1 := fun w => Lib.run_eql_slice_nil (P := Try.prog) w 22 5 none 0 0 0 0 Try.underlying22
  go_enter Try.func26, Try.ntmps26
  go_wp2
  clear h1
  go_loopw [5] (fun i wr => i = .int .i64 0 ∧ wr = w) (fun i _ => 0)
  case atStart => exact ⟨rfl, rfl⟩
  case round =>
    obtain ⟨rfl, rfl⟩ := hrel
    go_wp2
    go_ret
    exact ⟨rfl, 0, rfl⟩

theorem same_any (a a' : Option Addr) (n : Nat) (z : Nat → Int) (hn : n ≤ 1048576) (w : World) (h : BAt w a n z) (h' : BAt w a' n z) (hnn : a.isNone = a'.isNone) :
    Calls Try.prog 26 #[.slice a n n, .slice a' n n] w fun e w' => e = .returned (.bool true) ∧ ∃ m, w' = w.drewN m := by
  rcases h with ⟨rfl, rfl⟩ | ⟨b, rfl, h⟩
  · rcases h' with ⟨rfl, _⟩ | ⟨d, rfl, h'⟩
    · exact same_nil w
    · simp at hnn
  · rcases h' with ⟨rfl, _⟩ | ⟨d, rfl, h'⟩
    · simp at hnn
    · exact same_some b d n n n z hn w h h'

end Go.Proofs.Qxb6600807a.Raws
