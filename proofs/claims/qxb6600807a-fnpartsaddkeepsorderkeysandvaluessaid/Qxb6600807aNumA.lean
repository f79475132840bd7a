/-
  WALKS: isDigit, skipDigits (openai/json.go).
-/
import Derived.Test.Qxb6600807aRows
import Derived.Test.Qxb6600807aPlain
import Derived.WalkKit
import Derived.WalkSpells
import Derived.Outline
import Derived.Below
namespace Go.Proofs.Qxb6600807a
open Go.RowKit
open Num
set_option linter.unusedVariables false

theorem ret_int {k : IntKind} {a b : Int} (h : a = b) : Ending.returned (.int k a) = .returned (.int k b) := by rw [h]
theorem ret_int_bool {a b : Int} {p q : Bool} (h : a = b) (h' : p = q) : Ending.returned (.tuple #[.int .i64 a, .bool p]) = .returned (.tuple #[.int .i64 b, .bool q]) := by rw [h, h']

/-- The bytes zs lie from ⟨b, off⟩ on. -/
def Lies (w : World) (b off : Nat) (zs : List Int) : Prop := ∀ j, j < zs.length → w.cell? ⟨b, off + j, none⟩ = some (.int .u8 (ch zs j))

set_option maxHeartbeats 400000 in
theorem isDigit_any (b off cap : Nat) (zs : List Int) (x : Int) (k : Nat) (hx : x = (k : Int)) (hn : zs.length ≤ 4194304) (w : World) (hl : Lies w b off zs) :
    Calls Try.prog 35 #[.slice (some ⟨b, off, none⟩) zs.length cap, .int .i64 x] w fun e w' => e = .returned (.bool (isD zs k)) ∧ w = w' := by
  subst hx
  by_cases h : k < zs.length
  · have hc := hl k h
    have e : isD zs k = (decide (48 ≤ ch zs k) && decide (ch zs k ≤ 57)) := by simp [isD, dig, h]
    rw [e]
    clear e hl
    generalize ch zs k = c at hc
    generalize zs.length = n at h hn
    by_cases h1 : 48 ≤ c
    · go_enter Try.func35, Try.ntmps35
      go_wp2
      go_ret
      exact ⟨by simp [h1], rfl⟩
    · go_enter Try.func35, Try.ntmps35
      go_wp2
      go_ret
      exact ⟨by rw [decide_eq_false (by omega)]; rfl, rfl⟩
  · have e : isD zs k = false := by simp [isD, h]
    rw [e]
    clear e hl
    generalize zs.length = n at h hn
    go_enter Try.func35, Try.ntmps35
    go_wp2
    go_ret
    exact ⟨rfl, rfl⟩

theorem skip_le (zs : List Int) (k : Nat) : k ≤ skip zs k ∧ (k ≤ zs.length → skip zs k ≤ zs.length) := by
  unfold skip
  have := digs_le (zs.drop k)
  simp at this
  omega

set_option maxHeartbeats 400000 in
theorem skipDigits_any (b off cap : Nat) (zs : List Int) (x : Int) (k : Nat) (hx : x = (k : Int)) (hn : zs.length ≤ 4194304) (hk : k ≤ zs.length) (w : World) (hl : Lies w b off zs) :
    Calls Try.prog 34 #[.slice (some ⟨b, off, none⟩) zs.length cap, .int .i64 x] w fun e w' => e = .returned (.int .i64 (skip zs k)) ∧ w = w' := by
  subst hx
  go_enter Try.func34, Try.ntmps34
  go_wp2
  go_loop [1] (fun i => ∃ j : Nat, i = .int .i64 j ∧ j ≤ zs.length ∧ skip zs k = skip zs j) (fun i => zs.length - (intOf i).toNat)
  case atStart => exact ⟨k, rfl, hk, rfl⟩
  case round =>
    obtain ⟨j, rfl, hj, he⟩ := hrel
    have HE : Hid (skip zs k = skip zs j) := he
    clear he
    by_cases hd : isD zs j = true
    · have hlt : j < zs.length := by simp [isD] at hd; exact hd.1
      go_wp2_with (go_at_call 35; refine (isDigit_any b off cap zs _ j (by omega) hn _ hl).mono ?_; rintro e w' ⟨rfl, rfl⟩)
      go_round
      case rel => exact ⟨j + 1, by go_num, by omega, by rw [HE.out, skip_one hd]⟩
      case measure => simp [intOf]; omega
    · have hd' : isD zs j = false := by simpa using hd
      clear hd
      go_wp2_with (go_at_call 35; refine (isDigit_any b off cap zs _ j (by omega) hn _ hl).mono ?_; rintro e w' ⟨rfl, rfl⟩)
      go_ret
      exact ⟨ret_int (by rw [HE.out, skip_none hd']), rfl⟩

end Go.Proofs.Qxb6600807a
