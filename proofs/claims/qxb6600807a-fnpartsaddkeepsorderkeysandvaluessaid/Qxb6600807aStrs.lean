/-
  THE WALKS of openaiB1CloneStrings and openaiB1ModelFind (laws_openai_b1.go).
-/
import Derived.Test.Qxb6600807aRows
import Derived.Test.Qxb6600807aFindP
import Derived.WalkKit
import Derived.WalkSpells
import Derived.WalkLawsBesides
import Derived.Outline
import Derived.Below
import Derived.Deep.OwnRows
namespace Go.Proofs.Qxb6600807a
open Go.RowKit
set_option linter.unusedVariables false
namespace Strs

theorem ret_int {k : IntKind} {a b : Int} (h : a = b) : Ending.returned (.int k a) = .returned (.int k b) := by rw [h]

open Find

set_option maxHeartbeats 400000 in
theorem modelFind_some (b n cap : Nat) (S : Nat → ByteArray) (q : ByteArray) (hn : n ≤ 4096) (w : World) (hl : ∀ j, j < n → w.cell? ⟨b, j, none⟩ = some (.string (S j))) :
    Calls Try.prog 21 #[.slice (some ⟨b, 0, none⟩) n cap, .string q] w fun e w' => ∃ r, e = .returned (.int .i64 r) ∧ Finds S n q r ∧ w = w' := by
  by_cases h16 : n ≤ 16
  · go_enter Try.func21, Try.ntmps21
    go_wp2
    go_loop [5] (fun i => ∃ k : Nat, i = .int .i64 k ∧ k ≤ n ∧ ∀ j, j < k → S j ≠ q) (fun i => n - (intOf i).toNat)
    case atStart => exact ⟨0, rfl, by omega, fun j hj => by omega⟩
    case round =>
      obtain ⟨k, rfl, hk, hno⟩ := hrel
      have HN : Hid (∀ j, j < k → S j ≠ q) := hno
      clear hno
      by_cases hlt : k < n
      · have hc := hl k hlt
        by_cases hq : S k = q
        · have hb := beq_of_eq hq
          have HQ : Hid (S k = q) := hq
          clear hq
          go_wp2
          go_ret
          exact ⟨_, rfl, ⟨fun _ => .inr ⟨k, rfl, hlt, HQ.out, HN.out⟩, fun h => absurd h (by omega)⟩, rfl⟩
        · have hb := beq_of_ne hq
          have HQ : Hid (S k ≠ q) := hq
          clear hq
          go_wp2
          go_round
          case rel => exact ⟨k + 1, by go_num, by omega, fun j hj => by
            rcases Nat.lt_or_ge j k with h | h
            · exact HN.out j h
            · have : j = k := by omega
              subst this
              exact HQ.out⟩
          case measure => simp [intOf]; omega
      · go_wp2
        go_ret
        exact ⟨_, rfl, ⟨fun _ => .inl ⟨rfl, fun j hj => HN.out j (by omega)⟩, fun h => absurd h (by omega)⟩, rfl⟩
  · go_enter Try.func21, Try.ntmps21
    go_wp2
    go_loop [6] (fun i => ∃ k : Nat, i = .int .i64 ((k : Int) - 1) ∧ k ≤ n ∧ ∀ j, k ≤ j → j < n → S j ≠ q) (fun i => (intOf i + 1).toNat)
    case atStart => exact ⟨n, rfl, by omega, fun j h1 h2 => by omega⟩
    case round =>
      obtain ⟨k, rfl, hk, hno⟩ := hrel
      have HN : Hid (∀ j, k ≤ j → j < n → S j ≠ q) := hno
      clear hno
      by_cases hlt : 0 < k
      · obtain ⟨m, rfl⟩ : ∃ m, k = m + 1 := ⟨k - 1, by omega⟩
        have e1 : (((m + 1 : Nat) : Int) - 1) = (m : Int) := by omega
        rw [e1]
        have hc := hl m (by omega)
        have hm : m < n := by omega
        by_cases hq : S m = q
        · have hb := beq_of_eq hq
          have HQ : Hid (S m = q) := hq
          clear hq e1
          go_wp2
          go_ret
          exact ⟨_, rfl, ⟨fun h => absurd h (by omega), fun _ => .inr ⟨m, rfl, hm, HQ.out, fun j h1 h2 => HN.out j (by omega) h2⟩⟩, rfl⟩
        · have hb := beq_of_ne hq
          have HQ : Hid (S m ≠ q) := hq
          clear hq e1
          go_wp2
          go_round
          case rel => exact ⟨m, by go_num, by omega, fun j h1 h2 => by
            rcases Nat.lt_or_ge m j with h | h
            · exact HN.out j (by omega) h2
            · have : j = m := by omega
              subst this
              exact HQ.out⟩
          case measure => simp [intOf]
      · obtain rfl : k = 0 := by omega
        go_wp2
        go_ret
        exact ⟨_, rfl, ⟨fun h => absurd h (by omega), fun _ => .inl ⟨rfl, fun j hj => HN.out j (by omega) hj⟩⟩, rfl⟩

set_option maxHeartbeats 400000 in
theorem modelFind_none (S : Nat → ByteArray) (a : Option Addr) (n cap : Nat) (q : ByteArray) (hn : n < 1) (w : World) :
    Calls Try.prog 21 #[.slice a n cap, .string q] w fun e w' => ∃ r, e = .returned (.int .i64 r) ∧ Finds S n q r ∧ w = w' := by
  go_enter Try.func21, Try.ntmps21
  go_wp2
  go_loop [5] (fun i => i = .int .i64 0) (fun i => 0)
  case atStart => exact rfl
  case round =>
    subst hrel
    go_wp2
    go_ret
    exact ⟨_, rfl, ⟨fun _ => .inl ⟨rfl, fun j hj => by omega⟩, fun h => absurd h (by omega)⟩, rfl⟩

theorem Try.info9 : (Try.prog.info? 9).map (fun i => (i.zero, i.size, i.bytes)) = some (some (.string ByteArray.empty), 1, 16) := by kernel_rfl

/-- The copy as far as it has come. -/
def copied (z : Value) (f : Nat → Value) (k : Nat) : Nat → Value := fun j => if j < k then f j else z

theorem copied_step {w : World} {b t n k : Nat} {z v : Value} {f : Nat → Value} (h : w.rowIs b t n (copied z f k)) (hv : v = f k) : (w.setCell ⟨b, k, none⟩ v).rowIs b t n (copied z f (k + 1)) := by
  refine (h.set k v).congr fun j hj => ?_
  unfold copied
  subst hv
  by_cases e : j = k
  · subst e; simp
  · rw [if_neg e]
    by_cases e2 : j < k
    · rw [if_pos e2, if_pos (by omega)]
    · rw [if_neg e2, if_neg (by omega)]

set_option maxHeartbeats 400000 in
theorem cloneStrs_some (b off n cap : Nat) (S : Nat → ByteArray) (hn : n ≤ 1048576) (w : World) (hb : b < w.heap.size) (hl : ∀ j, j < n → w.cell? ⟨b, off + j, none⟩ = some (.string (S j))) :
    Calls Try.prog 17 #[.slice (some ⟨b, off, none⟩) n cap] w fun e w' => e = .returned (.slice (some ⟨w.heap.size, 0, none⟩) n n) ∧ w'.rowIs w.heap.size 9 n (fun j => .string (S j)) ∧ Below w.heap.size w w' := by
  have hnil := fun w => Lib.run_eql_slice_nil (P := Try.prog) w 30 9 (some ⟨b, off, none⟩) n cap 0 0 Try.underlying30
  have hmk := run_make_row' (P := Try.prog) 30 9 (.string ByteArray.empty) 16 Try.underlying30 Try.info9 rfl .i64 .i64 n (by omega) (by omega)
  go_enter Try.func17, Try.ntmps17
  go_wp2
  clear hnil hmk
  go_loopw [4] (fun i wr => ∃ k : Nat, k ≤ n ∧ i = .int .i64 k ∧ wr.rowIs w.heap.size 9 n (copied (.string ByteArray.empty) (fun j => .string (S j)) k) ∧ Below w.heap.size w wr) (fun i _ => n - (intOf i).toNat)
  case atStart => exact ⟨0, Nat.zero_le _, rfl, (World.rowIs_made w (.string ByteArray.empty) n 9).congr (fun j _ => by simp [copied]), (Below.refl _ _).alloc (Nat.le_refl _) _⟩
  case round =>
    obtain ⟨k, hk, rfl, hrow, hbel⟩ := hrel
    by_cases hlt : k < n
    · have hsrc : wr.cell? ⟨b, off + k, none⟩ = some (.string (S k)) := (hbel.cell (by exact hb)).trans (hl k hlt)
      have hdst := hrow.cell hlt
      have hfz := hrow.frozen k
      have R := copied_step (v := .string (S k)) hrow rfl
      have hbel' := hbel.setCell (p := ⟨w.heap.size, k, none⟩) (Nat.le_refl _) (.string (S k))
      have HR : Hid ((wr.setCell ⟨w.heap.size, k, none⟩ (.string (S k))).rowIs w.heap.size 9 n (copied (.string ByteArray.empty) (fun j => .string (S j)) (k + 1)) ∧ Below w.heap.size w (wr.setCell ⟨w.heap.size, k, none⟩ (.string (S k)))) := ⟨R, hbel'⟩
      have hdst' : ∃ v, wr.cell? ⟨w.heap.size, k, none⟩ = some v := ⟨_, hdst⟩
      clear R hbel' hbel hrow hdst
      obtain ⟨v0, hdst⟩ := hdst'
      go_wp2
      go_roundw
      case rel => exact ⟨k + 1, by omega, by go_num, HR.out.1, HR.out.2⟩
      case measure => simp [intOf]; omega
    · have : k = n := by omega
      subst this
      have HR : Hid (wr.rowIs w.heap.size 9 k (fun j => .string (S j)) ∧ Below w.heap.size w wr) := ⟨hrow.congr (fun j hj => by simp [copied, hj]), hbel⟩
      clear hrow hbel
      go_wp2
      go_ret
      exact ⟨rfl, HR.out.1, HR.out.2⟩

set_option maxHeartbeats 400000 in
theorem cloneStrs_zero (x : Addr) (n cap : Nat) (hn : n < 1) (f : Nat → Value) (w : World) :
    Calls Try.prog 17 #[.slice (some x) n cap] w fun e w' => e = .returned (.slice (some ⟨w.heap.size, 0, none⟩) n n) ∧ w'.rowIs w.heap.size 9 n f ∧ Below w.heap.size w w' := by
  have hnil := fun w => Lib.run_eql_slice_nil (P := Try.prog) w 30 9 (some x) n cap 0 0 Try.underlying30
  have hmk := run_make_row' (P := Try.prog) 30 9 (.string ByteArray.empty) 16 Try.underlying30 Try.info9 rfl .i64 .i64 n (by omega) (by omega)
  go_enter Try.func17, Try.ntmps17
  go_wp2
  clear hnil hmk
  go_loopw [4] (fun i wr => i = .int .i64 0 ∧ wr.rowIs w.heap.size 9 n f ∧ Below w.heap.size w wr) (fun i _ => 0 - (intOf i).toNat)
  case atStart => exact ⟨rfl, (World.rowIs_made w (.string ByteArray.empty) n 9).congr (fun j h => absurd h (by omega)), (Below.refl _ _).alloc (Nat.le_refl _) _⟩
  case round =>
    obtain ⟨rfl, hrow, hbel⟩ := hrel
    have HR : Hid (wr.rowIs w.heap.size 9 n f ∧ Below w.heap.size w wr) := ⟨hrow, hbel⟩
    clear hrow hbel
    go_wp2
    go_ret
    exact ⟨rfl, HR.out.1, HR.out.2⟩

set_option maxHeartbeats 400000 in
theorem cloneStrs_nil (w : World) : Calls Try.prog 17 #[.slice none 0 0] w fun e w' => e = .returned (.slice none 0 0) ∧ w = w' := by
  have hnil := fun w => Lib.run_eql_slice_nil (P := Try.prog) w 30 9 none 0 0 0 0 Try.underlying30
  go_enter Try.func17, Try.ntmps17
  go_wp2
  go_ret
  exact ⟨rfl, rfl⟩

/-- The address of a cell that is there: no spot, and its block is there. -/
theorem addr_plain {w : World} {x : Addr} {v : Value} (h : w.cell? (x.add 0) = some v) : ∃ b off, x = ⟨b, off, none⟩ ∧ b < w.heap.size := by
  obtain ⟨b, off, spot⟩ := x
  have hspot : spot = none := by simpa [Addr.add] using World.cell?_spot h
  subst hspot
  refine ⟨b, off, rfl, ?_⟩
  have := World.block_lt_of_cell? w _ h
  simpa [Addr.add] using this

/-- A slice of strings that came in: nil, or its cells hold the strings S. -/
def In (w : World) (a : Option Addr) (n cap : Nat) (S : Nat → ByteArray) : Prop :=
  (a = none ∧ n = 0 ∧ cap = 0) ∨ ∃ x, a = some x ∧ ∀ j, j < n → w.cell? (x.add j) = some (.string (S j))
/-- A copy of it: nil, or a row of its own. -/
def Cl (w : World) (a : Option Addr) (n : Nat) (S : Nat → ByteArray) : Prop :=
  (a = none ∧ n = 0) ∨ ∃ b, a = some ⟨b, 0, none⟩ ∧ b < w.heap.size ∧ ∀ j, j < n → w.cell? ⟨b, j, none⟩ = some (.string (S j))

theorem In.later {w w' : World} {a : Option Addr} {n cap : Nat} {S : Nat → ByteArray} (h : In w a n cap S) (hb : Below w.heap.size w w') : In w' a n cap S := by
  rcases h with h | ⟨x, rfl, h⟩
  · exact .inl h
  · refine .inr ⟨x, rfl, fun j hj => ?_⟩
    have h0 := h j hj
    rw [hb.cell (World.block_lt_of_cell? w _ h0)]
    exact h0
theorem Cl.later {w w' : World} {a : Option Addr} {n B : Nat} {S : Nat → ByteArray} (h : Cl w a n S) (hB : w.heap.size ≤ B) (hb : Below B w w') : Cl w' a n S := by
  rcases h with h | ⟨b, rfl, hlt, h⟩
  · exact .inl h
  · refine .inr ⟨b, rfl, Nat.lt_of_lt_of_le hlt hb.size, fun j hj => ?_⟩
    rw [hb.cell (by exact Nat.lt_of_lt_of_le hlt hB)]
    exact h j hj

theorem clone_cl (a : Option Addr) (n cap : Nat) (S : Nat → ByteArray) (hn : n ≤ 1048576) (w : World) (h : In w a n cap S) :
    Calls Try.prog 17 #[.slice a n cap] w fun e w' => ∃ a', e = .returned (.slice a' n n) ∧ Cl w' a' n S ∧ Below w.heap.size w w' := by
  rcases h with ⟨rfl, rfl, rfl⟩ | ⟨x, rfl, h⟩
  · refine (cloneStrs_nil w).mono fun e w' ⟨he, hw⟩ => ?_
    subst hw
    exact ⟨none, he, .inl ⟨rfl, rfl⟩, Below.refl _ _⟩
  · by_cases h0 : n = 0
    · refine (cloneStrs_zero x n cap (by omega) (fun j => .string (S j)) w).mono fun e w' ⟨he, hr, hb⟩ => ?_
      exact ⟨_, he, .inr ⟨_, rfl, hr.lt, fun j hj => hr.cell hj⟩, hb⟩
    · obtain ⟨b, off, rfl, hb⟩ := addr_plain (h 0 (by omega))
      refine (cloneStrs_some b off n cap S hn w hb (fun j hj => by have := h j hj; rw [Addr.add_lit] at this; exact this)).mono fun e w' ⟨he, hr, hb⟩ => ?_
      exact ⟨_, he, .inr ⟨_, rfl, hr.lt, fun j hj => hr.cell hj⟩, hb⟩

theorem modelFind_cl (a : Option Addr) (n cap : Nat) (S : Nat → ByteArray) (q : ByteArray) (hn : n ≤ 4096) (w : World) (h : Cl w a n S) :
    Calls Try.prog 21 #[.slice a n cap, .string q] w fun e w' => ∃ r, e = .returned (.int .i64 r) ∧ Finds S n q r ∧ w = w' := by
  rcases h with ⟨rfl, rfl⟩ | ⟨b, rfl, _, h⟩
  · exact modelFind_none S none 0 cap q (by omega) w
  · exact modelFind_some b n cap S q hn w h

end Strs
end Go.Proofs.Qxb6600807a
