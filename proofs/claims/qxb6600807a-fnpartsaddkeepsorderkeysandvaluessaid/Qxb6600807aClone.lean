/-
  THE WALK of openaiB1CloneBytes (laws_openai_b1.go): a fresh copy in a new block; nil stays nil.
-/
import Derived.Test.Qxb6600807aNumA
import Derived.WalkLawsBesides
import Derived.Deep.OwnRows
namespace Go.Proofs.Qxb6600807a
open Go.RowKit
open Num
set_option linter.unusedVariables false

theorem Try.info5 : (Try.prog.info? 5).map (fun i => (i.zero, i.size, i.bytes)) = some (some (.int .u8 0), 1, 1) := by kernel_rfl

/-- The copy as far as it has come. -/
def copied (z : Value) (f : Nat → Value) (k : Nat) : Nat → Value := fun j => if j < k then f j else z

theorem copied_step {w : World} {b t n k : Nat} {z v : Value} {f : Nat → Value} (h : w.rowIs b t n (copied z f k)) (hv : v = f k) : (w.setCell ⟨b, k, none⟩ v).rowIs b t n (copied z f (k + 1)) := by
  refine (h.set k v).congr fun j hj => ?_
  unfold copied
  subst hv
  by_cases e : j = k
  · subst e; simp
  · rw [if_neg e]
    by_cases e2 : j < k
    · rw [if_pos e2, if_pos (by omega)]
    · rw [if_neg e2, if_neg (by omega)]

set_option maxHeartbeats 400000 in
theorem cloneBytes_some (b off n cap : Nat) (z : Nat → Int) (hn : n ≤ 1048576) (w : World) (hb : b < w.heap.size) (hl : ∀ j, j < n → w.cell? ⟨b, off + j, none⟩ = some (.int .u8 (z j))) :
    Calls Try.prog 10 #[.slice (some ⟨b, off, none⟩) n cap] w fun e w' => e = .returned (.slice (some ⟨w.heap.size, 0, none⟩) n n) ∧ w'.rowIs w.heap.size 5 n (fun j => .int .u8 (z j)) ∧ Below w.heap.size w w' := by
  have hnil := fun w => Lib.run_eql_slice_nil (P := Try.prog) w 22 5 (some ⟨b, off, none⟩) n cap 0 0 Try.underlying22
  have hmk := run_make_row' (P := Try.prog) 22 5 (.int .u8 0) 1 Try.underlying22 Try.info5 rfl .i64 .i64 n (by omega) (by omega)
  go_enter Try.func10, Try.ntmps10
  go_wp2
  clear hnil hmk
  go_loopw [4] (fun i wr => ∃ k : Nat, k ≤ n ∧ i = .int .i64 k ∧ wr.rowIs w.heap.size 5 n (copied (.int .u8 0) (fun j => .int .u8 (z j)) k) ∧ Below w.heap.size w wr) (fun i _ => n - (intOf i).toNat)
  case atStart => exact ⟨0, Nat.zero_le _, rfl, (World.rowIs_made w (.int .u8 0) n 5).congr (fun j _ => by simp [copied]), (Below.refl _ _).alloc (Nat.le_refl _) _⟩
  case round =>
    obtain ⟨k, hk, rfl, hrow, hbel⟩ := hrel
    by_cases hlt : k < n
    · have hsrc : wr.cell? ⟨b, off + k, none⟩ = some (.int .u8 (z k)) := (hbel.cell (by exact hb)).trans (hl k hlt)
      have hdst := hrow.cell hlt
      have hfz := hrow.frozen k
      have R := copied_step (v := .int .u8 (z k)) hrow rfl
      have hbel' := hbel.setCell (p := ⟨w.heap.size, k, none⟩) (Nat.le_refl _) (.int .u8 (z k))
      have HR : Hid ((wr.setCell ⟨w.heap.size, k, none⟩ (.int .u8 (z k))).rowIs w.heap.size 5 n (copied (.int .u8 0) (fun j => .int .u8 (z j)) (k + 1)) ∧ Below w.heap.size w (wr.setCell ⟨w.heap.size, k, none⟩ (.int .u8 (z k)))) := ⟨R, hbel'⟩
      have hdst' : ∃ v, wr.cell? ⟨w.heap.size, k, none⟩ = some v := ⟨_, hdst⟩
      clear R hbel' hbel hrow hdst
      obtain ⟨v0, hdst⟩ := hdst'
      go_wp2
      go_roundw
      case rel => exact ⟨k + 1, by omega, by go_num, HR.out.1, HR.out.2⟩
      case measure => simp [intOf]; omega
    · have : k = n := by omega
      subst this
      have HR : Hid (wr.rowIs w.heap.size 5 k (fun j => .int .u8 (z j)) ∧ Below w.heap.size w wr) := ⟨hrow.congr (fun j hj => by simp [copied, hj]), hbel⟩
      clear hrow hbel
      go_wp2
      go_ret
      exact ⟨rfl, HR.out.1, HR.out.2⟩

set_option maxHeartbeats 400000 in
theorem cloneBytes_zero (x : Addr) (n cap : Nat) (hn : n < 1) (f : Nat → Value) (w : World) :
    Calls Try.prog 10 #[.slice (some x) n cap] w fun e w' => e = .returned (.slice (some ⟨w.heap.size, 0, none⟩) n n) ∧ w'.rowIs w.heap.size 5 n f ∧ Below w.heap.size w w' := by
  have hnil := fun w => Lib.run_eql_slice_nil (P := Try.prog) w 22 5 (some x) n cap 0 0 Try.underlying22
  have hmk := run_make_row' (P := Try.prog) 22 5 (.int .u8 0) 1 Try.underlying22 Try.info5 rfl .i64 .i64 n (by omega) (by omega)
  go_enter Try.func10, Try.ntmps10
  go_wp2
  clear hnil hmk
  go_loopw [4] (fun i wr => i = .int .i64 0 ∧ wr.rowIs w.heap.size 5 n f ∧ Below w.heap.size w wr) (fun i _ => 0 - (intOf i).toNat)
  case atStart => exact ⟨rfl, (World.rowIs_made w (.int .u8 0) n 5).congr (fun j h => absurd h (by omega)), (Below.refl _ _).alloc (Nat.le_refl _) _⟩
  case round =>
    obtain ⟨rfl, hrow, hbel⟩ := hrel
    have HR : Hid (wr.rowIs w.heap.size 5 n f ∧ Below w.heap.size w wr) := ⟨hrow, hbel⟩
    clear hrow hbel
    go_wp2
    go_ret
    exact ⟨rfl, HR.out.1, HR.out.2⟩

/-- The address of a cell that is there: no spot, and its block is there. -/
theorem addr_plain {w : World} {x : Addr} {v : Value} (h : w.cell? (x.add 0) = some v) : ∃ b off, x = ⟨b, off, none⟩ ∧ b < w.heap.size := by
  obtain ⟨b, off, spot⟩ := x
  have hspot : spot = none := by simpa [Addr.add] using World.cell?_spot h
  subst hspot
  refine ⟨b, off, rfl, ?_⟩
  have := World.block_lt_of_cell? w _ h
  simpa [Addr.add] using this

/-- A slice that is not nil, whatever its address: a fresh copy of its elements. -/
theorem cloneBytes_any (x : Addr) (n cap : Nat) (z : Nat → Int) (hn : n ≤ 1048576) (w : World) (hl : ∀ j, j < n → w.cell? (x.add j) = some (.int .u8 (z j))) :
    Calls Try.prog 10 #[.slice (some x) n cap] w fun e w' => e = .returned (.slice (some ⟨w.heap.size, 0, none⟩) n n) ∧ w'.rowIs w.heap.size 5 n (fun j => .int .u8 (z j)) ∧ Below w.heap.size w w' := by
  by_cases h0 : n = 0
  · exact cloneBytes_zero x n cap (by omega) _ w
  · obtain ⟨b, off, rfl, hb⟩ := addr_plain (hl 0 (by omega))
    exact cloneBytes_some b off n cap z hn w hb (fun j hj => by have := hl j hj; rw [Addr.add_lit] at this; exact this)

theorem lies_of_row {w : World} {g : Nat} {ys : List Int} (h : w.rowIs g 5 ys.length (fun j => .int .u8 (ch ys j))) : Lies w g 0 ys :=
  fun j hj => by have := h.cell hj; simpa using this

theorem lies_take {w : World} {b off n : Nat} {ys : List Int} (h : Lies w b off ys) : Lies w b off (ys.take n) := by
  intro j hj
  simp at hj
  rw [h j (by omega)]
  have : j < n := by omega
  simp [ch, List.getD, this]

set_option maxHeartbeats 400000 in
theorem cloneBytes_nil (w : World) : Calls Try.prog 10 #[.slice none 0 0] w fun e w' => e = .returned (.slice none 0 0) ∧ w = w' := by
  have hnil := fun w => Lib.run_eql_slice_nil (P := Try.prog) w 22 5 none 0 0 0 0 Try.underlying22
  go_enter Try.func10, Try.ntmps10
  go_wp2
  go_ret
  exact ⟨rfl, rfl⟩

end Go.Proofs.Qxb6600807a
