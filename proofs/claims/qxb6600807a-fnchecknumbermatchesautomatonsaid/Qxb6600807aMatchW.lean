/-
  THE LAW FnCheckNumberMatchesAutomaton: its walk.
-/
import Derived.Test.Qxb6600807aNumB
import Derived.Test.Qxb6600807aClone
import Derived.Test.Qxb6600807aStep
namespace Go.Proofs.Qxb6600807a.Match
open Go.RowKit
open Num
set_option linter.unusedVariables false

set_option maxHeartbeats 400000 in
theorem bytes_ok (a : Option Addr) (n cap : Nat) (i : Int) (hn : n ≤ 1048576) (w : World) :
    Calls Try.prog 9 #[.slice a n cap, .int .i64 i] w fun e w' => e = .returned (.bool true) ∧ w = w' := by
  go_enter Try.func9, Try.ntmps9
  go_wp2
  go_ret
  exact ⟨rfl, rfl⟩

set_option maxHeartbeats 400000 in
theorem bytes_no (a : Option Addr) (n cap : Nat) (i : Int) (hm : n ≤ 9223372036854775807) (hn : ¬ n ≤ 1048576) (w : World) :
    Calls Try.prog 9 #[.slice a n cap, .int .i64 i] w fun e w' => e = .returned (.bool false) ∧ w = w' := by
  go_enter Try.func9, Try.ntmps9
  go_wp2
  go_ret
  exact ⟨rfl, rfl⟩

set_option maxHeartbeats 400000 in
theorem big (a : Option Addr) (n cap : Nat) (i : Int) (hm : n ≤ 9223372036854775807) (hn : ¬ n ≤ 1048576) (w : World) :
    Calls Try.prog 3 #[.slice a n cap, .int .i64 i] w fun e w' => e = .returned (.bool true) ∧ Below w.heap.size w w' := by
  go_enter Try.func3, Try.ntmps3
  go_wp2_with (go_at_call 9; refine (bytes_no a n cap i hm hn _).mono ?_; rintro e w' ⟨rfl, rfl⟩)
  go_ret
  exact ⟨rfl, Below.refl _ _⟩

set_option maxHeartbeats 400000 in
theorem neg (a : Option Addr) (n cap : Nat) (i : Int) (hn : n ≤ 1048576) (hi : i < 0) (w : World) :
    Calls Try.prog 3 #[.slice a n cap, .int .i64 i] w fun e w' => e = .returned (.bool true) ∧ Below w.heap.size w w' := by
  go_enter Try.func3, Try.ntmps3
  go_wp2_with (go_at_call 9; refine (bytes_ok a n cap i hn _).mono ?_; rintro e w' ⟨rfl, rfl⟩)
  go_ret
  exact ⟨rfl, Below.refl _ _⟩

set_option maxRecDepth 100000 in
set_option maxHeartbeats 400000 in
/-- The slice is nil. -/
theorem at_nil (i : Nat) (w : World) :
    Calls Try.prog 3 #[.slice none 0 0, .int .i64 i] w fun e w' => e = .returned (.bool true) ∧ Below w.heap.size w w' := by
  have c1 : ∀ w, Calls Try.prog 12 #[.slice none 0 0, .int .i64 i] w fun e w' => e = .returned (.tuple #[.int .i64 (cn [] i).1, .bool (cn [] i).2]) ∧ w = w' := by
    intro w
    have := automaton_none none 0 i w
    rw [at0] at this
    exact this
  have c2 : ∀ w, Calls Try.prog 11 #[.slice none 0 0, .int .i64 i] w fun e w' => e = .returned (.tuple #[.int .i64 (cn [] i).1, .bool (cn [] i).2]) ∧ w = w' := fun w => zzCheckNumber_none none 0 i i rfl w
  generalize (cn [] i).1 = n at c1 c2
  generalize (cn [] i).2 = o at c1 c2
  have C1 := (show Hid _ from c1)
  have C2 := (show Hid _ from c2)
  clear c1 c2
  have e0 : ((n : Int) == (n : Int)) = true := by simp
  go_enter Try.func3, Try.ntmps3
  go_wp2_with (first | (go_at_call 9; refine (bytes_ok none 0 0 _ (by omega) _).mono ?_; rintro e w' ⟨rfl, rfl⟩) | (go_at_call 10; refine (cloneBytes_nil _).mono ?_; rintro e w' ⟨rfl, rfl⟩) | (go_at_call 11; refine (C2.out _).mono ?_; rintro e w' ⟨rfl, rfl⟩) | (go_at_call 12; refine (C1.out _).mono ?_; rintro e w' ⟨rfl, rfl⟩))
  go_ret
  exact ⟨by simp, Below.refl _ _⟩

set_option maxRecDepth 100000 in
set_option maxHeartbeats 400000 in
/-- The slice is not nil. -/
theorem at_some (x : Addr) (cap : Nat) (ys : List Int) (i : Nat) (hi : i ≤ 9223372036854775807) (hn : ys.length ≤ 1048576) (w : World) (hl : ∀ j, j < ys.length → w.cell? (x.add j) = some (.int .u8 (ch ys j))) :
    Calls Try.prog 3 #[.slice (some x) ys.length cap, .int .i64 i] w fun e w' => e = .returned (.bool true) ∧ Below w.heap.size w w' := by
  have c1 : ∀ w b cap, Lies w b 0 ys → Calls Try.prog 12 #[.slice (some ⟨b, 0, none⟩) ys.length cap, .int .i64 i] w fun e w' => e = .returned (.tuple #[.int .i64 (cn ys i).1, .bool (cn ys i).2]) ∧ w = w' := by
    intro w b cap h
    have := automaton_some b 0 cap ys i hi hn w h
    rw [at0] at this
    exact this
  have c2 : ∀ w b cap, Lies w b 0 ys → Calls Try.prog 11 #[.slice (some ⟨b, 0, none⟩) ys.length cap, .int .i64 i] w fun e w' => e = .returned (.tuple #[.int .i64 (cn ys i).1, .bool (cn ys i).2]) ∧ w = w' :=
    fun w b cap h => zzCheckNumber_some b 0 cap ys _ i rfl hi (by omega) w h
  generalize (cn ys i).1 = n at c1 c2
  generalize (cn ys i).2 = o at c1 c2
  have C1 := (show Hid _ from c1)
  have C2 := (show Hid _ from c2)
  have HL : Hid (∀ j, j < ys.length → w.cell? (x.add j) = some (.int .u8 (ch ys j))) := hl
  clear c1 c2 hl
  have e0 : ((n : Int) == (n : Int)) = true := by simp
  go_enter Try.func3, Try.ntmps3
  go_wp2_with (first | (go_at_call 9; refine (bytes_ok _ _ _ _ hn _).mono ?_; rintro e w' ⟨rfl, rfl⟩) | (go_at_call 10; refine (cloneBytes_any x ys.length cap (ch ys) hn _ HL.out).mono ?_; rintro e w1 ⟨rfl, hrow, hbel⟩; have HB := (show Hid _ from hbel); have hly := lies_of_row hrow; clear hbel hrow) | (go_at_call 11; refine (C2.out _ _ _ hly).mono ?_; rintro e w' ⟨rfl, rfl⟩) | (go_at_call 12; refine (C1.out _ _ _ hly).mono ?_; rintro e w' ⟨rfl, rfl⟩))
  go_ret
  exact ⟨by simp, HB.out⟩

end Go.Proofs.Qxb6600807a.Match
