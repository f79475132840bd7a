/-
  THE LAW FnCheckNumberStopsWithinAndIgnoresTheRest: its walk.
-/
import Derived.Test.Qxb6600807aNumB
import Derived.Test.Qxb6600807aClone
namespace Go.Proofs.Qxb6600807a.Stops
open Go.RowKit
open Num
set_option linter.unusedVariables false

set_option maxHeartbeats 400000 in
theorem bytes_ok (a : Option Addr) (n cap : Nat) (i : Int) (hn : n ≤ 1048576) (w : World) :
    Calls Try.prog 13 #[.slice a n cap, .int .i64 i] w fun e w' => e = .returned (.bool true) ∧ w = w' := by
  go_enter Try.func13, Try.ntmps13
  go_wp2
  go_ret
  exact ⟨rfl, rfl⟩

set_option maxHeartbeats 400000 in
theorem bytes_no (a : Option Addr) (n cap : Nat) (i : Int) (hm : n ≤ 9223372036854775807) (hn : ¬ n ≤ 1048576) (w : World) :
    Calls Try.prog 13 #[.slice a n cap, .int .i64 i] w fun e w' => e = .returned (.bool false) ∧ w = w' := by
  go_enter Try.func13, Try.ntmps13
  go_wp2
  go_ret
  exact ⟨rfl, rfl⟩

set_option maxHeartbeats 400000 in
theorem big (a : Option Addr) (n cap : Nat) (i : Int) (hm : n ≤ 9223372036854775807) (hn : ¬ n ≤ 1048576) (w : World) :
    Calls Try.prog 4 #[.slice a n cap, .int .i64 i] w fun e w' => e = .returned (.bool true) ∧ Below w.heap.size w w' := by
  go_enter Try.func4, Try.ntmps4
  go_wp2_with (go_at_call 13; refine (bytes_no a n cap i hm hn _).mono ?_; rintro e w' ⟨rfl, rfl⟩)
  go_ret
  exact ⟨rfl, Below.refl _ _⟩

set_option maxHeartbeats 400000 in
theorem neg (a : Option Addr) (n cap : Nat) (i : Int) (hn : n ≤ 1048576) (hi : i < 0) (w : World) :
    Calls Try.prog 4 #[.slice a n cap, .int .i64 i] w fun e w' => e = .returned (.bool true) ∧ Below w.heap.size w w' := by
  go_enter Try.func4, Try.ntmps4
  go_wp2_with (go_at_call 13; refine (bytes_ok a n cap i hn _).mono ?_; rintro e w' ⟨rfl, rfl⟩)
  go_ret
  exact ⟨rfl, Below.refl _ _⟩

set_option maxRecDepth 100000 in
set_option maxHeartbeats 400000 in
/-- The slice is nil. -/
theorem at_nil (i : Nat) (hi : i ≤ 9223372036854775807) (w : World) :
    Calls Try.prog 4 #[.slice none 0 0, .int .i64 i] w fun e w' => e = .returned (.bool true) ∧ Below w.heap.size w w' := by
  have hcn := cn_past [] i (by simp)
  by_cases hp : 0 < i
  · have e1 : ((i : Int) == (i : Int)) = true := by simp
    go_enter Try.func4, Try.ntmps4
    go_wp2_with (first | (go_at_call 13; refine (bytes_ok none 0 0 _ (by omega) _).mono ?_; rintro e w' ⟨rfl, rfl⟩) | (go_at_call 10; refine (cloneBytes_nil _).mono ?_; rintro e w' ⟨rfl, rfl⟩) | (go_at_call 11; refine (zzCheckNumber_none none 0 _ i (by omega) _).mono ?_; rintro e w' ⟨rfl, rfl⟩))
    go_ret
    exact ⟨by simp, Below.refl _ _⟩
  · obtain rfl : i = 0 := by omega
    go_enter Try.func4, Try.ntmps4
    go_wp2_with (first | (go_at_call 13; refine (bytes_ok none 0 0 _ (by omega) _).mono ?_; rintro e w' ⟨rfl, rfl⟩) | (go_at_call 10; refine (cloneBytes_nil _).mono ?_; rintro e w' ⟨rfl, rfl⟩) | (go_at_call 11; refine (zzCheckNumber_none none 0 _ 0 (by omega) _).mono ?_; rintro e w' ⟨rfl, rfl⟩))
    go_ret
    exact ⟨by simp, Below.refl _ _⟩

set_option maxRecDepth 100000 in
set_option maxHeartbeats 400000 in
/-- The slice is not nil, and i lies beyond it. -/
theorem at_past (x : Addr) (cap : Nat) (ys : List Int) (i : Nat) (hi : i ≤ 9223372036854775807) (hn : ys.length ≤ 1048576) (hp : ys.length < i) (w : World) (hl : ∀ j, j < ys.length → w.cell? (x.add j) = some (.int .u8 (ch ys j))) :
    Calls Try.prog 4 #[.slice (some x) ys.length cap, .int .i64 i] w fun e w' => e = .returned (.bool true) ∧ Below w.heap.size w w' := by
  have hcn := cn_past ys i (by omega)
  have HL : Hid (∀ j, j < ys.length → w.cell? (x.add j) = some (.int .u8 (ch ys j))) := hl
  clear hl
  go_enter Try.func4, Try.ntmps4
  go_wp2_with (first | (go_at_call 13; refine (bytes_ok _ _ _ _ hn _).mono ?_; rintro e w' ⟨rfl, rfl⟩) | (go_at_call 10; refine (cloneBytes_any x ys.length cap (ch ys) hn _ HL.out).mono ?_; rintro e w1 ⟨rfl, hrow, hbel⟩; have HB := (show Hid _ from hbel); have hly := lies_of_row hrow; clear hbel hrow) | (go_at_call 11; refine (zzCheckNumber_some _ 0 _ ys _ i (by omega) hi (by omega) _ hly).mono ?_; rintro e w' ⟨rfl, rfl⟩))
  go_ret
  exact ⟨by simp, HB.out⟩

set_option maxRecDepth 100000 in
set_option maxHeartbeats 800000 in
/-- The slice is not nil, and i lies within it. -/
theorem at_within (x : Addr) (cap : Nat) (ys : List Int) (i : Nat) (hn : ys.length ≤ 1048576) (hp : i ≤ ys.length) (w : World) (hl : ∀ j, j < ys.length → w.cell? (x.add j) = some (.int .u8 (ch ys j))) :
    Calls Try.prog 4 #[.slice (some x) ys.length cap, .int .i64 i] w fun e w' => e = .returned (.bool true) ∧ Below w.heap.size w w' := by
  have hw := cn_within ys i hp
  have htk : Hid (cn (ys.take (cn ys i).1) i = cn ys i) := cn_take ys i
  have hlen : Hid ((ys.take (cn ys i).1).length = (cn ys i).1) := by simp [Hid]; omega
  have hso : Hid ((cn ys i).2 = true → (cn ys i).1 ≠ i) := cn_some ys i
  obtain ⟨n, hcn1⟩ : ∃ n, (cn ys i).1 = n := ⟨_, rfl⟩
  obtain ⟨o, hcn2⟩ : ∃ o, (cn ys i).2 = o := ⟨_, rfl⟩
  have hcn : Hid (cn ys i = (n, o)) := by rw [← hcn1, ← hcn2]; rfl
  have c1 : ∀ w b cap, Lies w b 0 ys → Calls Try.prog 11 #[.slice (some ⟨b, 0, none⟩) ys.length cap, .int .i64 i] w fun e w' => e = .returned (.tuple #[.int .i64 n, .bool o]) ∧ w = w' := by
    intro w b cap h
    have := zzCheckNumber_some b 0 cap ys _ i rfl (by omega) (by omega) w h
    rw [hcn.out] at this
    exact this
  have c2 : ∀ w b cap, Lies w b 0 ys → Calls Try.prog 11 #[.slice (some ⟨b, 0, none⟩) n cap, .int .i64 i] w fun e w' => e = .returned (.tuple #[.int .i64 n, .bool o]) ∧ w = w' := by
    intro w b cap h
    have := zzCheckNumber_some b 0 cap (ys.take (cn ys i).1) _ i rfl (by omega) (by rw [hlen.out]; omega) w (lies_take h)
    rw [htk.out, hlen.out, hcn.out] at this
    exact this
  rw [hcn1] at hw
  have hso' : Hid (o = true → n ≠ i) := by have := hso.out; rw [hcn1, hcn2] at this; exact this
  have HL : Hid (∀ j, j < ys.length → w.cell? (x.add j) = some (.int .u8 (ch ys j))) := hl
  have C1 := (show Hid _ from c1)
  have C2 := (show Hid _ from c2)
  clear hl c1 c2 hcn1 hcn2 hcn hlen htk hso
  obtain ⟨hw1, hw2⟩ := hw
  have e0 : ((n : Int) == (n : Int)) = true := by simp
  cases o
  · go_enter Try.func4, Try.ntmps4
    go_wp2_with (first | (go_at_call 13; refine (bytes_ok _ _ _ _ hn _).mono ?_; rintro e w' ⟨rfl, rfl⟩) | (go_at_call 10; refine (cloneBytes_any x ys.length cap (ch ys) hn _ HL.out).mono ?_; rintro e w1 ⟨rfl, hrow, hbel⟩; have HB := (show Hid _ from hbel); have hly := lies_of_row hrow; clear hbel hrow))
    refine (C1.out _ _ _ hly).mono ?_
    rintro e w' ⟨rfl, rfl⟩
    go_wp2_with fail
    refine (C2.out _ _ _ hly).mono ?_
    rintro e w' ⟨rfl, rfl⟩
    go_wp2_with fail
    go_ret
    exact ⟨by simp, HB.out⟩
  · have hne : ((n : Int) == (i : Int)) = false := by have := hso'.out rfl; simp; omega
    go_enter Try.func4, Try.ntmps4
    go_wp2_with (first | (go_at_call 13; refine (bytes_ok _ _ _ _ hn _).mono ?_; rintro e w' ⟨rfl, rfl⟩) | (go_at_call 10; refine (cloneBytes_any x ys.length cap (ch ys) hn _ HL.out).mono ?_; rintro e w1 ⟨rfl, hrow, hbel⟩; have HB := (show Hid _ from hbel); have hly := lies_of_row hrow; clear hbel hrow))
    refine (C1.out _ _ _ hly).mono ?_
    rintro e w' ⟨rfl, rfl⟩
    go_wp2_with fail
    refine (C2.out _ _ _ hly).mono ?_
    rintro e w' ⟨rfl, rfl⟩
    go_wp2_with fail
    go_ret
    exact ⟨by simp, HB.out⟩

end Go.Proofs.Qxb6600807a.Stops
