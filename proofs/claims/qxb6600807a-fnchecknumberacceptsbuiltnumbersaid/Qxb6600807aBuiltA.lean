/-
  THE LAW FnCheckNumberAcceptsBuiltNumber: what its walk stands on.
-/
import Derived.Test.Qxb6600807aUint
import Derived.Test.Qxb6600807aNumB
import Derived.Test.Qxb6600807aClone
namespace Go.Proofs.Qxb6600807a.Built
open Go.RowKit
open Num
set_option linter.unusedVariables false

/-- A slice of bytes that came in. -/
def In (w : World) (a : Option Addr) (cap : Nat) (zs : List Int) : Prop :=
  (a = none ∧ cap = 0 ∧ zs = []) ∨ ∃ x, a = some x ∧ ∀ j, j < zs.length → w.cell? (x.add j) = some (.int .u8 (ch zs j))

/-- A copy of it: nil, or at the head of a block of its own. -/
def Cl (w : World) (a : Option Addr) (zs : List Int) : Prop :=
  (a = none ∧ zs = []) ∨ ∃ b, a = some ⟨b, 0, none⟩ ∧ b < w.heap.size ∧ Lies w b 0 zs

theorem In.later {w w' : World} {a : Option Addr} {cap : Nat} {zs : List Int} (h : In w a cap zs) (hb : Below w.heap.size w w') : In w' a cap zs := by
  rcases h with h | ⟨x, rfl, h⟩
  · exact .inl h
  · refine .inr ⟨x, rfl, fun j hj => ?_⟩
    have h0 := h j hj
    rw [hb.cell (World.block_lt_of_cell? w _ h0)]
    exact h0

theorem Cl.later {w w' : World} {a : Option Addr} {zs : List Int} (h : Cl w a zs) (hb : Below w.heap.size w w') : Cl w' a zs := by
  rcases h with h | ⟨b, rfl, hlt, h⟩
  · exact .inl h
  · refine .inr ⟨b, rfl, Nat.lt_of_lt_of_le hlt hb.size, fun j hj => ?_⟩
    rw [hb.cell (by exact hlt)]
    exact h j hj

theorem clone_cl (a : Option Addr) (cap : Nat) (zs : List Int) (hn : zs.length ≤ 1048576) (w : World) (h : In w a cap zs) :
    Calls Try.prog 10 #[.slice a zs.length cap] w fun e w' => ∃ a', e = .returned (.slice a' zs.length zs.length) ∧ Cl w' a' zs ∧ Below w.heap.size w w' := by
  rcases h with ⟨rfl, rfl, rfl⟩ | ⟨x, rfl, h⟩
  · refine (cloneBytes_nil w).mono fun e w' ⟨he, hw⟩ => ?_
    subst hw
    exact ⟨none, he, .inl ⟨rfl, rfl⟩, Below.refl _ _⟩
  · refine (cloneBytes_any x zs.length cap (ch zs) hn w h).mono fun e w' ⟨he, hr, hb⟩ => ?_
    exact ⟨_, he, .inr ⟨_, rfl, hr.lt, lies_of_row hr⟩, hb⟩

/-- What holds while the number is built behind the bytes ps, in the block that was new in w1: n bytes stand there, the bytes ps and xs. -/
def Inv (w1 wr : World) (cap : Nat) (ps xs : List Int) (n : Nat) : Prop :=
  n = ps.length + xs.length ∧ wr.ownsRow 0 5 1 (.slice (some ⟨w1.heap.size, 0, none⟩) n cap) n ((ps ++ xs).map (Value.int .u8)) ∧ Below w1.heap.size w1 wr ∧ w1.heap.size < wr.heap.size

theorem inv_one {w1 wr w' : World} {cap n : Nat} {ps xs : List Int} {c : Int} {o : Obj} (h : Inv w1 wr cap ps xs n)
    (ho : w'.ownsRow 0 5 1 (.slice (some ⟨w1.heap.size, 0, none⟩) (n + 1) cap) (n + 1) ((ps ++ xs).map (Value.int .u8) ++ [.int .u8 c]))
    (hg : (wr.alloc o).grownBy w' (some w1.heap.size)) : Inv w1 w' cap ps (xs ++ [c]) (n + 1) := by
  obtain ⟨h0, h1, h2, h3⟩ := h
  have e : ps ++ (xs ++ [c]) = (ps ++ xs) ++ [c] := by simp
  refine ⟨by simp; omega, ?_, ?_, ?_⟩
  · rw [e, List.map_append]
    exact ho
  · refine (h2.alloc (by omega) o).grown hg (by simp; omega) ?_
    intro k hk
    simp at hk
    omega
  · have := hg.size
    simp at this
    omega

theorem appendUint_n (w1 wr : World) (cap n : Nat) (ps xs : List Int) (v : Nat) (hv : v < 18446744073709551616) (hcap : n + 20 ≤ cap) (hcm : cap ≤ 4194304) (h : Inv w1 wr cap ps xs n) :
    Calls Try.prog 15 #[.slice (some ⟨w1.heap.size, 0, none⟩) n cap, .int .u64 v] wr fun e w' => ∃ n', e = .returned (.slice (some ⟨w1.heap.size, 0, none⟩) n' cap) ∧ n' ≤ n + 20 ∧ Inv w1 w' cap ps (xs ++ decF 20 v) n' := by
  obtain ⟨h0, h1, h2, h3⟩ := h
  have e0 : n = (ps ++ xs).length := by simp; omega
  subst e0
  refine (appendUint_any 0 w1.heap.size cap (ps ++ xs) v hv hcap hcm wr h3 h1).mono ?_
  rintro e w' ⟨he, ho, hg⟩
  refine ⟨_, he, ?_, ?_, ?_, ?_, ?_⟩
  · have := decF_len 20 v
    rw [List.length_append]
    omega
  · simp
  · rw [← List.append_assoc]; exact ho
  · refine h2.grown hg (by omega) ?_
    intro k hk
    simp at hk
    omega
  · exact Nat.lt_of_lt_of_le h3 hg.size

theorem one_cell (c : Int) : ∀ u ∈ [Value.int .u8 c], u.oneCell' = true := by
  intro u hu
  simp at hu
  subst hu
  rfl

theorem grown_none {w w' : World} (h : w.grownBy w' none) : Below w.heap.size w w' :=
  ⟨h.os, h.tape, h.output, h.size, fun k hk => h.block k hk (by simp)⟩

/-- The cells of a copy, as append reads them. -/
theorem cl_cells {w : World} {a : Option Addr} {zs : List Int} (h : Cl w a zs) : ∀ ad, a = some ad → ∀ j u, (zs.map (Value.int .u8))[j]? = some u → w.cell? (ad.add j) = some u := by
  intro ad had j u hu
  rcases h with ⟨h, _⟩ | ⟨b, h, _, hl⟩
  · rw [h] at had; cases had
  · rw [h] at had
    obtain rfl := Option.some.inj had
    have hj : j < zs.length := by
      have := (List.getElem?_eq_some_iff.1 hu).1
      simpa using this
    rw [Addr.add_lit, hl j hj]
    simp [hj] at hu
    rw [← hu]
    simp [ch, List.getD, hj]
theorem cl_none {w : World} {a : Option Addr} {zs : List Int} (h : Cl w a zs) : a = none → zs.length = 0 ∧ zs.length = 0 := by
  intro ha
  rcases h with ⟨_, h⟩ | ⟨b, h, _⟩
  · simp [h]
  · rw [h] at ha; cases ha

/-- Behind the copy of the first slice. -/
theorem inv_start {w1 w2 w3 : World} {cap : Nat} {ps : List Int} (h1 : w1.grownBy w2 none) (hs : w1.heap.size < w2.heap.size)
    (ho : w3.ownsRow 0 5 1 (.slice (some ⟨w1.heap.size, 0, none⟩) ps.length cap) ps.length (ps.map (Value.int .u8))) (hg : w2.grownBy w3 (some w1.heap.size)) : Inv w1 w3 cap ps [] ps.length := by
  refine ⟨by simp, by simpa using ho, ?_, Nat.lt_of_lt_of_le hs hg.size⟩
  refine (grown_none h1).grown hg (by omega) ?_
  intro k hk
  simp at hk
  omega

/-- The digits made of bytes: each mod 10. -/
def mods (zs : List Int) (k : Nat) : List Int := (zs.take k).map fun z => 48 + z % 10

theorem mods_len (zs : List Int) (k : Nat) (h : k ≤ zs.length) : (mods zs k).length = k := by simp [mods]; omega
theorem mods_step (zs : List Int) (k : Nat) (h : k < zs.length) : mods zs (k + 1) = mods zs k ++ [48 + ch zs k % 10] := by
  unfold mods
  have e : zs[k] = ch zs k := by simp [ch, List.getD, h]
  rw [List.take_succ_eq_append_getElem h, List.map_append, e]
  rfl

theorem dig_mod {z : Int} (h : 0 ≤ z) : dig (48 + z % 10) = true := by simp [dig]; omega
theorem run_dig4 {xs : List Int} {z : Int} {k : Nat} (h : run 0 xs = (xs.length, if k = 0 then 4 else 5)) (hz : 0 ≤ z) : run 0 (xs ++ [48 + z % 10]) = ((xs ++ [48 + z % 10]).length, if k + 1 = 0 then 4 else 5) := by
  rw [if_neg (by omega)]
  refine run_snoc h ?_
  by_cases e : k = 0
  · rw [if_pos e]; simp [nstep, dig_mod hz]
  · rw [if_neg e]; exact ns5 _ (dig_mod hz)
theorem run_dig7 {xs : List Int} {z : Int} {k t : Nat} (ht : t = 6 ∨ t = 7) (h : run 0 xs = (xs.length, if k = 0 then t else 8)) (hz : 0 ≤ z) : run 0 (xs ++ [48 + z % 10]) = ((xs ++ [48 + z % 10]).length, if k + 1 = 0 then t else 8) := by
  rw [if_neg (by omega)]
  refine run_snoc h ?_
  by_cases e : k = 0
  · rw [if_pos e]
    have h1 : ¬ 48 + z % 10 = 43 := by omega
    have h2 : ¬ 48 + z % 10 = 45 := by omega
    rcases ht with rfl | rfl <;> simp [nstep, dig_mod hz, h1, h2]
  · rw [if_neg e]; exact ns8 _ (dig_mod hz)
theorem run_whole {xs : List Int} {t v : Nat} (h : run 0 xs = (xs.length, t)) (ht : t = 0 ∨ t = 1) (hv : v < 18446744073709551616) : ∃ s, run 0 (xs ++ decF 20 v) = ((xs ++ decF 20 v).length, s) ∧ (s = 2 ∨ s = 3) := by
  obtain ⟨s, h1, h2⟩ := run_dec ht 19 v (by omega)
  exact ⟨s, run_more h h1, h2⟩
theorem run_point {xs : List Int} {t : Nat} (h : run 0 xs = (xs.length, t)) (ht : t = 2 ∨ t = 3) : run 0 (xs ++ [46]) = ((xs ++ [46]).length, 4) := by
  refine run_snoc h ?_
  rcases ht with rfl | rfl <;> rfl
theorem run_mark {xs : List Int} {t : Nat} {c : Int} (h : run 0 xs = (xs.length, t)) (ht : t = 2 ∨ t = 3 ∨ t = 5) (hc : c = 69 ∨ c = 101) : run 0 (xs ++ [c]) = ((xs ++ [c]).length, 6) := by
  refine run_snoc h ?_
  rcases ht with rfl | rfl | rfl <;> rcases hc with rfl | rfl <;> rfl
theorem run_sign {xs : List Int} {c : Int} (h : run 0 xs = (xs.length, 6)) (hc : c = 43 ∨ c = 45) : run 0 (xs ++ [c]) = ((xs ++ [c]).length, 7) := by
  refine run_snoc h ?_
  rcases hc with rfl | rfl <;> rfl
/-- A copy that is not empty lies in a block. -/
theorem cl_some {w : World} {a : Option Addr} {zs : List Int} (h : Cl w a zs) (hz : 0 < zs.length) : ∃ b, a = some ⟨b, 0, none⟩ ∧ b < w.heap.size ∧ Lies w b 0 zs := by
  rcases h with ⟨_, rfl⟩ | h
  · simp at hz
  · exact h

theorem check_n (w1 wr : World) (cap n : Nat) (ps xs : List Int) (t : Nat) (hr : run 0 xs = (xs.length, t)) (ha : acc t = true) (hn : n ≤ 4194304) (hc : n ≤ cap) (h : Inv w1 wr cap ps xs n) :
    Calls Try.prog 11 #[.slice (some ⟨w1.heap.size, 0, none⟩) n cap, .int .i64 ps.length] wr fun e w' => e = .returned (.tuple #[.int .i64 n, .bool true]) ∧ wr = w' := by
  obtain ⟨h0, h1, h2, h3⟩ := h
  have e0 : n = (ps ++ xs).length := by simp; omega
  have hl : Lies wr w1.heap.size 0 (ps ++ xs) := by
    intro j hj
    rw [Nat.zero_add, h1.cellAt j (by omega)]
    simp only [List.getElem?_map]
    rw [List.getElem?_eq_getElem hj]
    simp only [Option.map_some, ch, List.getD]
    rw [List.getElem?_eq_getElem hj]
    rfl
  have hcn : cn (ps ++ xs) ps.length = (n, true) := by
    rw [← at0]
    simp only [at_]
    have e : (ps ++ xs).drop ps.length = xs := by simp
    rw [e, hr, ha, h0]
  have := zzCheckNumber_some w1.heap.size 0 cap (ps ++ xs) ps.length ps.length rfl (by omega) (by omega) wr hl
  rw [hcn, ← e0] at this
  exact this

/-- The tests ahead: the lengths. -/
theorem bytes_ok (a0 a3 a4 : Option Addr) (n0 n3 n4 c0 c3 c4 : Nat) (b1 b5 : Bool) (v2 v6 : Int) (h : n0 + n3 + n4 ≤ 1048576) (w : World) :
    Calls Try.prog 14 #[.slice a0 n0 c0, .bool b1, .int .u64 v2, .slice a3 n3 c3, .slice a4 n4 c4, .bool b5, .int .u8 v6] w fun e w' => e = .returned (.bool true) ∧ w = w' := by
  go_enter Try.func14, Try.ntmps14
  go_wp2
  go_ret
  exact ⟨rfl, rfl⟩

set_option maxHeartbeats 400000 in
theorem bytes_no (a0 a3 a4 : Option Addr) (n0 n3 n4 c0 c3 c4 : Nat) (b1 b5 : Bool) (v2 v6 : Int) (h : ¬ n0 + n3 + n4 ≤ 1048576) (m0 : n0 ≤ 9223372036854775807) (m3 : n3 ≤ 9223372036854775807) (m4 : n4 ≤ 9223372036854775807) (w : World) :
    Calls Try.prog 14 #[.slice a0 n0 c0, .bool b1, .int .u64 v2, .slice a3 n3 c3, .slice a4 n4 c4, .bool b5, .int .u8 v6] w fun e w' => e = .returned (.bool false) ∧ w = w' := by
  go_enter Try.func14, Try.ntmps14
  go_wp2
  all_goals (go_ret; exact ⟨rfl, rfl⟩)

set_option maxRecDepth 100000 in
set_option maxHeartbeats 400000 in
theorem big (a0 a3 a4 : Option Addr) (n0 n3 n4 c0 c3 c4 : Nat) (b1 b5 : Bool) (v2 v6 : Int) (h : ¬ n0 + n3 + n4 ≤ 1048576) (m0 : n0 ≤ 9223372036854775807) (m3 : n3 ≤ 9223372036854775807) (m4 : n4 ≤ 9223372036854775807) (w : World) :
    Calls Try.prog 5 #[.slice a0 n0 c0, .bool b1, .int .u64 v2, .slice a3 n3 c3, .slice a4 n4 c4, .bool b5, .int .u8 v6] w fun e w' => e = .returned (.bool true) ∧ Below w.heap.size w w' := by
  go_enter Try.func5, Try.ntmps5
  go_wp2_with (go_at_call 14; refine (bytes_no _ _ _ _ _ _ _ _ _ _ _ _ _ h m0 m3 m4 _).mono ?_; rintro e w' ⟨rfl, rfl⟩)
  go_ret
  exact ⟨rfl, Below.refl _ _⟩

end Go.Proofs.Qxb6600807a.Built
