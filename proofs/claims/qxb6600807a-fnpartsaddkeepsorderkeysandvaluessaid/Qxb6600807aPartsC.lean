/-
  THE WALKS of ZZNewParts, ZZAdd, '(*parts).find', ZZFind, ZZLen, ZZKeyAt, ZZRawAt (openai).
-/
import Derived.Test.Qxb6600807aPartsB
namespace Go.Proofs.Qxb6600807a.Parts
open Go.RowKit Go.Maps
open Find
set_option linter.unusedVariables false

/-- The whole state. -/
def Ok (w : World) (B p : Nat) (S : Nat → ByteArray) (R : Nat → Value) (n : Nat) : Prop := ∃ ev m, Ent w B p S R n ev m ∧ Mp w B S n m

set_option maxHeartbeats 400000 in
theorem newParts_any (S : Nat → ByteArray) (R : Nat → Value) (w : World) :
    Calls Try.prog 18 #[] w fun e w' => e = .returned (.pointer (some ⟨w.heap.size, 0, none⟩)) ∧ Ok w' w.heap.size w.heap.size S R 0 ∧ Below w.heap.size w w' := by
  go_enter Try.func18, Try.ntmps18
  go_wp2
  go_ret
  exact ⟨rfl, ⟨.slice none 0 0, none, ⟨Nat.le_refl _, ⟨_, heap_alloc_new w _⟩, World.ownsRow_nil _ _ _ _⟩, .inl ⟨by omega, rfl⟩⟩, (Below.refl _ _).alloc (Nat.le_refl _) _⟩

set_option maxHeartbeats 400000 in
theorem zzAdd_any (B p : Nat) (S : Nat → ByteArray) (R : Nat → Value) (n : Nat) (s : ByteArray) (ra : Option Addr) (rl rc : Nat) (hs : s = S n) (hr : R n = .slice ra rl rc) (hsz : ∀ i, (S i).size ≤ maxLen) (hR : ∀ i, ∃ a l c, R i = .slice a l c) (hn : n ≤ 1048576) (w : World)
    (h : Ok w B p S R n) :
    Calls Try.prog 19 #[.pointer (some ⟨p, 0, none⟩), .string s, .slice ra rl rc] w fun e w' => e = .returned (.tuple #[]) ∧ Ok w' B p S R (n + 1) ∧ Below B w w' := by
  have HS : Hid (s = S n ∧ R n = .slice ra rl rc ∧ (∀ i, (S i).size ≤ maxLen) ∧ ∀ i, ∃ a l c, R i = .slice a l c) := ⟨hs, hr, hsz, hR⟩
  obtain ⟨ev, m, he, hm⟩ := h
  have HE : Hid (Ent w B p S R n ev m ∧ Mp w B S n m) := ⟨he, hm⟩
  clear hs hr hsz hR he hm
  go_enter Try.func19, Try.ntmps19
  go_wp2_with (go_at_call 32; refine (add_any B p S R n ev m s ra rl rc HS.out.1 HS.out.2.1 HS.out.2.2.1 HS.out.2.2.2 hn _ HE.out.1 HE.out.2).mono ?_; rintro e w' ⟨rfl, hex⟩; have HX := (show Hid _ from hex); clear hex)
  go_end0
  obtain ⟨ev', m', h1, h2, h3⟩ := HX.out
  exact ⟨rfl, ⟨ev', m', h1, h2⟩, h3⟩

set_option maxRecDepth 100000 in
set_option maxHeartbeats 400000 in
theorem find_few (B p : Nat) (S : Nat → ByteArray) (R : Nat → Value) (n : Nat) (ev : Value) (q : ByteArray) (hn : n ≤ 16) (w : World) (h : Ent w B p S R n ev none) :
    Calls Try.prog 33 #[.pointer (some ⟨p, 0, none⟩), .string q] w fun e w' => ∃ r, e = .returned (.int .i64 r) ∧ Finds S n q r ∧ w = w' := by
  have hc1 := h.cell1
  have hc2 := h.cell2
  have hnm := fun w => run_neq_map_nil (P := Try.prog) w 50 9 3 none Try.underlying50
  rcases h.own.2 with ⟨h1, h2⟩ | ⟨g, cap, cur, h1, _⟩
  · subst h1
    have HN : Hid (n = 0) := h2
    clear h2
    go_enter Try.func33, Try.ntmps33
    go_wp2
    go_loop [29] (fun i => i = .int .i64 0) (fun i => 0)
    case atStart => exact rfl
    case round =>
      subst hrel
      go_wp2
      go_ret
      have := HN.out
      exact ⟨_, rfl, ⟨fun _ => .inl ⟨rfl, fun j hj => by omega⟩, fun h => absurd h (by omega)⟩, rfl⟩
  · subst h1
    have hl : ∀ j, j < n → w.cell? ⟨g, j * 3, none⟩ = some (.string (S j)) := fun j hj => (h.own.cellAt (j * 3) (by omega)).trans (cellsOf_at S R n j hj).1
    have HL := (show Hid _ from hl)
    clear h hl
    go_enter Try.func33, Try.ntmps33
    go_wp2
    go_loop [29] (fun i => ∃ k : Nat, i = .int .i64 k ∧ k ≤ n ∧ ∀ j, j < k → S j ≠ q) (fun i => n - (intOf i).toNat)
    case atStart => exact ⟨0, rfl, by omega, fun j hj => by omega⟩
    case round =>
      obtain ⟨k, rfl, hk, hno⟩ := hrel
      have HN : Hid (∀ j, j < k → S j ≠ q) := hno
      clear hno
      by_cases hlt : k < n
      · have hc := HL.out k hlt
        by_cases hq : S k = q
        · have hb := beq_of_eq hq
          have HQ : Hid (S k = q) := hq
          clear hq
          go_wp2
          go_ret
          exact ⟨_, rfl, ⟨fun _ => .inr ⟨k, rfl, hlt, HQ.out, HN.out⟩, fun h => absurd h (by omega)⟩, rfl⟩
        · have hb := beq_of_ne hq
          have HQ : Hid (S k ≠ q) := hq
          clear hq
          go_wp2
          go_round
          case rel => exact ⟨k + 1, by go_num, by omega, fun j hj => by
            rcases Nat.lt_or_ge j k with h | h
            · exact HN.out j h
            · have : j = k := by omega
              subst this
              exact HQ.out⟩
          case measure => simp [intOf]; omega
      · go_wp2
        go_ret
        exact ⟨_, rfl, ⟨fun _ => .inl ⟨rfl, fun j hj => HN.out j (by omega)⟩, fun h => absurd h (by omega)⟩, rfl⟩

set_option maxRecDepth 100000 in
set_option maxHeartbeats 400000 in
theorem find_many (B p : Nat) (S : Nat → ByteArray) (R : Nat → Value) (n mb : Nat) (ev : Value) (q : ByteArray) (hq : q.size ≤ maxLen) (hn : 16 < n) (w : World) (h : Ent w B p S R n ev (some mb)) (D : DataW Unit) (hown : w.ownsMap Try.prog 9 (plainElem Try.prog 3) mb n D) (hr : Reads D S n) :
    Calls Try.prog 33 #[.pointer (some ⟨p, 0, none⟩), .string q] w fun e w' => ∃ r, e = .returned (.int .i64 r) ∧ Finds S n q r ∧ w = w' := by
  have hc1 := h.cell1
  have hc2 := h.cell2
  have hnm := fun w => run_neq_map_nil (P := Try.prog) w 50 9 3 (some mb) Try.underlying50
  have hkey := Go.WideMaps.keyOf_string_mk (P := Try.prog) Try.underlying9 hq
  have HR : Hid (Reads D S n) := hr
  clear h hr
  cases hh : Maps.has D (.string q.data.toList)
  · go_enter Try.func33, Try.ntmps33
    go_wp2_with (at_lookup; refine wpList_lookup_own_ok_int _ rfl _ _ 50 rfl 9 3 .i64 law9 Try.underlying50 Try.underlying3 (zero3 _) mb n D rfl hown _ _ rfl hkey ?_; intro c hat hwc; rw [hh])
    go_ret
    exact ⟨_, rfl, ⟨fun h => absurd h (by omega), fun _ => reads_no HR.out hh⟩, rfl⟩
  · go_enter Try.func33, Try.ntmps33
    go_wp2_with (at_lookup; refine wpList_lookup_own_ok_int _ rfl _ _ 50 rfl 9 3 .i64 law9 Try.underlying50 Try.underlying3 (zero3 _) mb n D rfl hown _ _ rfl hkey ?_; intro c hat hwc; rw [hh]; have HA := (show Hid _ from hat); clear hat)
    go_ret
    exact ⟨_, rfl, ⟨fun h => absurd h (by omega), fun _ => reads_yes HR.out hh HA.out⟩, rfl⟩

theorem find_any (B p : Nat) (S : Nat → ByteArray) (R : Nat → Value) (n : Nat) (q : ByteArray) (hq : q.size ≤ maxLen) (w : World) (h : Ok w B p S R n) :
    Calls Try.prog 33 #[.pointer (some ⟨p, 0, none⟩), .string q] w fun e w' => ∃ r, e = .returned (.int .i64 r) ∧ Finds S n q r ∧ w = w' := by
  obtain ⟨ev, m, he, hm⟩ := h
  rcases hm with ⟨h1, rfl⟩ | ⟨h1, mb, rfl, h2, D, h3, h4⟩
  · exact find_few B p S R n ev q h1 w he
  · exact find_many B p S R n mb ev q hq h1 w he D h3 h4

set_option maxHeartbeats 400000 in
theorem zzFind_any (B p : Nat) (S : Nat → ByteArray) (R : Nat → Value) (n : Nat) (q : ByteArray) (hq : q.size ≤ maxLen) (w : World) (h : Ok w B p S R n) :
    Calls Try.prog 20 #[.pointer (some ⟨p, 0, none⟩), .string q] w fun e w' => ∃ r, e = .returned (.int .i64 r) ∧ Finds S n q r ∧ w = w' := by
  have HO : Hid (Ok w B p S R n) := h
  clear h
  go_enter Try.func20, Try.ntmps20
  go_wp2_with (go_at_call 33; refine (find_any B p S R n q hq _ HO.out).mono ?_; rintro e w' ⟨r, rfl, hf, rfl⟩; have HF := (show Hid _ from hf); clear hf)
  go_ret
  exact ⟨r, rfl, HF.out, rfl⟩

set_option maxHeartbeats 400000 in
theorem zzLen_any (B p : Nat) (S : Nat → ByteArray) (R : Nat → Value) (n : Nat) (hn : n ≤ 1048576) (w : World) (h : Ok w B p S R n) :
    Calls Try.prog 24 #[.pointer (some ⟨p, 0, none⟩)] w fun e w' => e = .returned (.int .i64 n) ∧ w = w' := by
  obtain ⟨ev, m, he, hm⟩ := h
  have hc1 := he.cell1
  rcases he.own.2 with ⟨h1, h2⟩ | ⟨g, cap, cur, h1, _⟩
  · subst h1
    subst h2
    clear he hm
    go_enter Try.func24, Try.ntmps24
    go_wp2
    go_ret
    exact ⟨rfl, rfl⟩
  · subst h1
    clear he hm
    go_enter Try.func24, Try.ntmps24
    go_wp2
    go_ret
    exact ⟨rfl, rfl⟩

set_option maxHeartbeats 400000 in
theorem zzKeyAt_any (B p : Nat) (S : Nat → ByteArray) (R : Nat → Value) (n k : Nat) (hk : k < n) (hn : n ≤ 1048576) (w : World) (h : Ok w B p S R n) :
    Calls Try.prog 25 #[.pointer (some ⟨p, 0, none⟩), .int .i64 k] w fun e w' => e = .returned (.string (S k)) ∧ w = w' := by
  obtain ⟨ev, m, he, hm⟩ := h
  have hc1 := he.cell1
  rcases he.own.2 with ⟨h1, h2⟩ | ⟨g, cap, cur, h1, _⟩
  · omega
  · subst h1
    have hc : w.cell? ⟨g, k * 3, none⟩ = some (.string (S k)) := (he.own.cellAt (k * 3) (by omega)).trans (cellsOf_at S R n k hk).1
    clear he hm
    go_enter Try.func25, Try.ntmps25
    go_wp2
    go_ret
    exact ⟨rfl, rfl⟩

set_option maxHeartbeats 400000 in
theorem zzRawAt_any (B p : Nat) (S : Nat → ByteArray) (R : Nat → Value) (n k : Nat) (hk : k < n) (hn : n ≤ 1048576) (ra : Option Addr) (rl rc : Nat) (hr : R k = .slice ra rl rc) (w : World) (h : Ok w B p S R n) :
    Calls Try.prog 27 #[.pointer (some ⟨p, 0, none⟩), .int .i64 k] w fun e w' => e = .returned (.slice ra rl rc) ∧ w = w' := by
  obtain ⟨ev, m, he, hm⟩ := h
  have hc1 := he.cell1
  rcases he.own.2 with ⟨h1, h2⟩ | ⟨g, cap, cur, h1, _⟩
  · omega
  · subst h1
    have hc : w.cell? ⟨g, k * 3 + 1, none⟩ = some (R k) := (he.own.cellAt (k * 3 + 1) (by omega)).trans (cellsOf_at S R n k hk).2.1
    rw [hr] at hc
    clear he hm hr
    go_enter Try.func27, Try.ntmps27
    go_wp2
    go_ret
    exact ⟨rfl, rfl⟩

end Go.Proofs.Qxb6600807a.Parts
