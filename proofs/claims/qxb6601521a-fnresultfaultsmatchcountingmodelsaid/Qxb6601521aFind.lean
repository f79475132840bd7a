/-
  THE WALKS of 'unanswered', of the closure in 'resultFaults', and of slices.IndexFunc and ContainsFunc at it (history.go, slices.go).
-/
import Derived.Test.Qxb6601521aToMsgs
namespace Go.Proofs.Qxb6601521a
open Go.RowKit
set_option linter.unusedVariables false

theorem beq_yes {a b : ByteArray} (h : (a.toList == b.toList) = true) : a = b := by
  have h' : a.toList = b.toList := by simpa using h
  rw [ByteArray.toList_eq, ByteArray.toList_eq] at h'
  exact WideShapes.bytes_inj h'
theorem beq_no {a b : ByteArray} (h : (a.toList == b.toList) = false) : a ≠ b := by
  intro e
  subst e
  simp at h
theorem beq_of_eq {a b : ByteArray} (h : a = b) : (a.toList == b.toList) = true := by subst h; simp
theorem beq_of_ne {a b : ByteArray} (h : a ≠ b) : (a.toList == b.toList) = false := by
  cases e : (a.toList == b.toList)
  · rfl
  · exact absurd (beq_yes e) h

/-- The first call of that id that is not yet answered; -1 where there is none. -/
def Unans (c : Nat) (s : Nat → Nat → ByteArray) (ans : Nat → Bool) (id : ByteArray) (r : Int) : Prop :=
  (r = -1 ∧ ∀ j, j < c → s j 0 = id → ans j = true) ∨ ∃ j : Nat, r = (j : Int) ∧ j < c ∧ s j 0 = id ∧ ans j = false ∧ ∀ j', j' < j → s j' 0 = id → ans j' = true
def UnPost (e : Ending) (w w' : World) (c : Nat) (s : Nat → Nat → ByteArray) (ans : Nat → Bool) (id : ByteArray) : Prop :=
  ∃ r : Int, e = .returned (.int .i64 r) ∧ Unans c s ans id r ∧ Below w.heap.size w w'

theorem scl_some {w : World} {lo size : Nat} {a : Option Addr} {n : Nat} {s : Nat → Nat → ByteArray} (h : SCl w lo size a n s) (hn : 0 < n) : ∃ b, a = some ⟨b, 0, none⟩ ∧ b < w.heap.size ∧ ∀ j, j < n → ∀ f, f < size → w.cell? ⟨b, j * size + f, none⟩ = some (.string (s j f)) := by
  rcases h with ⟨_, rfl⟩ | ⟨b, rfl, _, h2, h⟩
  · omega
  · exact ⟨b, rfl, h2, h⟩

set_option maxRecDepth 100000 in
set_option maxHeartbeats 4000000 in
theorem unans_any (A : Option Addr) (c lo ab : Nat) (s : Nat → Nat → ByteArray) (ans : Nat → Bool) (id : ByteArray) (hc : c ≤ 1048576) (w : World) (hA : SCl w lo 4 A c s) (hr : w.rowIs ab 4 c (fun j => .bool (ans j))) :
    Calls Try.prog 36 #[.slice A c c, .slice (some ⟨ab, 0, none⟩) c c, .string id] w fun e w' => UnPost e w w' c s ans id := by
  have HA : Hid (SCl w lo 4 A c s ∧ w.rowIs ab 4 c (fun j => .bool (ans j))) := ⟨hA, hr⟩
  clear hA hr
  go_enter Try.func36, Try.ntmps36
  go_wp2
  go_loopg [11] c (fun g i wr => ∃ k : Nat, g = c - k ∧ k ≤ c ∧ i = .int .i64 k ∧ Below w.heap.size w wr ∧ ∀ j, j < k → s j 0 = id → ans j = true)
  case atStart => exact ⟨0, by omega, by omega, rfl, Below.refl _ _, fun j hj => by omega⟩
  case round =>
    obtain ⟨k, hg, hk, rfl, hbel, hno⟩ := hrel
    have HG : Hid (gk = c - k) := hg
    have HB : Hid (Below w.heap.size w wr ∧ ∀ j, j < k → s j 0 = id → ans j = true) := ⟨hbel, hno⟩
    clear hg hbel hno
    by_cases hlt : k < c
    · obtain ⟨b, rfl, hb, hl⟩ := scl_some HA.out.1 (by omega)
      have g0 : wr.cell? ⟨b, k * 4, none⟩ = some (.string (s k 0)) := (HB.out.1.cell (by exact hb)).trans (hl k hlt 0 (by omega))
      have g1 : wr.cell? ⟨b, k * 4 + 1, none⟩ = some (.string (s k 1)) := (HB.out.1.cell (by exact hb)).trans (hl k hlt 1 (by omega))
      have g2 : wr.cell? ⟨b, k * 4 + 2, none⟩ = some (.string (s k 2)) := (HB.out.1.cell (by exact hb)).trans (hl k hlt 2 (by omega))
      have g3 : wr.cell? ⟨b, k * 4 + 3, none⟩ = some (.string (s k 3)) := (HB.out.1.cell (by exact hb)).trans (hl k hlt 3 (by omega))
      have ga : wr.cell? ⟨ab, k, none⟩ = some (.bool (ans k)) := (HB.out.1.cell (by exact HA.out.2.lt)).trans (HA.out.2.cell hlt)
      have hab : ab < wr.heap.size := Nat.lt_of_lt_of_le HA.out.2.lt HB.out.1.size
      have hbw : b < wr.heap.size := Nat.lt_of_lt_of_le hb HB.out.1.size
      clear hl
      have HB2 : ∀ o, Below w.heap.size w (wr.alloc o) := fun o => HB.out.1.alloc HB.out.1.size o
      have HB3 : Hid (∀ o, Below w.heap.size w (wr.alloc o)) := HB2
      clear HB2
      by_cases hq : s k 0 = id
      · have hbq := beq_of_eq hq
        have HQ : Hid (s k 0 = id) := hq
        clear hq
        by_cases ha : ans k = true
        · have HAN : Hid (ans k = true) := ha
          rw [ha] at ga
          clear ha
          go_wp2
          go_roundg (c - (k + 1))
          case rel => exact ⟨k + 1, rfl, by omega, by go_num, HB3.out _, fun j hj hs => by
            rcases Nat.lt_or_ge j k with h | h
            · exact HB.out.2 j h hs
            · have : j = k := by omega
              subst this
              exact HAN.out⟩
          case measure =>
            have := HG.out
            omega
        · have han : ans k = false := by simpa using ha
          have HAN : Hid (ans k = false) := han
          rw [han] at ga
          clear ha han
          go_wp2
          go_ret
          exact ⟨k, rfl, .inr ⟨k, rfl, hlt, HQ.out, HAN.out, HB.out.2⟩, HB3.out _⟩
      · have hbq := beq_of_ne hq
        have HQ : Hid (s k 0 ≠ id) := hq
        clear hq
        go_wp2
        go_roundg (c - (k + 1))
        case rel => exact ⟨k + 1, rfl, by omega, by go_num, HB3.out _, fun j hj hs => by
          rcases Nat.lt_or_ge j k with h | h
          · exact HB.out.2 j h hs
          · have : j = k := by omega
            subst this
            exact absurd hs HQ.out⟩
        case measure =>
          have := HG.out
          omega
    · have HN : Hid (k = c) := by simp [Hid]; omega
      go_wp2
      go_ret
      exact ⟨-1, rfl, .inl ⟨rfl, fun j hj => HB.out.2 j (by have := HN.out; omega)⟩, HB.out.1⟩

set_option maxHeartbeats 1000000 in
theorem clos_any (x0 x1 x2 x3 id : ByteArray) (ib : Nat) (w : World) (h : w.cell? ⟨ib, 0, none⟩ = some (.string id)) :
    Calls Try.prog 38 #[.agg #[.string x0, .string x1, .string x2, .string x3], .pointer (some ⟨ib, 0, none⟩)] w fun e w' => e = .returned (.bool (x0.toList == id.toList)) ∧ w' = w.alloc (.cells #[.string x0, .string x1, .string x2, .string x3] 64) := by
  have hib : ib < w.heap.size := World.block_lt_of_cell? w _ h
  go_enter Try.func38, Try.ntmps38
  go_wp2
  go_ret
  exact ⟨rfl, rfl⟩

def IxPost (e : Ending) (w w' : World) (c : Nat) (s : Nat → Nat → ByteArray) (id : ByteArray) : Prop :=
  ∃ r : Int, e = .returned (.int .i64 r) ∧ ((r = -1 ∧ ∀ j, j < c → s j 0 ≠ id) ∨ (0 ≤ r ∧ ∃ j, j < c ∧ s j 0 = id)) ∧ Below w.heap.size w w'

set_option maxRecDepth 100000 in
set_option maxHeartbeats 4000000 in
theorem index_any (A : Option Addr) (c lo ib : Nat) (s : Nat → Nat → ByteArray) (id : ByteArray) (hc : c ≤ 1048576) (w : World) (hA : SCl w lo 4 A c s) (hi : w.cell? ⟨ib, 0, none⟩ = some (.string id)) :
    Calls Try.prog 39 #[.slice A c c, .func (.func 38) #[] #[.pointer (some ⟨ib, 0, none⟩)]] w fun e w' => IxPost e w w' c s id := by
  have HA : Hid (SCl w lo 4 A c s ∧ w.cell? ⟨ib, 0, none⟩ = some (.string id)) := ⟨hA, hi⟩
  clear hA hi
  go_enter Try.func39, Try.ntmps39
  go_wp2
  go_loopg [8] c (fun g i wr => ∃ k : Nat, g = c - k ∧ k ≤ c ∧ i = .int .i64 k ∧ Below w.heap.size w wr ∧ ∀ j, j < k → s j 0 ≠ id)
  case atStart => exact ⟨0, by omega, by omega, rfl, Below.refl _ _, fun j hj => by omega⟩
  case round =>
    obtain ⟨k, hg, hk, rfl, hbel, hno⟩ := hrel
    have HG : Hid (gk = c - k) := hg
    have HB : Hid (Below w.heap.size w wr ∧ ∀ j, j < k → s j 0 ≠ id) := ⟨hbel, hno⟩
    clear hg hbel hno
    by_cases hlt : k < c
    · obtain ⟨b, rfl, hb, hl⟩ := scl_some HA.out.1 (by omega)
      have g0 : wr.cell? ⟨b, k * 4, none⟩ = some (.string (s k 0)) := (HB.out.1.cell (by exact hb)).trans (hl k hlt 0 (by omega))
      have g1 : wr.cell? ⟨b, k * 4 + 1, none⟩ = some (.string (s k 1)) := (HB.out.1.cell (by exact hb)).trans (hl k hlt 1 (by omega))
      have g2 : wr.cell? ⟨b, k * 4 + 2, none⟩ = some (.string (s k 2)) := (HB.out.1.cell (by exact hb)).trans (hl k hlt 2 (by omega))
      have g3 : wr.cell? ⟨b, k * 4 + 3, none⟩ = some (.string (s k 3)) := (HB.out.1.cell (by exact hb)).trans (hl k hlt 3 (by omega))
      have HCI : Hid (wr.cell? ⟨ib, 0, none⟩ = some (.string id)) := (HB.out.1.cell (by exact World.block_lt_of_cell? w _ HA.out.2)).trans HA.out.2
      clear hl
      have HB3 : Hid (∀ o, Below w.heap.size w (wr.alloc o)) := fun o => HB.out.1.alloc HB.out.1.size o
      by_cases hq : s k 0 = id
      · have hbq := beq_of_eq hq
        have HQ : Hid (s k 0 = id) := hq
        clear hq
        go_wp2_with (go_at_call 38; refine (clos_any (s k 0) (s k 1) (s k 2) (s k 3) id ib wr HCI.out).mono ?_; rintro e w' ⟨rfl, rfl⟩)
        go_ret
        exact ⟨k, rfl, .inr ⟨by omega, k, hlt, HQ.out⟩, HB3.out _⟩
      · have hbq := beq_of_ne hq
        have HQ : Hid (s k 0 ≠ id) := hq
        clear hq
        go_wp2_with (go_at_call 38; refine (clos_any (s k 0) (s k 1) (s k 2) (s k 3) id ib wr HCI.out).mono ?_; rintro e w' ⟨rfl, rfl⟩)
        go_roundg (c - (k + 1))
        case rel => exact ⟨k + 1, rfl, by omega, by go_num, HB3.out _, fun j hj => by
          rcases Nat.lt_or_ge j k with h | h
          · exact HB.out.2 j h
          · have : j = k := by omega
            subst this
            exact HQ.out⟩
        case measure =>
          have := HG.out
          omega
    · have HN : Hid (k = c) := by simp [Hid]; omega
      go_wp2
      go_ret
      exact ⟨-1, rfl, .inl ⟨rfl, fun j hj => HB.out.2 j (by have := HN.out; omega)⟩, HB.out.1⟩

def CtPost (e : Ending) (w w' : World) (c : Nat) (s : Nat → Nat → ByteArray) (id : ByteArray) : Prop :=
  ∃ t : Bool, e = .returned (.bool t) ∧ ((t = false ∧ ∀ j, j < c → s j 0 ≠ id) ∨ (t = true ∧ ∃ j, j < c ∧ s j 0 = id)) ∧ Below w.heap.size w w'

set_option maxHeartbeats 1000000 in
theorem contains_any (A : Option Addr) (c lo ib : Nat) (s : Nat → Nat → ByteArray) (id : ByteArray) (hc : c ≤ 1048576) (w : World) (hA : SCl w lo 4 A c s) (hi : w.cell? ⟨ib, 0, none⟩ = some (.string id)) :
    Calls Try.prog 37 #[.slice A c c, .func (.func 38) #[] #[.pointer (some ⟨ib, 0, none⟩)]] w fun e w' => CtPost e w w' c s id := by
  have HA : Hid (SCl w lo 4 A c s ∧ w.cell? ⟨ib, 0, none⟩ = some (.string id)) := ⟨hA, hi⟩
  clear hA hi
  go_enter Try.func37, Try.ntmps37
  go_wp2_with fail
  refine (index_any A c lo ib s id hc w HA.out.1 HA.out.2).mono ?_
  rintro e w' ⟨r, rfl, hr, hb⟩
  rcases hr with ⟨rfl, hr⟩ | ⟨h0, hr⟩
  · have HR : Hid ((∀ j, j < c → s j 0 ≠ id) ∧ Below w.heap.size w w') := ⟨hr, hb⟩
    clear hr hb
    go_wp2
    go_ret
    exact ⟨false, rfl, .inl ⟨rfl, HR.out.1⟩, HR.out.2⟩
  · have HR : Hid ((∃ j, j < c ∧ s j 0 = id) ∧ Below w.heap.size w w') := ⟨hr, hb⟩
    clear hr hb
    go_wp2
    go_ret
    exact ⟨true, rfl, .inr ⟨rfl, HR.out.1⟩, HR.out.2⟩

end Go.Proofs.Qxb6601521a
