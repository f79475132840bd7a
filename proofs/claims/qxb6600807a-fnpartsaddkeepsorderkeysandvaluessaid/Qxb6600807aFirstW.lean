/-
  THE LAW FnPartsFindFirstWhileFewLastWhenMany: its walk.
-/
import Derived.Test.Qxb6600807aPartsC
import Derived.Test.Qxb6600807aStrs
namespace Go.Proofs.Qxb6600807a.FirstLaw
open Go.RowKit Go.Maps
open Find Strs Parts
set_option linter.unusedVariables false

/-- A slice of strings that holds something: where its cells lie. -/
theorem in_some {w : World} {a : Option Addr} {n cap : Nat} {S : Nat → ByteArray} (h : In w a n cap S) (hn : 0 < n) : ∃ b off, a = some ⟨b, off, none⟩ ∧ ∀ j, j < n → w.cell? ⟨b, off + j, none⟩ = some (.string (S j)) := by
  rcases h with ⟨_, h, _⟩ | ⟨x, rfl, h⟩
  · omega
  · obtain ⟨b, off, rfl, _⟩ := addr_plain (h 0 hn)
    exact ⟨b, off, rfl, fun j hj => by have := h j hj; rw [Addr.add_lit] at this; exact this⟩
theorem cl_some {w : World} {a : Option Addr} {n : Nat} {S : Nat → ByteArray} (h : Cl w a n S) (hn : 0 < n) : ∃ b, a = some ⟨b, 0, none⟩ ∧ b < w.heap.size ∧ ∀ j, j < n → w.cell? ⟨b, j, none⟩ = some (.string (S j)) := by
  rcases h with ⟨_, h⟩ | h
  · omega
  · exact h

/-- It answers some bool, and the world is as it was. -/
def AnyBool (e : Ending) (w w' : World) : Prop := ∃ t, e = .returned (.bool t) ∧ w = w'
theorem anyBool {e : Ending} {w w' : World} {t : Bool} (h : e = .returned (.bool t)) (h' : w = w') : AnyBool e w w' := ⟨t, h, h'⟩

set_option maxRecDepth 100000 in
set_option maxHeartbeats 800000 in
theorem bytes_any (a : Option Addr) (n cap : Nat) (S : Nat → ByteArray) (q : ByteArray) (hn : n ≤ maxLen) (hq : q.size ≤ maxLen) (hS : ∀ i, (S i).size ≤ maxLen) (w : World) (h : In w a n cap S) :
    Calls Try.prog 16 #[.slice a n cap, .string q] w fun e w' => AnyBool e w w' := by
  unfold maxLen at hn hq
  by_cases hbig : n ≤ 1048576
  · go_enter Try.func16, Try.ntmps16
    go_wp2
    go_loop [5, 6] (fun z i => ∃ k m : Nat, i = .int .i64 k ∧ k ≤ n ∧ z = .int .i64 m ∧ m ≤ 1048576) (fun _ i => n - (intOf i).toNat)
    case atStart => exact ⟨0, n, rfl, by omega, rfl, by omega⟩
    case round =>
      obtain ⟨k, m, rfl, hk, rfl, hm⟩ := hrel
      by_cases hlt : k < n
      · obtain ⟨b, off, rfl, hl⟩ := in_some h (by omega)
        have hc := hl k hlt
        have hs := hS k
        unfold maxLen at hs
        clear hl h hS
        by_cases h1 : (S k).size ≤ 1048576
        · by_cases h2 : m + (S k).size ≤ 1048576
          · go_wp2
            go_round
            case rel => exact ⟨k + 1, m + (S k).size, by go_num, by omega, by go_num, h2⟩
            case measure => simp [intOf]; omega
          · go_wp2
            go_ret
            exact anyBool rfl rfl
        · go_wp2
          go_ret
          exact anyBool rfl rfl
      · clear h hS
        by_cases h1 : q.size ≤ 1048576
        · by_cases h2 : m + q.size ≤ 1048576
          · go_wp2
            go_ret
            exact anyBool rfl rfl
          · go_wp2
            go_ret
            exact anyBool rfl rfl
        · go_wp2
          go_ret
          exact anyBool rfl rfl
  · go_enter Try.func16, Try.ntmps16
    go_wp2
    go_ret
    exact anyBool rfl rfl

/-- The raws of this law: all nil. -/
def R0 : Nat → Value := fun _ => .slice none 0 0

set_option maxRecDepth 100000 in
set_option maxHeartbeats 1600000 in
theorem walk (a : Option Addr) (n cap : Nat) (S : Nat → ByteArray) (q : ByteArray) (hn : n ≤ maxLen) (hq : q.size ≤ maxLen) (hS : ∀ i, (S i).size ≤ maxLen) (w : World) (h : In w a n cap S) :
    Calls Try.prog 6 #[.slice a n cap, .string q] w fun e w' => e = .returned (.bool true) ∧ Below w.heap.size w w' := by
  have HS : Hid (∀ i, (S i).size ≤ maxLen) := hS
  have HQ : Hid (n ≤ maxLen ∧ q.size ≤ maxLen) := ⟨hn, hq⟩
  have HI : Hid (In w a n cap S) := h
  unfold maxLen at hn hq
  clear hS h
  go_enter Try.func6, Try.ntmps6
  go_wp2_with fail
  refine (bytes_any a n cap S q HQ.out.1 HQ.out.2 HS.out _ HI.out).mono ?_
  rintro e w' ⟨t, rfl, rfl⟩
  cases t
  · go_wp2
    go_ret
    exact ⟨rfl, Below.refl _ _⟩
  · by_cases hn4 : n ≤ 4096
    · by_cases hq20 : q.size ≤ 1048576
      · go_wp2_with fail
        go_loop [5, 6] (fun z i => ∃ k m : Nat, i = .int .i64 k ∧ k ≤ n ∧ z = .int .i64 m ∧ m ≤ 1114112) (fun _ i => n - (intOf i).toNat)
        case atStart => exact ⟨0, q.size + 16 * n, rfl, by omega, by go_num, by omega⟩
        case round =>
          obtain ⟨k, m, rfl, hk, rfl, hm⟩ := hrel
          by_cases hlt : k < n
          · obtain ⟨b, off, rfl, hl⟩ := in_some HI.out (by omega)
            have hc := hl k hlt
            have hs := HS.out k
            unfold maxLen at hs
            clear hl
            by_cases h1 : (S k).size ≤ 1048576
            · by_cases h2 : m + (S k).size ≤ 1048576
              · go_wp2
                go_round
                case rel => exact ⟨k + 1, m + (S k).size, by go_num, by omega, by go_num, by omega⟩
                case measure => simp [intOf]; omega
              · go_wp2
                go_ret
                exact ⟨rfl, Below.refl _ _⟩
            · go_wp2
              go_ret
              exact ⟨rfl, Below.refl _ _⟩
          · by_cases h1 : m ≤ 1048576
            · go_wp2_with fail
              refine (clone_cl a n cap S (by omega) _ HI.out).mono ?_
              rintro e wa ⟨a2, rfl, hcl, hbel⟩
              have HC : Hid (Cl wa a2 n S ∧ Below w.heap.size w wa) := ⟨hcl, hbel⟩
              clear hcl hbel
              go_wp2_with fail
              refine (newParts_any S R0 _).mono ?_
              rintro e wb ⟨rfl, hok, hb2⟩
              have HO : Hid (Ok wb wa.heap.size wa.heap.size S R0 0 ∧ Below wa.heap.size wa wb) := ⟨hok, hb2⟩
              clear hok hb2
              go_wp2_with fail
              go_loopw [8] (fun i wr => ∃ k : Nat, i = .int .i64 k ∧ k ≤ n ∧ Ok wr wa.heap.size wa.heap.size S R0 k ∧ Below wa.heap.size wa wr) (fun i _ => n - (intOf i).toNat)
              case atStart => exact ⟨0, rfl, by omega, HO.out.1, HO.out.2⟩
              case round =>
                obtain ⟨k2, rfl, hk2, hok, hb2⟩ := hrel
                clear HO
                have HO : Hid (Ok wr wa.heap.size wa.heap.size S R0 k2 ∧ Below wa.heap.size wa wr) := ⟨hok, hb2⟩
                clear hok hb2
                by_cases hlt2 : k2 < n
                · obtain ⟨b, rfl, hb, hl⟩ := cl_some HC.out.1 (by omega)
                  have hc : wr.cell? ⟨b, k2, none⟩ = some (.string (S k2)) := (HO.out.2.cell (by exact hb)).trans (hl k2 hlt2)
                  clear hl
                  go_wp2_with (go_at_call 19; refine (zzAdd_any _ _ S R0 k2 (S k2) none 0 0 rfl rfl HS.out (fun i => ⟨_, _, _, rfl⟩) (by omega) _ HO.out.1).mono ?_; rintro e w5 ⟨rfl, hok5, hb5⟩; have HO5 := (show Hid _ from And.intro hok5 hb5); clear hok5 hb5)
                  go_roundw
                  case rel => exact ⟨k2 + 1, by go_num, by omega, HO5.out.1, HO.out.2.trans HO5.out.2⟩
                  case measure => simp [intOf]; omega
                · have HN : Hid (k2 = n) := by simp [Hid]; omega
                  go_wp2_with fail
                  go_loop [9] (fun i => ∃ k : Nat, i = .int .i64 k ∧ k ≤ n + 1) (fun i => n + 1 - (intOf i).toNat)
                  case atStart => exact ⟨0, rfl, by omega⟩
                  case round =>
                    obtain ⟨k3, rfl, hk3⟩ := hrel
                    have hO : Ok wr wa.heap.size wa.heap.size S R0 n := by have := HO.out.1; rw [HN.out] at this; exact this
                    have HO3 : Hid (Ok wr wa.heap.size wa.heap.size S R0 n) := hO
                    have HC3 : Hid (Cl wr a2 n S) := HC.out.1.later (Nat.le_refl _) HO.out.2
                    clear hO
                    by_cases hlt3 : k3 < n
                    · obtain ⟨b, rfl, hb, hl⟩ := cl_some HC3.out (by omega)
                      have hc := hl k3 hlt3
                      clear hl
                      go_wp2_with fail
                      refine (zzFind_any _ _ S R0 n (S k3) (HS.out k3) _ HO3.out).mono ?_
                      rintro e w5 ⟨r, rfl, hf, rfl⟩
                      have HF : Hid (Finds S n (S k3) r) := hf
                      clear hf
                      go_wp2_with fail
                      refine (modelFind_cl _ n n S (S k3) hn4 _ HC3.out).mono ?_
                      rintro e w6 ⟨r2, rfl, hf, rfl⟩
                      obtain rfl := finds_one HF.out hf
                      clear hf
                      have e0 : (r != r) = false := by simp
                      go_wp2_with fail
                      go_round
                      case rel => exact ⟨k3 + 1, by go_num, by omega⟩
                      case measure => simp [intOf]; omega
                    · by_cases hle3 : k3 ≤ n
                      · go_wp2_with fail
                        refine (zzFind_any _ _ S R0 n q HQ.out.2 _ HO3.out).mono ?_
                        rintro e w5 ⟨r, rfl, hf, rfl⟩
                        have HF : Hid (Finds S n q r) := hf
                        clear hf
                        go_wp2_with fail
                        refine (modelFind_cl _ n n S q hn4 _ HC3.out).mono ?_
                        rintro e w6 ⟨r2, rfl, hf, rfl⟩
                        obtain rfl := finds_one HF.out hf
                        clear hf
                        have e0 : (r != r) = false := by simp
                        go_wp2_with fail
                        go_round
                        case rel => exact ⟨k3 + 1, by go_num, by omega⟩
                        case measure => simp [intOf]; omega
                      · go_wp2
                        go_ret
                        exact ⟨rfl, HC.out.2.trans (HO.out.2.mono HC.out.2.size)⟩
            · go_wp2
              go_ret
              exact ⟨rfl, Below.refl _ _⟩
      · go_wp2_with fail
        go_ret
        exact ⟨rfl, Below.refl _ _⟩
    · go_wp2_with fail
      go_ret
      exact ⟨rfl, Below.refl _ _⟩

end Go.Proofs.Qxb6600807a.FirstLaw
