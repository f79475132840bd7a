/-
  THE LAW FnPartsFindAnswersEveryStepOfAScript: its walk.
-/
import Derived.Test.Qxb6600807aFirstW
namespace Go.Proofs.Qxb6600807a.Script
open Go.RowKit Go.Maps
open Find Strs Parts FirstLaw
set_option linter.unusedVariables false

set_option maxRecDepth 100000 in
set_option maxHeartbeats 1600000 in
theorem bytes_any (a : Option Addr) (n cap : Nat) (S : Nat → ByteArray) (a1 : Option Addr) (n1 cap1 : Nat) (T : Nat → ByteArray) (hn : n ≤ maxLen) (hn1 : n1 ≤ maxLen) (hS : ∀ i, (S i).size ≤ maxLen) (hT : ∀ i, (T i).size ≤ maxLen) (w : World) (h : In w a n cap S) (h1 : In w a1 n1 cap1 T) :
    Calls Try.prog 28 #[.slice a n cap, .slice a1 n1 cap1] w fun e w' => AnyBool e w w' := by
  unfold maxLen at hn hn1
  have HI : Hid (In w a n cap S ∧ In w a1 n1 cap1 T) := ⟨h, h1⟩
  have HS : Hid ((∀ i, (S i).size ≤ maxLen) ∧ (∀ i, (T i).size ≤ maxLen)) := ⟨hS, hT⟩
  clear h h1 hS hT
  by_cases hbig : n ≤ 1048576
  · go_enter Try.func28, Try.ntmps28
    go_wp2
    go_loop [5, 6] (fun z i => ∃ k m : Nat, i = .int .i64 k ∧ k ≤ n ∧ z = .int .i64 m ∧ m ≤ 1048576) (fun _ i => n - (intOf i).toNat)
    case atStart => exact ⟨0, n, rfl, by omega, rfl, by omega⟩
    case round =>
      obtain ⟨k, m, rfl, hk, rfl, hm⟩ := hrel
      by_cases hlt : k < n
      · obtain ⟨b, off, rfl, hl⟩ := in_some HI.out.1 (by omega)
        have hc := hl k hlt
        have hs := HS.out.1 k
        unfold maxLen at hs
        clear hl
        by_cases h1 : (S k).size ≤ 1048576
        · by_cases h2 : m + (S k).size ≤ 1048576
          · go_wp2
            go_round
            case rel => exact ⟨k + 1, m + (S k).size, by go_num, by omega, by go_num, h2⟩
            case measure => simp [intOf]; omega
          · go_wp2
            go_ret
            exact anyBool rfl rfl
        · go_wp2
          go_ret
          exact anyBool rfl rfl
      · by_cases hbig1 : n1 ≤ 1048576
        · by_cases hs1 : m + n1 ≤ 1048576
          · go_wp2
            go_loop [5, 7] (fun z i => ∃ k m : Nat, i = .int .i64 k ∧ k ≤ n1 ∧ z = .int .i64 m ∧ m ≤ 1048576) (fun _ i => n1 - (intOf i).toNat)
            case atStart => exact ⟨0, m + n1, rfl, by omega, by go_num, by omega⟩
            case round =>
              obtain ⟨k2, m2, rfl, hk2, rfl, hm2⟩ := hrel
              by_cases hlt2 : k2 < n1
              · obtain ⟨b, off, rfl, hl⟩ := in_some HI.out.2 (by omega)
                have hc := hl k2 hlt2
                have hs := HS.out.2 k2
                unfold maxLen at hs
                clear hl
                by_cases h1 : (T k2).size ≤ 1048576
                · by_cases h2 : m2 + (T k2).size ≤ 1048576
                  · go_wp2
                    go_round
                    case rel => exact ⟨k2 + 1, m2 + (T k2).size, by go_num, by omega, by go_num, h2⟩
                    case measure => simp [intOf]; omega
                  · go_wp2
                    go_ret
                    exact anyBool rfl rfl
                · go_wp2
                  go_ret
                  exact anyBool rfl rfl
              · go_wp2
                go_ret
                exact anyBool rfl rfl
          · go_wp2
            go_ret
            exact anyBool rfl rfl
        · go_wp2
          go_ret
          exact anyBool rfl rfl
  · go_enter Try.func28, Try.ntmps28
    go_wp2
    go_ret
    exact anyBool rfl rfl

set_option maxRecDepth 100000 in
set_option maxHeartbeats 3200000 in
theorem walk (a : Option Addr) (n cap : Nat) (S : Nat → ByteArray) (a1 : Option Addr) (n1 cap1 : Nat) (T : Nat → ByteArray) (hn : n ≤ maxLen) (hn1 : n1 ≤ maxLen) (hS : ∀ i, (S i).size ≤ maxLen) (hT : ∀ i, (T i).size ≤ maxLen) (w : World) (h : In w a n cap S) (h1 : In w a1 n1 cap1 T) :
    Calls Try.prog 8 #[.slice a n cap, .slice a1 n1 cap1] w fun e w' => e = .returned (.bool true) ∧ Below w.heap.size w w' := by
  have HI : Hid (In w a n cap S ∧ In w a1 n1 cap1 T) := ⟨h, h1⟩
  have HS : Hid ((∀ i, (S i).size ≤ maxLen) ∧ (∀ i, (T i).size ≤ maxLen)) := ⟨hS, hT⟩
  have HQ : Hid (n ≤ maxLen ∧ n1 ≤ maxLen) := ⟨hn, hn1⟩
  unfold maxLen at hn hn1
  clear h h1 hS hT
  go_enter Try.func8, Try.ntmps8
  go_wp2_with fail
  refine (bytes_any a n cap S a1 n1 cap1 T HQ.out.1 HQ.out.2 HS.out.1 HS.out.2 _ HI.out.1 HI.out.2).mono ?_
  rintro e w' ⟨t, rfl, rfl⟩
  cases t
  · go_wp2
    go_ret
    exact ⟨rfl, Below.refl _ _⟩
  · by_cases hn4 : n ≤ 4096
    · by_cases hn14 : n1 ≤ 4096
      · go_wp2_with fail
        go_loop [5, 6] (fun z i => ∃ k m : Nat, i = .int .i64 k ∧ k ≤ n ∧ z = .int .i64 m ∧ m ≤ 1179648) (fun _ i => n - (intOf i).toNat)
        case atStart => exact ⟨0, 16 * n + 16 * n1, rfl, by omega, by go_num, by omega⟩
        case round =>
          obtain ⟨k, m, rfl, hk, rfl, hm⟩ := hrel
          by_cases hlt : k < n
          · obtain ⟨b, off, rfl, hl⟩ := in_some HI.out.1 (by omega)
            have hc := hl k hlt
            have hs := HS.out.1 k
            unfold maxLen at hs
            clear hl
            by_cases h1 : (S k).size ≤ 1048576
            · by_cases h2 : m + (S k).size ≤ 1048576
              · go_wp2
                go_round
                case rel => exact ⟨k + 1, m + (S k).size, by go_num, by omega, by go_num, by omega⟩
                case measure => simp [intOf]; omega
              · go_wp2
                go_ret
                exact ⟨rfl, Below.refl _ _⟩
            · go_wp2
              go_ret
              exact ⟨rfl, Below.refl _ _⟩
          · go_wp2_with fail
            go_loop [5, 7] (fun z i => ∃ k m : Nat, i = .int .i64 k ∧ k ≤ n1 ∧ z = .int .i64 m ∧ m ≤ 1179648) (fun _ i => n1 - (intOf i).toNat)
            case atStart => exact ⟨0, m, rfl, by omega, rfl, by omega⟩
            case round =>
              obtain ⟨k2, m2, rfl, hk2, rfl, hm2⟩ := hrel
              by_cases hlt2 : k2 < n1
              · obtain ⟨b, off, rfl, hl⟩ := in_some HI.out.2 (by omega)
                have hc := hl k2 hlt2
                have hs := HS.out.2 k2
                unfold maxLen at hs
                clear hl
                by_cases h1 : (T k2).size ≤ 1048576
                · by_cases h2 : m2 + (T k2).size ≤ 1048576
                  · go_wp2
                    go_round
                    case rel => exact ⟨k2 + 1, m2 + (T k2).size, by go_num, by omega, by go_num, by omega⟩
                    case measure => simp [intOf]; omega
                  · go_wp2
                    go_ret
                    exact ⟨rfl, Below.refl _ _⟩
                · go_wp2
                  go_ret
                  exact ⟨rfl, Below.refl _ _⟩
              · by_cases h1 : m2 ≤ 1048576
                · go_wp2_with fail
                  refine (clone_cl a n cap S (by omega) _ HI.out.1).mono ?_
                  rintro e wa ⟨a2, rfl, hcl, hbel⟩
                  have HC : Hid (Cl wa a2 n S ∧ Below w.heap.size w wa) := ⟨hcl, hbel⟩
                  clear hcl hbel
                  go_wp2_with fail
                  refine (clone_cl a1 n1 cap1 T (by omega) _ (HI.out.2.later HC.out.2)).mono ?_
                  rintro e wb ⟨a3, rfl, hcl, hbel⟩
                  have HC2 : Hid (Cl wb a2 n S ∧ Cl wb a3 n1 T ∧ Below w.heap.size w wb) := ⟨HC.out.1.later (Nat.le_refl _) hbel, hcl, HC.out.2.trans (hbel.mono HC.out.2.size)⟩
                  clear hcl hbel HC
                  go_wp2_with fail
                  refine (newParts_any S R0 _).mono ?_
                  rintro e wd ⟨rfl, hok, hb2⟩
                  have HO : Hid (Ok wd wb.heap.size wb.heap.size S R0 0 ∧ Below wb.heap.size wb wd) := ⟨hok, hb2⟩
                  clear hok hb2
                  go_wp2_with fail
                  go_loopw [9] (fun i wr => ∃ k : Nat, i = .int .i64 k ∧ k ≤ n ∧ Ok wr wb.heap.size wb.heap.size S R0 k ∧ Below wb.heap.size wb wr) (fun i _ => n - (intOf i).toNat)
                  case atStart => exact ⟨0, rfl, by omega, HO.out.1, HO.out.2⟩
                  case round =>
                    obtain ⟨t, rfl, hk3, hok, hb2⟩ := hrel
                    clear HO
                    have HO : Hid (Ok wr wb.heap.size wb.heap.size S R0 t ∧ Below wb.heap.size wb wr) := ⟨hok, hb2⟩
                    clear hok hb2
                    by_cases hlt : t < n
                    · obtain ⟨b, rfl, hb, hl0⟩ := cl_some HC2.out.1 (by omega)
                      have hl : Hid (∀ j, j < n → wb.cell? ⟨b, j, none⟩ = some (.string (S j))) := hl0
                      clear hl0
                      have hcr : wr.cell? ⟨b, t, none⟩ = some (.string (S t)) := (HO.out.2.cell (by exact hb)).trans (hl.out t hlt)
                      by_cases hq1 : t < n1
                      · obtain ⟨b1, rfl, hb1, hl10⟩ := cl_some HC2.out.2.1 (by omega)
                        have hl1 : Hid (∀ j, j < n1 → wb.cell? ⟨b1, j, none⟩ = some (.string (T j))) := hl10
                        clear hl10
                        go_wp2_with fail
                        refine (zzAdd_any _ _ S R0 t (S t) none 0 0 rfl rfl HS.out.1 (fun i => ⟨_, _, _, rfl⟩) (by omega) _ HO.out.1).mono ?_
                        rintro e w5 ⟨rfl, hok5, hb5⟩
                        have HO5 : Hid (Ok w5 wb.heap.size wb.heap.size S R0 (t + 1) ∧ Below wb.heap.size wb w5) := ⟨hok5, HO.out.2.trans hb5⟩
                        clear hok5 hb5
                        have HL : Hid (∀ j, j < n → w5.cell? ⟨b, j, none⟩ = some (.string (S j))) := fun j hj => (HO5.out.2.cell (by exact hb)).trans (hl.out j hj)
                        have hct := HL.out t hlt
                        have hcq : w5.cell? ⟨b1, t, none⟩ = some (.string (T t)) := (HO5.out.2.cell (by exact hb1)).trans (hl1.out t hq1)
                        go_wp2_with fail
                        refine (zzFind_any _ _ S R0 (t + 1) (T t) (HS.out.2 t) _ HO5.out.1).mono ?_
                        rintro e w6 ⟨r, rfl, hf, rfl⟩
                        rcases finds_some hf with ⟨hr, hno⟩ | ⟨i, hr, hi, hSi⟩
                        · subst hr
                          have HNO : Hid (∀ j, j < t + 1 → S j ≠ (T t)) := hno
                          clear hf hno
                          go_wp2_with fail
                          go_loop [12, 13] (fun pr jj => ∃ k : Nat, pr = .bool false ∧ jj = .int .i64 k ∧ k ≤ t + 1) (fun _ jj => t + 1 - (intOf jj).toNat)
                          case atStart => exact ⟨0, rfl, rfl, by omega⟩
                          case round =>
                            obtain ⟨k, rfl, rfl, hk⟩ := hrel
                            by_cases hlk : k < t + 1
                            · have hc := HL.out k (by omega)
                              have hbq := beq_of_ne (HNO.out k hlk)
                              go_wp2
                              go_round
                              case rel => exact ⟨k + 1, rfl, by go_num, by omega⟩
                              case measure => simp [intOf]; omega
                            · go_wp2
                              go_roundw
                              case rel => exact ⟨t + 1, by go_num, by omega, HO5.out.1, HO5.out.2⟩
                              case measure => simp [intOf]; omega
                        · subst hr
                          have HSI : Hid (S i = (T t)) := hSi
                          clear hf hSi
                          have hbi := beq_of_eq HSI.out
                          go_wp2_with fail
                          go_loop [12, 13] (fun pr jj => ∃ k : Nat, pr = .bool false ∧ jj = .int .i64 k ∧ k ≤ i) (fun _ jj => t + 1 - (intOf jj).toNat)
                          case atStart => exact ⟨0, rfl, rfl, by omega⟩
                          case round =>
                            obtain ⟨k, rfl, rfl, hk⟩ := hrel
                            have hc := HL.out k (by omega)
                            by_cases hkq : S k = (T t)
                            · have hbq := beq_of_eq hkq
                              have HKQ : Hid (S k = (T t)) := hkq
                              clear hkq
                              go_wp2_with (go_at_call 25; refine (zzKeyAt_any _ _ S R0 (t + 1) i hi (by omega) _ HO5.out.1).mono ?_; rintro e w7 ⟨rfl, rfl⟩)
                              go_roundw
                              case rel => exact ⟨t + 1, by go_num, by omega, HO5.out.1, HO5.out.2⟩
                              case measure => simp [intOf]; omega
                            · have hbq := beq_of_ne hkq
                              have hki : k ≠ i := fun e => hkq (by rw [e]; exact HSI.out)
                              have hki' : k < i := by omega
                              clear hkq hki
                              go_wp2
                              go_round
                              case rel => exact ⟨k + 1, rfl, by go_num, by omega⟩
                              case measure => simp [intOf]; omega
                      · skip
                        go_wp2_with fail
                        refine (zzAdd_any _ _ S R0 t (S t) none 0 0 rfl rfl HS.out.1 (fun i => ⟨_, _, _, rfl⟩) (by omega) _ HO.out.1).mono ?_
                        rintro e w5 ⟨rfl, hok5, hb5⟩
                        have HO5 : Hid (Ok w5 wb.heap.size wb.heap.size S R0 (t + 1) ∧ Below wb.heap.size wb w5) := ⟨hok5, HO.out.2.trans hb5⟩
                        clear hok5 hb5
                        have HL : Hid (∀ j, j < n → w5.cell? ⟨b, j, none⟩ = some (.string (S j))) := fun j hj => (HO5.out.2.cell (by exact hb)).trans (hl.out j hj)
                        have hct := HL.out t hlt
                        go_wp2_with fail
                        refine (zzFind_any _ _ S R0 (t + 1) (S t) (HS.out.1 t) _ HO5.out.1).mono ?_
                        rintro e w6 ⟨r, rfl, hf, rfl⟩
                        rcases finds_some hf with ⟨hr, hno⟩ | ⟨i, hr, hi, hSi⟩
                        · subst hr
                          have HNO : Hid (∀ j, j < t + 1 → S j ≠ (S t)) := hno
                          clear hf hno
                          go_wp2_with fail
                          go_loop [12, 13] (fun pr jj => ∃ k : Nat, pr = .bool false ∧ jj = .int .i64 k ∧ k ≤ t + 1) (fun _ jj => t + 1 - (intOf jj).toNat)
                          case atStart => exact ⟨0, rfl, rfl, by omega⟩
                          case round =>
                            obtain ⟨k, rfl, rfl, hk⟩ := hrel
                            by_cases hlk : k < t + 1
                            · have hc := HL.out k (by omega)
                              have hbq := beq_of_ne (HNO.out k hlk)
                              go_wp2
                              go_round
                              case rel => exact ⟨k + 1, rfl, by go_num, by omega⟩
                              case measure => simp [intOf]; omega
                            · go_wp2
                              go_roundw
                              case rel => exact ⟨t + 1, by go_num, by omega, HO5.out.1, HO5.out.2⟩
                              case measure => simp [intOf]; omega
                        · subst hr
                          have HSI : Hid (S i = (S t)) := hSi
                          clear hf hSi
                          have hbi := beq_of_eq HSI.out
                          go_wp2_with fail
                          go_loop [12, 13] (fun pr jj => ∃ k : Nat, pr = .bool false ∧ jj = .int .i64 k ∧ k ≤ i) (fun _ jj => t + 1 - (intOf jj).toNat)
                          case atStart => exact ⟨0, rfl, rfl, by omega⟩
                          case round =>
                            obtain ⟨k, rfl, rfl, hk⟩ := hrel
                            have hc := HL.out k (by omega)
                            by_cases hkq : S k = (S t)
                            · have hbq := beq_of_eq hkq
                              have HKQ : Hid (S k = (S t)) := hkq
                              clear hkq
                              go_wp2_with (go_at_call 25; refine (zzKeyAt_any _ _ S R0 (t + 1) i hi (by omega) _ HO5.out.1).mono ?_; rintro e w7 ⟨rfl, rfl⟩)
                              go_roundw
                              case rel => exact ⟨t + 1, by go_num, by omega, HO5.out.1, HO5.out.2⟩
                              case measure => simp [intOf]; omega
                            · have hbq := beq_of_ne hkq
                              have hki : k ≠ i := fun e => hkq (by rw [e]; exact HSI.out)
                              have hki' : k < i := by omega
                              clear hkq hki
                              go_wp2
                              go_round
                              case rel => exact ⟨k + 1, rfl, by go_num, by omega⟩
                              case measure => simp [intOf]; omega
                    · go_wp2
                      go_ret
                      exact ⟨rfl, HC2.out.2.2.trans (HO.out.2.mono HC2.out.2.2.size)⟩
                · go_wp2
                  go_ret
                  exact ⟨rfl, Below.refl _ _⟩
      · go_wp2_with fail
        go_ret
        exact ⟨rfl, Below.refl _ _⟩
    · go_wp2_with fail
      go_ret
      exact ⟨rfl, Below.refl _ _⟩

end Go.Proofs.Qxb6600807a.Script
