/-
  THE LAW FnPartsAddKeepsOrderKeysAndValues: its walk.
-/
import Derived.Test.Qxb6600807aFirstW
import Derived.Test.Qxb6600807aRawsB
namespace Go.Proofs.Qxb6600807a.AddLaw
open Go.RowKit Go.Maps
open Find Strs Parts FirstLaw Raws
set_option linter.unusedVariables false

theorem rin_some {w : World} {a : Option Addr} {n cap : Nat} {A : Nat → Option Addr} {L C : Nat → Nat} {Z : Nat → Nat → Int} (h : RIn w a n cap A L C Z) (hn : 0 < n) : ∃ b off, a = some ⟨b, off, none⟩ ∧ ∀ r, r < n → w.cell? ⟨b, off + r, none⟩ = some (.slice (A r) (L r) (C r)) := by
  rcases h with ⟨_, h, _⟩ | ⟨x, rfl, h⟩
  · omega
  · obtain ⟨b, off, rfl, _⟩ := Strs.addr_plain (h 0 hn).1
    exact ⟨b, off, rfl, fun j hj => by have := (h j hj).1; rw [Addr.add_lit] at this; exact this⟩
theorem rcl_some {w : World} {a : Option Addr} {n : Nat} {A A' : Nat → Option Addr} {L : Nat → Nat} {Z : Nat → Nat → Int} (h : RCl w a n A A' L Z) (hn : 0 < n) : ∃ b, a = some ⟨b, 0, none⟩ ∧ b < w.heap.size ∧ ∀ r, r < n → w.cell? ⟨b, r, none⟩ = some (.slice (A' r) (L r) (L r)) ∧ BCl w (b + 1) (A r) (A' r) (L r) (Z r) := by
  rcases h with ⟨_, h⟩ | h
  · omega
  · exact h

set_option maxRecDepth 100000 in
set_option maxHeartbeats 1600000 in
theorem bytes_any (a : Option Addr) (n cap : Nat) (S : Nat → ByteArray) (a1 : Option Addr) (n1 cap1 : Nat) (A : Nat → Option Addr) (L C : Nat → Nat) (Z : Nat → Nat → Int) (hn : n ≤ maxLen) (hn1 : n1 ≤ maxLen) (hS : ∀ i, (S i).size ≤ maxLen) (hL : ∀ r, L r ≤ maxLen) (w : World) (h : In w a n cap S) (h1 : RIn w a1 n1 cap1 A L C Z) :
    Calls Try.prog 22 #[.slice a n cap, .slice a1 n1 cap1] w fun e w' => AnyBool e w w' := by
  unfold maxLen at hn hn1
  have HI : Hid (In w a n cap S ∧ RIn w a1 n1 cap1 A L C Z) := ⟨h, h1⟩
  have HS : Hid ((∀ i, (S i).size ≤ maxLen) ∧ (∀ i, L i ≤ maxLen)) := ⟨hS, hL⟩
  clear h h1 hS hL
  by_cases hbig : n ≤ 1048576
  · go_enter Try.func22, Try.ntmps22
    go_wp2
    go_loop [5, 6] (fun z i => ∃ k m : Nat, i = .int .i64 k ∧ k ≤ n ∧ z = .int .i64 m ∧ m ≤ 1048576) (fun _ i => n - (intOf i).toNat)
    case atStart => exact ⟨0, n, rfl, by omega, rfl, by omega⟩
    case round =>
      obtain ⟨k, m, rfl, hk, rfl, hm⟩ := hrel
      by_cases hlt : k < n
      · obtain ⟨b, off, rfl, hl⟩ := in_some HI.out.1 (by omega)
        have hc := hl k hlt
        have hs := HS.out.1 k
        unfold maxLen at hs
        clear hl
        by_cases h1 : (S k).size ≤ 1048576
        · by_cases h2 : m + (S k).size ≤ 1048576
          · go_wp2
            go_round
            case rel => exact ⟨k + 1, m + (S k).size, by go_num, by omega, by go_num, h2⟩
            case measure => simp [intOf]; omega
          · go_wp2
            go_ret
            exact anyBool rfl rfl
        · go_wp2
          go_ret
          exact anyBool rfl rfl
      · by_cases hbig1 : n1 ≤ 1048576
        · by_cases hs1 : m + n1 ≤ 1048576
          · go_wp2
            go_loop [5, 7] (fun z i => ∃ k m : Nat, i = .int .i64 k ∧ k ≤ n1 ∧ z = .int .i64 m ∧ m ≤ 1048576) (fun _ i => n1 - (intOf i).toNat)
            case atStart => exact ⟨0, m + n1, rfl, by omega, by go_num, by omega⟩
            case round =>
              obtain ⟨k2, m2, rfl, hk2, rfl, hm2⟩ := hrel
              by_cases hlt2 : k2 < n1
              · obtain ⟨b, off, rfl, hl⟩ := rin_some HI.out.2 (by omega)
                have hc := hl k2 hlt2
                have hs := HS.out.2 k2
                unfold maxLen at hs
                clear hl
                by_cases h1 : L k2 ≤ 1048576
                · by_cases h2 : m2 + L k2 ≤ 1048576
                  · go_wp2
                    go_round
                    case rel => exact ⟨k2 + 1, m2 + L k2, by go_num, by omega, by go_num, h2⟩
                    case measure => simp [intOf]; omega
                  · go_wp2
                    go_ret
                    exact anyBool rfl rfl
                · go_wp2
                  go_ret
                  exact anyBool rfl rfl
              · go_wp2
                go_ret
                exact anyBool rfl rfl
          · go_wp2
            go_ret
            exact anyBool rfl rfl
        · go_wp2
          go_ret
          exact anyBool rfl rfl
  · go_enter Try.func22, Try.ntmps22
    go_wp2
    go_ret
    exact anyBool rfl rfl

/-- The raws as they are handed: nil past the end. -/
def RV (A : Nat → Option Addr) (L : Nat → Nat) (n1 : Nat) : Nat → Value := fun t => if t < n1 then .slice (A t) (L t) (L t) else .slice none 0 0
theorem RV_in {A : Nat → Option Addr} {L : Nat → Nat} {n1 t : Nat} (h : t < n1) : RV A L n1 t = .slice (A t) (L t) (L t) := by simp [RV, h]
theorem RV_out {A : Nat → Option Addr} {L : Nat → Nat} {n1 t : Nat} (h : ¬ t < n1) : RV A L n1 t = .slice none 0 0 := by simp [RV, h]
theorem RV_slice (A : Nat → Option Addr) (L : Nat → Nat) (n1 : Nat) : ∀ i, ∃ a l c, RV A L n1 i = .slice a l c := by
  intro i
  by_cases h : i < n1
  · exact ⟨_, _, _, RV_in h⟩
  · exact ⟨_, _, _, RV_out h⟩
theorem ok_drewN {w : World} {B p : Nat} {S : Nat → ByteArray} {R : Nat → Value} {n : Nat} (k : Nat) (h : Ok w B p S R n) : Ok (w.drewN k) B p S R n := by
  obtain ⟨ev, m, he, hm⟩ := h
  exact ⟨ev, m, ⟨he.base, he.blk, he.own⟩, hm⟩
theorem bat_drewN {w : World} {a : Option Addr} {n : Nat} {z : Nat → Int} (k : Nat) (h : BAt w a n z) : BAt (w.drewN k) a n z := h

set_option maxRecDepth 100000 in
set_option maxHeartbeats 3200000 in
theorem walk (a : Option Addr) (n cap : Nat) (S : Nat → ByteArray) (a1 : Option Addr) (n1 cap1 : Nat) (A : Nat → Option Addr) (L C : Nat → Nat) (Z : Nat → Nat → Int) (hn : n ≤ maxLen) (hn1 : n1 ≤ maxLen) (hS : ∀ i, (S i).size ≤ maxLen) (hL : ∀ r, L r ≤ maxLen) (w : World) (h : In w a n cap S) (h1 : RIn w a1 n1 cap1 A L C Z) :
    Calls Try.prog 7 #[.slice a n cap, .slice a1 n1 cap1] w fun e w' => e = .returned (.bool true) ∧ Below w.heap.size w w' := by
  have HI : Hid (In w a n cap S ∧ RIn w a1 n1 cap1 A L C Z) := ⟨h, h1⟩
  have HS : Hid ((∀ i, (S i).size ≤ maxLen) ∧ (∀ i, L i ≤ maxLen)) := ⟨hS, hL⟩
  have HQ : Hid (n ≤ maxLen ∧ n1 ≤ maxLen) := ⟨hn, hn1⟩
  unfold maxLen at hn hn1
  clear h h1 hS hL
  go_enter Try.func7, Try.ntmps7
  go_wp2_with fail
  refine (bytes_any a n cap S a1 n1 cap1 A L C Z HQ.out.1 HQ.out.2 HS.out.1 HS.out.2 _ HI.out.1 HI.out.2).mono ?_
  rintro e w' ⟨t, rfl, rfl⟩
  cases t
  · go_wp2
    go_ret
    exact ⟨rfl, Below.refl _ _⟩
  · by_cases hn4 : n ≤ 65536
    · by_cases hn14 : n1 ≤ 65536
      · by_cases hsz : 16 * n + 24 * n1 ≤ 1048576
        · go_wp2_with fail
          go_loop [5, 6] (fun z i => ∃ k m : Nat, i = .int .i64 k ∧ k ≤ n ∧ z = .int .i64 m ∧ m ≤ 1048576) (fun _ i => n - (intOf i).toNat)
          case atStart => exact ⟨0, 16 * n + 24 * n1, rfl, by omega, by go_num, by omega⟩
          case round =>
            obtain ⟨k, m, rfl, hk, rfl, hm⟩ := hrel
            by_cases hlt : k < n
            · obtain ⟨b, off, rfl, hl⟩ := in_some HI.out.1 (by omega)
              have hc := hl k hlt
              have hs := HS.out.1 k
              unfold maxLen at hs
              clear hl
              by_cases h1 : (S k).size ≤ 1048576
              · by_cases h2 : m + (S k).size ≤ 1048576
                · go_wp2
                  go_round
                  case rel => exact ⟨k + 1, m + (S k).size, by go_num, by omega, by go_num, by omega⟩
                  case measure => simp [intOf]; omega
                · go_wp2
                  go_ret
                  exact ⟨rfl, Below.refl _ _⟩
              · go_wp2
                go_ret
                exact ⟨rfl, Below.refl _ _⟩
            · go_wp2_with fail
              go_loop [5, 7] (fun z i => ∃ k m : Nat, i = .int .i64 k ∧ k ≤ n1 ∧ z = .int .i64 m ∧ m ≤ 1048576 ∧ ∀ r, r < k → L r ≤ 1048576) (fun _ i => n1 - (intOf i).toNat)
              case atStart => exact ⟨0, m, rfl, by omega, rfl, by omega, fun r hr => by omega⟩
              case round =>
                obtain ⟨k2, m2, rfl, hk2, rfl, hm2, hsm⟩ := hrel
                have HSM : Hid (∀ r, r < k2 → L r ≤ 1048576) := hsm
                clear hsm
                by_cases hlt2 : k2 < n1
                · obtain ⟨b, off, rfl, hl⟩ := rin_some HI.out.2 (by omega)
                  have hc := hl k2 hlt2
                  have hs := HS.out.2 k2
                  unfold maxLen at hs
                  clear hl
                  by_cases h1 : L k2 ≤ 1048576
                  · by_cases h2 : m2 + L k2 ≤ 1048576
                    · go_wp2
                      go_round
                      case rel => exact ⟨k2 + 1, m2 + L k2, by go_num, by omega, by go_num, by omega, fun r hr => by
                        rcases Nat.lt_or_ge r k2 with h | h
                        · exact HSM.out r h
                        · have : r = k2 := by omega
                          subst this
                          exact h1⟩
                      case measure => simp [intOf]; omega
                    · go_wp2
                      go_ret
                      exact ⟨rfl, Below.refl _ _⟩
                  · go_wp2
                    go_ret
                    exact ⟨rfl, Below.refl _ _⟩
                · have HSN : Hid (∀ r, r < n1 → L r ≤ 1048576) := fun r hr => HSM.out r (by omega)
                  go_wp2_with fail
                  refine (clone_cl a n cap S (by omega) _ HI.out.1).mono ?_
                  rintro e wa ⟨a2, rfl, hcl, hbel⟩
                  have HC : Hid (Cl wa a2 n S ∧ Below w.heap.size w wa) := ⟨hcl, hbel⟩
                  clear hcl hbel
                  go_wp2_with fail
                  refine (cloneRaws_any a1 n1 cap1 A L C Z (by omega) HSN.out _ (HI.out.2.later HC.out.2)).mono ?_
                  rintro e wb ⟨a3, A3, rfl, hcl, hbel⟩
                  have HC2 : Hid (Cl wb a2 n S ∧ RCl wb a3 n1 A A3 L Z ∧ Below w.heap.size w wb) := ⟨HC.out.1.later (Nat.le_refl _) hbel, hcl, HC.out.2.trans (hbel.mono HC.out.2.size)⟩
                  clear hcl hbel HC
                  go_wp2_with fail
                  refine (cloneRaws_any a3 n1 n1 A3 L L Z (by omega) HSN.out _ HC2.out.2.1.rin).mono ?_
                  rintro e wh ⟨a4, A4, rfl, hcl, hbel⟩
                  have HC3 : Hid (Cl wh a2 n S ∧ RCl wh a3 n1 A A3 L Z ∧ RCl wh a4 n1 A3 A4 L Z ∧ Below w.heap.size w wh) := ⟨HC2.out.1.later (Nat.le_refl _) hbel, HC2.out.2.1.later (Nat.le_refl _) hbel, hcl, HC2.out.2.2.trans (hbel.mono HC2.out.2.2.size)⟩
                  clear hcl hbel HC2
                  go_wp2_with fail
                  refine (newParts_any S (RV A4 L n1) _).mono ?_
                  rintro e wd ⟨rfl, hok, hb2⟩
                  have HO : Hid (Ok wd wh.heap.size wh.heap.size S (RV A4 L n1) 0 ∧ Below wh.heap.size wh wd) := ⟨hok, hb2⟩
                  clear hok hb2
                  go_wp2_with fail
                  go_loopw [10] (fun i wr => ∃ k : Nat, i = .int .i64 k ∧ k ≤ n ∧ Ok wr wh.heap.size wh.heap.size S (RV A4 L n1) k ∧ Below wh.heap.size wh wr) (fun i _ => n - (intOf i).toNat)
                  case atStart => exact ⟨0, rfl, by omega, HO.out.1, HO.out.2⟩
                  case round =>
                    obtain ⟨t, rfl, hk3, hok, hb2⟩ := hrel
                    clear HO
                    have HO : Hid (Ok wr wh.heap.size wh.heap.size S (RV A4 L n1) t ∧ Below wh.heap.size wh wr) := ⟨hok, hb2⟩
                    clear hok hb2
                    by_cases hlt : t < n
                    · obtain ⟨b, rfl, hb, hl⟩ := cl_some HC3.out.1 (by omega)
                      have hcr : wr.cell? ⟨b, t, none⟩ = some (.string (S t)) := (HO.out.2.cell (by exact hb)).trans (hl t hlt)
                      clear hl
                      by_cases hq1 : t < n1
                      · obtain ⟨b4, rfl, hb4, hl4⟩ := rcl_some HC3.out.2.2.1 (by omega)
                        have hc4 : wr.cell? ⟨b4, t, none⟩ = some (.slice (A4 t) (L t) (L t)) := (HO.out.2.cell (by exact hb4)).trans (hl4 t hq1).1
                        clear hl4
                        go_wp2_with (go_at_call 19; refine (zzAdd_any _ _ S (RV A4 L n1) t (S t) (A4 t) (L t) (L t) rfl (RV_in hq1) HS.out.1 (RV_slice A4 L n1) (by omega) _ HO.out.1).mono ?_; rintro e w5 ⟨rfl, hok5, hb5⟩; have HO5 := (show Hid _ from And.intro hok5 hb5); clear hok5 hb5)
                        go_roundw
                        case rel => exact ⟨t + 1, by go_num, by omega, HO5.out.1, HO.out.2.trans HO5.out.2⟩
                        case measure => simp [intOf]; omega
                      · go_wp2_with (go_at_call 19; refine (zzAdd_any _ _ S (RV A4 L n1) t (S t) none 0 0 rfl (RV_out hq1) HS.out.1 (RV_slice A4 L n1) (by omega) _ HO.out.1).mono ?_; rintro e w5 ⟨rfl, hok5, hb5⟩; have HO5 := (show Hid _ from And.intro hok5 hb5); clear hok5 hb5)
                        go_roundw
                        case rel => exact ⟨t + 1, by go_num, by omega, HO5.out.1, HO.out.2.trans HO5.out.2⟩
                        case measure => simp [intOf]; omega
                    · have hO : Ok wr wh.heap.size wh.heap.size S (RV A4 L n1) n := by have := HO.out.1; rwa [show t = n by omega] at this
                      have HO9 : Hid (Ok wr wh.heap.size wh.heap.size S (RV A4 L n1) n) := hO
                      clear hO
                      have HC9 : Hid (Cl wr a2 n S ∧ RCl wr a3 n1 A A3 L Z ∧ RCl wr a4 n1 A3 A4 L Z) := ⟨HC3.out.1.later (Nat.le_refl _) HO.out.2, HC3.out.2.1.later (Nat.le_refl _) HO.out.2, HC3.out.2.2.1.later (Nat.le_refl _) HO.out.2⟩
                      have e0 : ((n : Int) != (n : Int)) = false := by simp
                      go_wp2_with (go_at_call 24; refine (zzLen_any _ _ S (RV A4 L n1) n (by omega) _ HO9.out).mono ?_; rintro e w5 ⟨rfl, rfl⟩)
                      go_loopw [12] (fun i wx => ∃ k : Nat, i = .int .i64 k ∧ k ≤ n ∧ Ok wx wh.heap.size wh.heap.size S (RV A4 L n1) n ∧ Below wh.heap.size wh wx) (fun i _ => n - (intOf i).toNat)
                      case atStart => exact ⟨0, rfl, by omega, HO9.out, HO.out.2⟩
                      case round =>
                        obtain ⟨k4, rfl, hk4, hokx, hbx⟩ := hrel
                        clear HO9 HC9
                        have HX : Hid (Ok wr wh.heap.size wh.heap.size S (RV A4 L n1) n ∧ Below wh.heap.size wh wr) := ⟨hokx, hbx⟩
                        clear hokx hbx
                        by_cases hlt4 : k4 < n
                        · have HC9 : Hid (Cl wr a2 n S ∧ RCl wr a3 n1 A A3 L Z ∧ RCl wr a4 n1 A3 A4 L Z) := ⟨HC3.out.1.later (Nat.le_refl _) HX.out.2, HC3.out.2.1.later (Nat.le_refl _) HX.out.2, HC3.out.2.2.1.later (Nat.le_refl _) HX.out.2⟩
                          obtain ⟨b, rfl, hb, hl⟩ := cl_some HC9.out.1 (by omega)
                          have hc := hl k4 hlt4
                          clear hl
                          have hi1 : (0 : Int) ≤ (k4 : Int) := by omega
                          have hi2 : (k4 : Int) < (n : Int) := by omega
                          have e1 : ((S k4).toList == (S k4).toList) = true := by simp
                          have HY : ∀ m, Hid (Ok (wr.drewN m) wh.heap.size wh.heap.size S (RV A4 L n1) n ∧ Below wh.heap.size wh (wr.drewN m)) := fun m => ⟨ok_drewN _ HX.out.1, ⟨HX.out.2.os, HX.out.2.tape, HX.out.2.output, HX.out.2.size, HX.out.2.block⟩⟩
                          go_wp2_with fail
                          go_quiet ((go_at_call 25; refine Calls.quiet_of_same ((zzKeyAt_any _ _ S (RV A4 L n1) n k4 hlt4 (by omega) _ (HY _).out.1).mono (fun e w' h => ⟨h.1, h.2.symm⟩))))
                          by_cases hq1 : k4 < n1
                          · obtain ⟨b3, rfl, hb3, hl3⟩ := rcl_some HC9.out.2.1 (by omega)
                            obtain ⟨b4, rfl, hb4, hl4⟩ := rcl_some HC9.out.2.2 (by omega)
                            have hc3 := (hl3 k4 hq1).1
                            have HD : Hid (BCl wr (b3 + 1) (A k4) (A3 k4) (L k4) (Z k4) ∧ BCl wr (b4 + 1) (A3 k4) (A4 k4) (L k4) (Z k4)) := ⟨(hl3 k4 hq1).2, (hl4 k4 hq1).2⟩
                            clear hl3 hl4
                            go_wp2_with (first | (go_at_call 27; refine (zzRawAt_any _ _ S (RV A4 L n1) n k4 hlt4 (by omega) (A4 k4) (L k4) (L k4) (RV_in hq1) _ (HY _).out.1).mono ?_; rintro e w5 ⟨rfl, rfl⟩) | (go_at_call 26; refine (same_any (A4 k4) (A3 k4) (L k4) (Z k4) (HSN.out k4 hq1) _ (bat_drewN _ HD.out.2.bat) (bat_drewN _ HD.out.1.bat) HD.out.2.nil).mono ?_; rintro e w6 ⟨rfl, m6, rfl⟩))
                            go_roundw
                            case rel => exact ⟨k4 + 1, by go_num, by omega, (HY _).out.1, (HY _).out.2⟩
                            case measure => simp [intOf]; omega
                          · go_wp2_with (first | (go_at_call 27; refine (zzRawAt_any _ _ S (RV A4 L n1) n k4 hlt4 (by omega) none 0 0 (RV_out hq1) _ (HY _).out.1).mono ?_; rintro e w5 ⟨rfl, rfl⟩) | (go_at_call 26; refine (same_nil _).mono ?_; rintro e w6 ⟨rfl, m6, rfl⟩))
                            go_roundw
                            case rel => exact ⟨k4 + 1, by go_num, by omega, (HY _).out.1, (HY _).out.2⟩
                            case measure => simp [intOf]; omega
                        · go_wp2
                          go_ret
                          exact ⟨rfl, HC3.out.2.2.2.trans (HX.out.2.mono HC3.out.2.2.2.size)⟩
        · go_wp2_with fail
          go_ret
          exact ⟨rfl, Below.refl _ _⟩
      · go_wp2_with fail
        go_ret
        exact ⟨rfl, Below.refl _ _⟩
    · go_wp2_with fail
      go_ret
      exact ⟨rfl, Below.refl _ _⟩

end Go.Proofs.Qxb6600807a.AddLaw
