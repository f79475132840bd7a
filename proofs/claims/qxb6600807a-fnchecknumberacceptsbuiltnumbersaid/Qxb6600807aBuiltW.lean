/-
  THE LAW FnCheckNumberAcceptsBuiltNumber: its walk.
-/
import Derived.Test.Qxb6600807aBuiltA
import Derived.Deep.DeepCutAuto
import Derived.Deep.CutBlock
namespace Go.Proofs.Qxb6600807a.Built
open Go.RowKit
open Num
set_option linter.unusedVariables false

set_option maxRecDepth 100000 in
set_option maxHeartbeats 1000000 in
theorem walk (a0 a3 a4 : Option Addr) (c0 c3 c4 : Nat) (ps fs es : List Int) (b1 b5 : Bool) (v : Nat) (v6 : Int) (hv : v < 18446744073709551616) (h6 : 0 ≤ v6) (h6' : v6 ≤ 255)
    (hn : ps.length + fs.length + es.length ≤ 1048576) (hf : ∀ j, j < fs.length → 0 ≤ ch fs j ∧ ch fs j ≤ 255) (he : ∀ j, j < es.length → 0 ≤ ch es j ∧ ch es j ≤ 255)
    (w : World) (i0 : In w a0 c0 ps) (i3 : In w a3 c3 fs) (i4 : In w a4 c4 es) :
    Calls Try.prog 5 #[.slice a0 ps.length c0, .bool b1, .int .u64 v, .slice a3 fs.length c3, .slice a4 es.length c4, .bool b5, .int .u8 v6] w fun e w' => e = .returned (.bool true) ∧ Below w.heap.size w w' := by
  have HI : Hid (In w a0 c0 ps ∧ In w a3 c3 fs ∧ In w a4 c4 es) := ⟨i0, i3, i4⟩
  have HB : Hid ((∀ j, j < fs.length → 0 ≤ ch fs j ∧ ch fs j ≤ 255) ∧ (∀ j, j < es.length → 0 ≤ ch es j ∧ ch es j ≤ 255)) := ⟨hf, he⟩
  have HV : Hid (v < 18446744073709551616) := hv
  clear i0 i3 i4 hf he hv
  go_enter Try.func5, Try.ntmps5
  go_wp2_with (go_at_call 14; refine (bytes_ok _ _ _ _ _ _ _ _ _ _ _ _ _ hn _).mono ?_; rintro e w' ⟨rfl, rfl⟩)
  refine (clone_cl a0 c0 ps (by omega) _ HI.out.1).mono ?_
  rintro e wa ⟨d0, rfl, k0, q0⟩
  have K0 : Hid (Cl wa d0 ps ∧ Below w.heap.size w wa) := ⟨k0, q0⟩
  clear k0 q0
  go_wp2_with fail
  refine (clone_cl a3 c3 fs (by omega) _ (HI.out.2.1.later K0.out.2)).mono ?_
  rintro e wb ⟨d3, rfl, k3, q3⟩
  have q3' : Below w.heap.size wa wb := q3.mono K0.out.2.size
  have K3 : Hid (Cl wb d0 ps ∧ Cl wb d3 fs ∧ Below w.heap.size w wb) := ⟨K0.out.1.later q3, k3, K0.out.2.trans q3'⟩
  clear k3 q3 q3' K0
  go_wp2_with fail
  refine (clone_cl a4 c4 es (by omega) _ (HI.out.2.2.later K3.out.2.2)).mono ?_
  rintro e w1 ⟨d4, rfl, k4, q4⟩
  have q4' : Below w.heap.size wb w1 := q4.mono K3.out.2.2.size
  have K4 : Hid (Cl w1 d0 ps ∧ Cl w1 d3 fs ∧ Cl w1 d4 es ∧ Below w.heap.size w w1) := ⟨K3.out.1.later q4, K3.out.2.1.later q4, k4, K3.out.2.2.trans q4'⟩
  clear k4 q4 q4' K3 HI
  obtain ⟨i0, hi, hz0, hz1, hz2⟩ := info_parts Try.info5
  obtain ⟨cap, hcap⟩ : ∃ cap, cap = ps.length + fs.length + es.length + 32 := ⟨_, rfl⟩
  have HC : Hid (cap = ps.length + fs.length + es.length + 32) := hcap
  have hc1 : ps.length + fs.length + es.length + 32 ≤ cap := by omega
  have hc2 : cap ≤ 1048608 := by omega
  clear hcap
  go_upto_if 73 with (first | (at_make; refine wpList_make_own _ rfl _ _ 22 rfl 0 5 i0 (.int .u8 0) 1 Try.underlying22 hi hz0 hz1 _ _ _ cap rfl rfl (by have := HC.out; omega) (by rw [hz2]; omega) (by unfold maxLen; omega) (Nat.zero_le _) ?_; intro w2 hown2 hgrow2; have HK2 := (show Hid _ from K4.out.1.later (grown_none hgrow2))) | (at_builtin; refine wpList_append_fits_any _ rfl (.tmp 68) (.tmp 69) 22 rfl 0 5 i0 1 Try.underlying22 hi hz1 w1.heap.size 0 cap [] rfl hown2 d0 ps.length ps.length (ps.map (Value.int .u8)) rfl (by simp) (cl_none HK2.out) (cl_cells HK2.out) (ints_oneCell _ _) (by omega) ?_; intro w3 hown3 hgrow3; simp only [Nat.zero_add, List.nil_append] at hown3))
  have HI : Hid (Inv w1 w3 cap ps [] ps.length) := inv_start hgrow2 (hown2.lt w1.heap.size rfl).2 hown3 hgrow3
  clear hown2 hgrow2 HK2 hown3 hgrow3
  go_cut [15] from 21 (fun s wr => ∃ (n : Nat) (xs : List Int), s = .slice (some ⟨w1.heap.size, 0, none⟩) n cap ∧ n ≤ ps.length + 1 ∧ Inv w1 wr cap ps xs n ∧ ∃ t, run 0 xs = (xs.length, t) ∧ (t = 0 ∨ t = 1))
  case first =>
    cases b1
    · go_wp2
      go_meet
      case rel => exact ⟨ps.length, [], rfl, by omega, HI.out, 0, rfl, .inl rfl⟩
    · go_wp2_with (at_builtin; refine wpList_append_fits _ rfl (.tmp 74) (.tmp 75) 22 rfl 0 5 i0 1 Try.underlying22 hi hz1 w1.heap.size ps.length cap ((ps ++ ([] : List Int)).map (Value.int .u8)) rfl (HI.out.2.1.alloc _) ⟨w3.heap.size, 0, none⟩ 1 1 [.int .u8 (45)] rfl rfl (cell_one_new _ _ _) (one_cell _) (by omega) ?_; intro w5 hown5 hgrow5)
      go_meet
      case rel => exact ⟨ps.length + 1, [] ++ [45], rfl, by omega, inv_one HI.out hown5 hgrow5, 1, rfl, .inr rfl⟩
  case rest =>
    obtain ⟨n, xs, rfl, hxl, hinv, t, hrun, ht⟩ := hcut
    clear HI
    have HI : Hid (Inv w1 wc cap ps xs n) := hinv
    have HR : Hid (run 0 xs = (xs.length, t) ∧ (t = 0 ∨ t = 1)) := ⟨hrun, ht⟩
    clear hinv hrun ht
    go_upto_if 82 with (go_at_call 15; refine (appendUint_n w1 _ cap n ps xs v HV.out (by omega) (by omega) HI.out).mono ?_; rintro e w6 ⟨n6, rfl, hn6, hinv6⟩)
    have HI6 : Hid (Inv w1 w6 cap ps (xs ++ decF 20 v) n6) := hinv6
    obtain ⟨t6, hr6, ht6⟩ := run_whole HR.out.1 HR.out.2 HV.out
    have HR6 : Hid (run 0 (xs ++ decF 20 v) = ((xs ++ decF 20 v).length, t6) ∧ (t6 = 2 ∨ t6 = 3)) := ⟨hr6, ht6⟩
    clear hinv6 hr6 ht6 HI HR
    go_cut [15] from 21 (fun s wr => ∃ (n : Nat) (xs : List Int), s = .slice (some ⟨w1.heap.size, 0, none⟩) n cap ∧ n ≤ ps.length + fs.length + 22 ∧ Inv w1 wr cap ps xs n ∧ ∃ t, run 0 xs = (xs.length, t) ∧ (t = 2 ∨ t = 3 ∨ t = 5))
    case first =>
      by_cases hf0 : 0 < fs.length
      · obtain ⟨b3, rfl, hb3, hl3⟩ := cl_some K4.out.2.1 hf0
        have HL3 : Hid (Lies w1 b3 0 fs) := hl3
        clear hl3
        go_wp2_with (at_builtin; refine wpList_append_fits _ rfl (.tmp 83) (.tmp 84) 22 rfl 0 5 i0 1 Try.underlying22 hi hz1 w1.heap.size (n6) cap ((ps ++ (xs ++ decF 20 v)).map (Value.int .u8)) rfl (HI6.out.2.1.alloc _) ⟨w6.heap.size, 0, none⟩ 1 1 [.int .u8 (46)] rfl rfl (cell_one_new _ _ _) (one_cell _) (by omega) ?_; intro w5 hown5 hgrow5)
        have HI7 : Hid (Inv w1 w5 cap ps ((xs ++ decF 20 v) ++ [46]) (n6 + 1)) := inv_one HI6.out hown5 hgrow5
        have HR7 : Hid (run 0 ((xs ++ decF 20 v) ++ [46]) = (((xs ++ decF 20 v) ++ [46]).length, 4)) := run_point HR6.out.1 HR6.out.2
        clear hown5 hgrow5
        go_loopw [15, 17] (fun s i wr => ∃ (k n : Nat) (ys : List Int), i = .int .i64 k ∧ k ≤ fs.length ∧ s = .slice (some ⟨w1.heap.size, 0, none⟩) n cap ∧ n = n6 + 1 + k ∧ Inv w1 wr cap ps ys n ∧ run 0 ys = (ys.length, if k = 0 then 4 else 5)) (fun _ i _ => fs.length - (intOf i).toNat)
        case atStart => exact ⟨0, n6 + 1, _, rfl, by omega, rfl, by omega, HI7.out, HR7.out⟩
        case round =>
          obtain ⟨k, n7, ys, rfl, hk, rfl, hn7, hinv7, hr7⟩ := hrel
          clear HI7 HR7
          have HI7 : Hid (Inv w1 wr cap ps ys n7) := hinv7
          have HR7 : Hid (run 0 ys = (ys.length, if k = 0 then 4 else 5)) := hr7
          have HN7 : Hid (n7 = n6 + 1 + k) := hn7
          have hn7' : n7 ≤ n6 + 1 + k := by omega
          clear hinv7 hr7 hn7
          by_cases hlt : k < fs.length
          · have hsrc : wr.cell? ⟨b3, k, none⟩ = some (.int .u8 (ch fs k)) := by
              have h1 := HI7.out.2.2.1.cell (p := ⟨b3, k, none⟩) (by exact hb3)
              have h2 := HL3.out k hlt
              rw [Nat.zero_add] at h2
              exact h1.trans h2
            obtain ⟨hz1', hz2'⟩ := HB.out.1 k hlt
            go_wp2_with (at_builtin; refine wpList_append_fits _ rfl (.tmp 92) (.tmp 99) 22 rfl 0 5 i0 1 Try.underlying22 hi hz1 w1.heap.size (n7) cap ((ps ++ ys).map (Value.int .u8)) rfl (HI7.out.2.1.alloc _) ⟨wr.heap.size, 0, none⟩ 1 1 [.int .u8 (48 + ch fs k % 10)] rfl rfl (cell_one_new _ _ _) (one_cell _) (by omega) ?_; intro w5 hown5 hgrow5)
            have HR8 : Hid (run 0 (ys ++ [48 + ch fs k % 10]) = ((ys ++ [48 + ch fs k % 10]).length, if k + 1 = 0 then 4 else 5)) := run_dig4 HR7.out hz1'
            have HI8 : Hid (Inv w1 w5 cap ps (ys ++ [48 + ch fs k % 10]) (n7 + 1)) := inv_one HI7.out hown5 hgrow5
            clear hown5 hgrow5
            go_roundw
            case rel => exact ⟨k + 1, n7 + 1, _, by go_num, by omega, rfl, by have := HN7.out; omega, HI8.out, HR8.out⟩
            case measure => simp [intOf]; omega
          · go_wp2
            go_meet
            case rel => exact ⟨n7, ys, rfl, by omega, HI7.out, 5, by have := HR7.out; rwa [if_neg (by omega)] at this, .inr (.inr rfl)⟩
      · go_wp2
        go_meet
        case rel => exact ⟨n6, _, rfl, by omega, HI6.out, t6, HR6.out.1, by have := HR6.out.2; omega⟩
    case rest =>
      obtain ⟨n8, xs8, rfl, hn8, hinv8, t8, hr8, ht8⟩ := hcut
      have HI8 : Hid (Inv w1 wc cap ps xs8 n8) := hinv8
      have HR8 : Hid (run 0 xs8 = (xs8.length, t8) ∧ (t8 = 2 ∨ t8 = 3 ∨ t8 = 5)) := ⟨hr8, ht8⟩
      clear hinv8 hr8 ht8 HI6 HR6 hn6 hxl
      go_upto_if 103 with fail
      go_cut [15] from 21 (fun s wr => ∃ (n : Nat) (xs : List Int), s = .slice (some ⟨w1.heap.size, 0, none⟩) n cap ∧ n ≤ ps.length + fs.length + es.length + 24 ∧ Inv w1 wr cap ps xs n ∧ ∃ t, run 0 xs = (xs.length, t) ∧ acc t = true)
      case first =>
        by_cases he0 : 0 < es.length
        · obtain ⟨b4, rfl, hb4, hl4⟩ := cl_some K4.out.2.2.1 he0
          have HL4 : Hid (Lies w1 b4 0 es) := hl4
          clear hl4
          go_upto_if 104 with fail
          go_cut [15] from 21 (fun s wr => ∃ (n : Nat) (xs : List Int), s = .slice (some ⟨w1.heap.size, 0, none⟩) n cap ∧ n ≤ ps.length + fs.length + 23 ∧ Inv w1 wr cap ps xs n ∧ run 0 xs = (xs.length, 6))
          case first =>
            cases b5
            · go_wp2_with (at_builtin; refine wpList_append_fits _ rfl (.tmp 108) (.tmp 109) 22 rfl 0 5 i0 1 Try.underlying22 hi hz1 w1.heap.size (n8) cap ((ps ++ xs8).map (Value.int .u8)) rfl (HI8.out.2.1.alloc _) ⟨wc.heap.size, 0, none⟩ 1 1 [.int .u8 (101)] rfl rfl (cell_one_new _ _ _) (one_cell _) (by omega) ?_; intro w5 hown5 hgrow5)
              go_meet
              case rel => exact ⟨n8 + 1, _, rfl, by omega, inv_one HI8.out hown5 hgrow5, run_mark HR8.out.1 HR8.out.2 (.inr rfl)⟩
            · go_wp2_with (at_builtin; refine wpList_append_fits _ rfl (.tmp 105) (.tmp 106) 22 rfl 0 5 i0 1 Try.underlying22 hi hz1 w1.heap.size (n8) cap ((ps ++ xs8).map (Value.int .u8)) rfl (HI8.out.2.1.alloc _) ⟨wc.heap.size, 0, none⟩ 1 1 [.int .u8 (69)] rfl rfl (cell_one_new _ _ _) (one_cell _) (by omega) ?_; intro w5 hown5 hgrow5)
              go_meet
              case rel => exact ⟨n8 + 1, _, rfl, by omega, inv_one HI8.out hown5 hgrow5, run_mark HR8.out.1 HR8.out.2 (.inl rfl)⟩
          case rest =>
            obtain ⟨n9, xs9, rfl, hn9, hinv9, hr9⟩ := hcut
            have HI9 : Hid (Inv w1 wc cap ps xs9 n9) := hinv9
            have HR9 : Hid (run 0 xs9 = (xs9.length, 6)) := hr9
            clear hinv9 hr9 HI8 HR8 hn8
            go_upto_block 2 with fail
            go_cut [15] from 21 (fun s wr => ∃ (n : Nat) (xs : List Int), s = .slice (some ⟨w1.heap.size, 0, none⟩) n cap ∧ n ≤ ps.length + fs.length + 24 ∧ Inv w1 wr cap ps xs n ∧ ∃ t, run 0 xs = (xs.length, t) ∧ (t = 6 ∨ t = 7))
            case first =>
              by_cases s1 : v6 % 3 = 1
              · have q1 : (v6 % 3 == 1) = true := by simp [s1]
                clear s1
                go_wp2_with (at_builtin; refine wpList_append_fits _ rfl (.tmp 115) (.tmp 116) 22 rfl 0 5 i0 1 Try.underlying22 hi hz1 w1.heap.size (n9) cap ((ps ++ xs9).map (Value.int .u8)) rfl (HI9.out.2.1.alloc _) ⟨wc.heap.size, 0, none⟩ 1 1 [.int .u8 (43)] rfl rfl (cell_one_new _ _ _) (one_cell _) (by omega) ?_; intro w5 hown5 hgrow5)
                go_meet
                case rel => exact ⟨n9 + 1, _, rfl, by omega, inv_one HI9.out hown5 hgrow5, 7, run_sign HR9.out (.inl rfl), .inr rfl⟩
              · have q1 : (v6 % 3 == 1) = false := by simp [s1]
                by_cases s2 : v6 % 3 = 2
                · have q2 : (v6 % 3 == 2) = true := by simp [s2]
                  clear s1 s2
                  go_wp2_with (at_builtin; refine wpList_append_fits _ rfl (.tmp 120) (.tmp 121) 22 rfl 0 5 i0 1 Try.underlying22 hi hz1 w1.heap.size (n9) cap ((ps ++ xs9).map (Value.int .u8)) rfl (HI9.out.2.1.alloc _) ⟨wc.heap.size, 0, none⟩ 1 1 [.int .u8 (45)] rfl rfl (cell_one_new _ _ _) (one_cell _) (by omega) ?_; intro w5 hown5 hgrow5)
                  go_meet
                  case rel => exact ⟨n9 + 1, _, rfl, by omega, inv_one HI9.out hown5 hgrow5, 7, run_sign HR9.out (.inr rfl), .inr rfl⟩
                · have q2 : (v6 % 3 == 2) = false := by simp [s2]
                  clear s1 s2
                  go_wp2
                  go_meet
                  case rel => exact ⟨n9, _, rfl, by omega, HI9.out, 6, HR9.out, .inl rfl⟩
            case rest =>
              obtain ⟨n12, xs12, rfl, hn12, hinv12, t12, hr12, ht12⟩ := hcut
              have HI12 : Hid (Inv w1 wc cap ps xs12 n12) := hinv12
              have HR12 : Hid (run 0 xs12 = (xs12.length, t12)) := hr12
              have HT12 : Hid (t12 = 6 ∨ t12 = 7) := ht12
              clear hinv12 hr12 ht12 HI9 HR9 hn9
              go_wp2_with fail
              go_loopw [15, 18] (fun s i wr => ∃ (k n : Nat) (ys : List Int), i = .int .i64 k ∧ k ≤ es.length ∧ s = .slice (some ⟨w1.heap.size, 0, none⟩) n cap ∧ n = n12 + k ∧ Inv w1 wr cap ps ys n ∧ run 0 ys = (ys.length, if k = 0 then t12 else 8)) (fun _ i _ => es.length - (intOf i).toNat)
              case atStart => exact ⟨0, n12, _, rfl, by omega, rfl, by omega, HI12.out, HR12.out⟩
              case round =>
                obtain ⟨k, n7, ys, rfl, hk, rfl, hn7, hinv7, hr7⟩ := hrel
                have HI7 : Hid (Inv w1 wr cap ps ys n7) := hinv7
                have HR7 : Hid (run 0 ys = (ys.length, if k = 0 then t12 else 8)) := hr7
                have HN7 : Hid (n7 = n12 + k) := hn7
                have hn7' : n7 ≤ n12 + k := by omega
                clear hinv7 hr7 hn7 HI12 HR12
                by_cases hlt : k < es.length
                · have hsrc : wr.cell? ⟨b4, k, none⟩ = some (.int .u8 (ch es k)) := by
                    have h1 := HI7.out.2.2.1.cell (p := ⟨b4, k, none⟩) (by exact hb4)
                    have h2 := HL4.out k hlt
                    rw [Nat.zero_add] at h2
                    exact h1.trans h2
                  obtain ⟨hz1', hz2'⟩ := HB.out.2 k hlt
                  go_wp2_with (at_builtin; refine wpList_append_fits _ rfl (.tmp 129) (.tmp 136) 22 rfl 0 5 i0 1 Try.underlying22 hi hz1 w1.heap.size (n7) cap ((ps ++ ys).map (Value.int .u8)) rfl (HI7.out.2.1.alloc _) ⟨wr.heap.size, 0, none⟩ 1 1 [.int .u8 (48 + ch es k % 10)] rfl rfl (cell_one_new _ _ _) (one_cell _) (by omega) ?_; intro w5 hown5 hgrow5)
                  have HR8 : Hid (run 0 (ys ++ [48 + ch es k % 10]) = ((ys ++ [48 + ch es k % 10]).length, if k + 1 = 0 then t12 else 8)) := run_dig7 HT12.out HR7.out hz1'
                  have HI8 : Hid (Inv w1 w5 cap ps (ys ++ [48 + ch es k % 10]) (n7 + 1)) := inv_one HI7.out hown5 hgrow5
                  clear hown5 hgrow5
                  go_roundw
                  case rel => exact ⟨k + 1, n7 + 1, _, by go_num, by omega, rfl, by have := HN7.out; omega, HI8.out, HR8.out⟩
                  case measure => simp [intOf]; omega
                · go_wp2
                  go_meet
                  case rel => exact ⟨n7, ys, rfl, by omega, HI7.out, 8, by have := HR7.out; rwa [if_neg (by omega)] at this, rfl⟩
        · go_wp2
          go_meet
          case rel => exact ⟨n8, _, rfl, by omega, HI8.out, t8, HR8.out.1, by rcases HR8.out.2 with h | h | h <;> subst h <;> rfl⟩
      case rest =>
        obtain ⟨n10, xs10, rfl, hn10, hinv10, t10, hr10, ht10⟩ := hcut
        have HI10 : Hid (Inv w1 wc cap ps xs10 n10 ∧ run 0 xs10 = (xs10.length, t10) ∧ acc t10 = true) := ⟨hinv10, hr10, ht10⟩
        clear hinv10 hr10 ht10 HI8 HR8 hn8
        have e10 : ((n10 : Int) == (n10 : Int)) = true := by simp
        go_wp2_with (go_at_call 11; refine (check_n w1 _ cap n10 ps xs10 t10 HI10.out.2.1 HI10.out.2.2 (by omega) (by omega) HI10.out.1).mono ?_; rintro e w11 ⟨rfl, rfl⟩)
        go_ret
        exact ⟨by simp, K4.out.2.2.2.trans (HI10.out.1.2.2.1.mono K4.out.2.2.2.size)⟩

end Go.Proofs.Qxb6600807a.Built
