/-
  THE WALK of checkNumber (openai/json.go): it answers as 'Num.cn'.
-/
import Derived.Test.Qxb6600807aNumA
import Derived.Deep.CutBlock
namespace Go.Proofs.Qxb6600807a
open Go.RowKit
open Num
set_option linter.unusedVariables false

theorem isC_lt {zs : List Int} {k : Nat} {c : Int} (h : k < zs.length) : isC zs k c = decide (ch zs k = c) := by simp [isC, h]
theorem isC_ge {zs : List Int} {k : Nat} {c : Int} (h : ¬ k < zs.length) : isC zs k c = false := by simp [isC, h]
theorem isC_pos {zs : List Int} {k : Nat} {c : Int} (h : isC zs k c = true) : k < zs.length := by simp [isC] at h; exact h.1
theorem isD_pos {zs : List Int} {k : Nat} (h : isD zs k = true) : k < zs.length := by simp [isD] at h; exact h.1
theorem beq_dec (c n : Int) : (c == n) = decide (c = n) := rfl

theorem cn_yes {zs : List Int} {i : Nat} (h : isC zs i 45 = true) : cn zs i = cnI zs (i + 1) := by unfold cn; rw [h]; rfl
theorem cn_no {zs : List Int} {i : Nat} (h : isC zs i 45 = false) : cn zs i = cnI zs i := by unfold cn; rw [h]; rfl

theorem cnI_zero {zs : List Int} {j : Nat} (h : isC zs j 48 = true) : cnI zs j = cnF zs (j + 1) := by unfold cnI; rw [h]; rfl
theorem cnI_dig {zs : List Int} {j : Nat} (h : isC zs j 48 = false) (h' : isD zs j = true) : cnI zs j = cnF zs (skip zs j) := by unfold cnI; rw [h, h']; rfl
theorem cnI_stop {zs : List Int} {j : Nat} (h : isC zs j 48 = false) (h' : isD zs j = false) : cnI zs j = (j, false) := by unfold cnI; rw [h, h']; rfl
theorem cnF_no {zs : List Int} {j : Nat} (h : isC zs j 46 = false) : cnF zs j = cnE zs j := by unfold cnF; rw [h]; rfl
theorem cnF_dig {zs : List Int} {j : Nat} (h : isC zs j 46 = true) (h' : isD zs (j + 1) = true) : cnF zs j = cnE zs (skip zs (j + 1)) := by unfold cnF; rw [h, h']; rfl
theorem cnF_stop {zs : List Int} {j : Nat} (h : isC zs j 46 = true) (h' : isD zs (j + 1) = false) : cnF zs j = (j + 1, false) := by unfold cnF; rw [h, h']; rfl
/-- Behind the mark. -/
def cnX (zs : List Int) (i : Nat) : Nat × Bool := if isD zs i then (skip zs i, true) else (i, false)
theorem cnE_no {zs : List Int} {j : Nat} (h : (isC zs j 101 || isC zs j 69) = false) : cnE zs j = (j, true) := by unfold cnE; rw [h]; rfl
theorem cnE_sign {zs : List Int} {j : Nat} (h : (isC zs j 101 || isC zs j 69) = true) (h' : (isC zs (j + 1) 43 || isC zs (j + 1) 45) = true) : cnE zs j = cnX zs (j + 2) := by unfold cnE cnX; rw [h, h']; rfl
theorem cnE_bare {zs : List Int} {j : Nat} (h : (isC zs j 101 || isC zs j 69) = true) (h' : (isC zs (j + 1) 43 || isC zs (j + 1) 45) = false) : cnE zs j = cnX zs (j + 1) := by unfold cnE cnX; rw [h, h']; rfl
theorem cnX_yes {zs : List Int} {j : Nat} (h : isD zs j = true) : cnX zs j = (skip zs j, true) := by unfold cnX; rw [h]; rfl
theorem cnX_no {zs : List Int} {j : Nat} (h : isD zs j = false) : cnX zs j = (j, false) := by unfold cnX; rw [h]; rfl
/-- One to nine, given that it is no zero. -/
theorem isD_nz {zs : List Int} {k : Nat} (hl : k < zs.length) (h : isC zs k 48 = false) : isD zs k = (decide (49 ≤ ch zs k) && decide (ch zs k ≤ 57)) := by
  rw [isC_lt hl] at h
  have h' : ¬ ch zs k = 48 := by simpa using h
  simp only [isD, hl, dig]
  rw [show decide (48 ≤ ch zs k) = decide (49 ≤ ch zs k) from decide_eq_decide.2 (by omega)]
  simp
theorem isD_ge {zs : List Int} {k : Nat} (hl : ¬ k < zs.length) : isD zs k = false := by simp [isD, hl]
theorem isCC_lt {zs : List Int} {k : Nat} {c d : Int} (h : k < zs.length) : (isC zs k c || isC zs k d) = (decide (ch zs k = c) || decide (ch zs k = d)) := by simp [isC, h]
theorem isCC_ge {zs : List Int} {k : Nat} {c d : Int} (h : ¬ k < zs.length) : (isC zs k c || isC zs k d) = false := by simp [isC, h]
theorem isCC_pos {zs : List Int} {k : Nat} {c d : Int} (h : (isC zs k c || isC zs k d) = true) : k < zs.length := by
  simp [isC] at h; rcases h with h | h <;> exact h.1

set_option maxRecDepth 100000 in
set_option maxHeartbeats 800000 in
theorem checkNumber_some (b off cap : Nat) (zs : List Int) (i : Nat) (hi : i ≤ 9223372036854775807) (hn : zs.length ≤ 4194304) (w : World) (hl : Lies w b off zs) :
    Calls Try.prog 29 #[.slice (some ⟨b, off, none⟩) zs.length cap, .int .i64 i] w fun e w' => e = .returned (.tuple #[.int .i64 (cn zs i).1, .bool (cn zs i).2]) ∧ w = w' := by
  go_enter Try.func29, Try.ntmps29
  go_upto_region 1 with fail
  go_cut [16] from 6 (fun s w' => w = w' ∧ ∃ t, s = .bool t ∧ t = isC zs i 45)
  case first =>
    by_cases h : i < zs.length
    · have hc := hl i h
      go_wp2
      go_meet
      case rel => exact ⟨rfl, _, rfl, by rw [isC_lt h]; rfl⟩
    · go_wp2
      go_meet
      case rel => exact ⟨rfl, _, rfl, by rw [isC_ge h]⟩
  case rest =>
    obtain ⟨rfl, t, rfl, ht⟩ := hcut
    have HT : Hid (isC zs i 45 = t) := ht.symm
    clear ht
    go_upto_if 16 with fail
    go_cut [1] from 6 (fun s w' => w = w' ∧ ∃ j : Nat, s = .int .i64 j ∧ j ≤ 9223372036854775807 ∧ cn zs i = cnI zs j)
    case first =>
      cases t
      · go_wp2
        go_meet
        case rel => exact ⟨rfl, i, rfl, hi, cn_no HT.out⟩
      · have hlt := isC_pos HT.out
        go_wp2
        go_meet
        case rel => exact ⟨rfl, i + 1, by go_num, by omega, cn_yes HT.out⟩
    case rest =>
      obtain ⟨rfl, j, rfl, hj, he⟩ := hcut
      have HE : Hid (cn zs i = cnI zs j) := he
      clear he HT
      go_upto_block 0 with fail
      go_cut [1] from 6 (fun s w' => w = w' ∧ ∃ k : Nat, s = .int .i64 k ∧ k ≤ zs.length ∧ cn zs i = cnF zs k)
      case first =>
        by_cases hlt : j < zs.length
        · have hc := hl j hlt
          by_cases h0 : ch zs j = 48
          · have h0' : isC zs j 48 = true := by rw [isC_lt hlt]; simp [h0]
            have H0 : Hid (ch zs j = 48) := h0
            rw [h0] at hc
            clear h0
            go_wp2
            go_meet
            case rel => exact ⟨rfl, j + 1, by go_num, by omega, by rw [HE.out, cnI_zero h0']⟩
          · have h0' : isC zs j 48 = false := by rw [isC_lt hlt]; simp [h0]
            have HD := isD_nz hlt h0'
            by_cases h1 : 49 ≤ ch zs j ∧ ch zs j ≤ 57
            · obtain ⟨h1, h2⟩ := h1
              have hd : isD zs j = true := by rw [HD]; simp [h1, h2]
              clear HD h0'
              have h0' : isC zs j 48 = false := by rw [isC_lt hlt]; simp [h0]
              go_wp2_with (go_at_call 34; refine (skipDigits_any b off cap zs _ j (by omega) hn (by omega) _ hl).mono ?_; rintro e w' ⟨rfl, rfl⟩)
              go_meet
              case rel => exact ⟨rfl, _, rfl, (skip_le zs j).2 (by omega), by rw [HE.out, cnI_dig h0' hd]⟩
            · have hd : isD zs j = false := by rw [HD]; simpa using h1
              clear HD
              have HF : Hid (isD zs j = false ∧ isC zs j 48 = false) := ⟨hd, h0'⟩
              clear hd h0'
              by_cases h2 : 49 ≤ ch zs j
              · have h3 : ¬ ch zs j ≤ 57 := fun h => h1 ⟨h2, h⟩
                go_wp2
                go_ret2
                exact ⟨by rw [HE.out, cnI_stop HF.out.2 HF.out.1]; rfl, rfl⟩
              · go_wp2
                go_ret2
                exact ⟨by rw [HE.out, cnI_stop HF.out.2 HF.out.1]; rfl, rfl⟩
        · have HF : Hid (isD zs j = false ∧ isC zs j 48 = false) := ⟨isD_ge hlt, isC_ge hlt⟩
          go_wp2
          go_ret2
          exact ⟨by rw [HE.out, cnI_stop HF.out.2 HF.out.1]; rfl, rfl⟩
      case rest =>
        obtain ⟨rfl, k, rfl, hk, he⟩ := hcut
        clear HE
        have HE : Hid (cn zs i = cnF zs k) := he
        clear he
        go_upto_region 8 with fail
        go_cut [66] from 6 (fun s w' => w = w' ∧ ∃ t, s = .bool t ∧ t = isC zs k 46)
        case first =>
          by_cases h : k < zs.length
          · have hc := hl k h
            go_wp2
            go_meet
            case rel => exact ⟨rfl, _, rfl, by rw [isC_lt h]; rfl⟩
          · go_wp2
            go_meet
            case rel => exact ⟨rfl, _, rfl, by rw [isC_ge h]⟩
        case rest =>
          obtain ⟨rfl, t, rfl, ht⟩ := hcut
          have HT : Hid (isC zs k 46 = t) := ht.symm
          clear ht
          go_upto_if 66 with fail
          go_cut [1] from 6 (fun s w' => w = w' ∧ ∃ m : Nat, s = .int .i64 m ∧ m ≤ zs.length ∧ cn zs i = cnE zs m)
          case first =>
            cases t
            · go_wp2
              go_meet
              case rel => exact ⟨rfl, k, rfl, hk, by rw [HE.out, cnF_no HT.out]⟩
            · have hlt := isC_pos HT.out
              by_cases hd : isD zs (k + 1) = true
              · have hlt2 := isD_pos hd
                go_wp2_with (first | (go_at_call 35; refine (isDigit_any b off cap zs _ (k + 1) (by omega) hn _ hl).mono ?_; rintro e w' ⟨rfl, rfl⟩) | (go_at_call 34; refine (skipDigits_any b off cap zs _ (k + 1) (by omega) hn (by omega) _ hl).mono ?_; rintro e w' ⟨rfl, rfl⟩))
                go_meet
                case rel => exact ⟨rfl, _, rfl, (skip_le zs (k + 1)).2 (by omega), by rw [HE.out, cnF_dig HT.out hd]⟩
              · have hd' : isD zs (k + 1) = false := by simpa using hd
                clear hd
                go_wp2_with (go_at_call 35; refine (isDigit_any b off cap zs _ (k + 1) (by omega) hn _ hl).mono ?_; rintro e w' ⟨rfl, rfl⟩)
                go_ret2
                exact ⟨by rw [HE.out, cnF_stop HT.out hd']; exact ret_int_bool (by omega) rfl, rfl⟩
          case rest =>
            obtain ⟨rfl, m, rfl, hm, he⟩ := hcut
            clear HE HT
            have HE : Hid (cn zs i = cnE zs m) := he
            clear he
            go_upto_region 13 with fail
            go_cut [94] from 6 (fun s w' => w = w' ∧ ∃ t, s = .bool t ∧ t = (isC zs m 101 || isC zs m 69))
            case first =>
              by_cases h : m < zs.length
              · have hc := hl m h
                by_cases h1 : ch zs m = 101
                · have hb : (ch zs m == 101) = true := by simp [h1]
                  have H1 : Hid (ch zs m = 101) := h1
                  clear h1
                  go_wp2
                  go_meet
                  case rel => exact ⟨rfl, _, rfl, by rw [isCC_lt h]; simp [H1.out]⟩
                · have hb : (ch zs m == 101) = false := by simp [h1]
                  clear h1
                  go_wp2
                  go_meet
                  case rel => exact ⟨rfl, _, rfl, by rw [isCC_lt h, ← beq_dec, hb]; rfl⟩
              · go_wp2
                go_meet
                case rel => exact ⟨rfl, _, rfl, by rw [isCC_ge h]⟩
            case rest =>
              obtain ⟨rfl, t, rfl, ht⟩ := hcut
              have HT : Hid ((isC zs m 101 || isC zs m 69) = t) := ht.symm
              clear ht
              cases t
              · go_wp2
                go_ret2
                exact ⟨by rw [HE.out, cnE_no HT.out]; rfl, rfl⟩
              · have hlt := isCC_pos HT.out
                go_upto_region 15 with fail
                go_cut [114] from 6 (fun s w' => w = w' ∧ ∃ t, s = .bool t ∧ t = (isC zs (m + 1) 43 || isC zs (m + 1) 45))
                case first =>
                  by_cases h : m + 1 < zs.length
                  · have hc := hl (m + 1) h
                    by_cases h1 : ch zs (m + 1) = 43
                    · have hb : (ch zs (m + 1) == 43) = true := by simp [h1]
                      have H1 : Hid (ch zs (m + 1) = 43) := h1
                      clear h1
                      go_wp2
                      go_meet
                      case rel => exact ⟨rfl, _, rfl, by rw [isCC_lt h]; simp [H1.out]⟩
                    · have hb : (ch zs (m + 1) == 43) = false := by simp [h1]
                      clear h1
                      go_wp2
                      go_meet
                      case rel => exact ⟨rfl, _, rfl, by rw [isCC_lt h, ← beq_dec, hb]; rfl⟩
                  · go_wp2
                    go_meet
                    case rel => exact ⟨rfl, _, rfl, by rw [isCC_ge h]⟩
                case rest =>
                  obtain ⟨rfl, t, rfl, ht⟩ := hcut
                  have HT2 : Hid ((isC zs (m + 1) 43 || isC zs (m + 1) 45) = t) := ht.symm
                  clear ht
                  go_upto_if 114 with fail
                  go_cut [1] from 6 (fun s w' => w = w' ∧ ∃ q : Nat, s = .int .i64 q ∧ q ≤ zs.length ∧ cn zs i = cnX zs q)
                  case first =>
                    cases t
                    · go_wp2
                      go_meet
                      case rel => exact ⟨rfl, m + 1, by go_num, by omega, by rw [HE.out, cnE_bare HT.out HT2.out]⟩
                    · have hlt2 := isCC_pos HT2.out
                      go_wp2
                      go_meet
                      case rel => exact ⟨rfl, m + 2, by go_num, by omega, by rw [HE.out, cnE_sign HT.out HT2.out]⟩
                  case rest =>
                    obtain ⟨rfl, q, rfl, hq, he⟩ := hcut
                    clear HE HT HT2
                    have HE : Hid (cn zs i = cnX zs q) := he
                    clear he
                    by_cases hd : isD zs q = true
                    · have hlt3 := isD_pos hd
                      go_wp2_with (first | (go_at_call 35; refine (isDigit_any b off cap zs _ q (by omega) hn _ hl).mono ?_; rintro e w' ⟨rfl, rfl⟩) | (go_at_call 34; refine (skipDigits_any b off cap zs _ q (by omega) hn (by omega) _ hl).mono ?_; rintro e w' ⟨rfl, rfl⟩))
                      go_ret2
                      exact ⟨by rw [HE.out, cnX_yes hd]; rfl, rfl⟩
                    · have hd' : isD zs q = false := by simpa using hd
                      clear hd
                      go_wp2_with (go_at_call 35; refine (isDigit_any b off cap zs _ q (by omega) hn _ hl).mono ?_; rintro e w' ⟨rfl, rfl⟩)
                      go_ret2
                      exact ⟨by rw [HE.out, cnX_no hd']; rfl, rfl⟩

set_option maxRecDepth 100000 in
set_option maxHeartbeats 800000 in
/-- No byte at all (a nil slice, or an empty one). -/
theorem checkNumber_none (a : Option Addr) (cap : Nat) (i : Nat) (w : World) :
    Calls Try.prog 29 #[.slice a 0 cap, .int .i64 i] w fun e w' => e = .returned (.tuple #[.int .i64 (cn [] i).1, .bool (cn [] i).2]) ∧ w = w' := by
  have h : ¬ ((i : Int) < 0) := by omega
  go_enter Try.func29, Try.ntmps29
  go_wp2
  go_ret2
  exact ⟨by rw [cn_past [] i (by simp)]; rfl, rfl⟩

set_option maxRecDepth 100000 in
set_option maxHeartbeats 800000 in
theorem zzCheckNumber_some (b off cap : Nat) (zs : List Int) (x : Int) (i : Nat) (hx : x = (i : Int)) (hi : i ≤ 9223372036854775807) (hn : zs.length ≤ 4194304) (w : World) (hl : Lies w b off zs) :
    Calls Try.prog 11 #[.slice (some ⟨b, off, none⟩) zs.length cap, .int .i64 x] w fun e w' => e = .returned (.tuple #[.int .i64 (cn zs i).1, .bool (cn zs i).2]) ∧ w = w' := by
  subst hx
  go_enter Try.func11, Try.ntmps11
  go_wp2_with (go_at_call 29; refine (checkNumber_some b off cap zs i hi hn _ hl).mono ?_; rintro e w' ⟨rfl, rfl⟩)
  go_ret2
  exact ⟨rfl, rfl⟩

set_option maxRecDepth 100000 in
set_option maxHeartbeats 800000 in
theorem zzCheckNumber_none (a : Option Addr) (cap : Nat) (x : Int) (i : Nat) (hx : x = (i : Int)) (w : World) :
    Calls Try.prog 11 #[.slice a 0 cap, .int .i64 x] w fun e w' => e = .returned (.tuple #[.int .i64 (cn [] i).1, .bool (cn [] i).2]) ∧ w = w' := by
  subst hx
  go_enter Try.func11, Try.ntmps11
  go_wp2_with (go_at_call 29; refine (checkNumber_none a cap i _).mono ?_; rintro e w' ⟨rfl, rfl⟩)
  go_ret2
  exact ⟨rfl, rfl⟩
end Go.Proofs.Qxb6600807a
