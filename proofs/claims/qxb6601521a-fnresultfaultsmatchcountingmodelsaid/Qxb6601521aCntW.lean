/-
  THE WALK of FnResultFaultsMatchCountingModel (laws_root_b1.go).
-/
import Derived.Test.Qxb6601521aBytes6
import Derived.Test.Qxb6601521aPrior2
import Derived.Test.Qxb6601521aBlockM
import Derived.Test.Qxb6601521aSame
import Derived.Test.Qxb6601521aBalW
namespace Go.Proofs.Qxb6601521a
open Go.RowKit
set_option linter.unusedVariables false

theorem below_drewN {B : Nat} {a w : World} (k : Nat) (h : Below B a w) : Below B a (w.drewN k) := ⟨h.os, h.tape, h.output, h.size, h.block⟩

set_option maxRecDepth 100000 in
set_option maxHeartbeats 40000000 in
theorem cnt_walk (a0 : Option Addr) (n0 c0 : Nat) (P : List Flt) (a : Option Addr) (n cap : Nat) (M : Nat → Msg) (asked : Int) (hn0 : n0 ≤ 9223372036854775807) (hn : n ≤ 9223372036854775807) (hM : ∀ i, Sized (M i)) (w : World) (hP : FIn w a0 n0 c0 P) (h : MIn w a n cap M) :
    Calls Try.prog 6 #[.slice a0 n0 c0, .slice a n cap, .int .i64 asked] w fun e w' => ATPost e w w' true := by
  have HI : Hid (MIn w a n cap M ∧ (∀ i, Sized (M i)) ∧ FIn w a0 n0 c0 P) := ⟨h, hM, hP⟩
  clear h hM hP
  go_enter Try.func6, Try.ntmps6
  go_wp2_with fail
  refine (bytes22_any a0 n0 c0 a n cap M asked hn0 hn HI.out.2.1 w HI.out.1).mono ?_
  rintro e w1 ⟨t, rfl, rfl, hsm⟩
  cases t with
  | false =>
    go_wp2
    go_ret
    exact ⟨rfl, Below.refl _ _⟩
  | true =>
    have HSM : Hid (n0 ≤ 1048576 ∧ Small n M) := hsm rfl
    clear hsm hn hn0
    have hn : n ≤ 1048576 := HSM.out.2.1
    have hn0 : n0 ≤ 1048576 := HSM.out.1
    go_wp2_with fail
    refine (zzAdd_any _ _ _ _).mono ?_
    rintro e w1 ⟨t1, rfl, rfl⟩
    go_wp2_with fail
    refine (msgsBytes_any a n cap M t1 HSM.out.2 w HI.out.1).mono ?_
    rintro e w2 ⟨r, rfl, hb2⟩
    have HB2 : Hid (Below w.heap.size w w2) := hb2
    clear hb2
    by_cases hr : 1048576 < r
    · go_wp2
      go_ret
      exact ⟨rfl, HB2.out⟩
    · by_cases h0 : asked < 0
      · go_wp2
        go_ret
        exact ⟨rfl, HB2.out⟩
      · by_cases h1 : (n : Int) ≤ asked
        · go_wp2
          go_ret
          exact ⟨rfl, HB2.out⟩
        · obtain ⟨q, rfl⟩ : ∃ q : Nat, asked = (q : Int) := ⟨asked.toNat, by omega⟩
          have hq : q < n := by omega
          clear h0 h1
          obtain ⟨b, off, rfl, hb, hl⟩ := min_some HI.out.1 (by omega)
          have HF : Hid (∀ i, i < n → Fields w ⟨b, off, none⟩ i (M i)) := hl
          clear hl
          go_wp2_with fail
          refine (toF_any a0 n0 c0 P hn0 w2 (HI.out.2.2.later HB2.out)).mono ?_
          rintro e w3 ⟨v0, rfl, hv0, hvf, hvo, hb3⟩
          have HV0 : Hid ((v0 = .slice none 0 0 ↔ a0 = none) ∧ (∀ f, v0.ownBlock = some f → w2.heap.size ≤ f ∧ f < w3.heap.size) ∧ w3.ownsRow 0 61 4 v0 n0 (fcells P)) := ⟨hv0, hvf, hvo⟩
          have HB3 : Hid (Below w.heap.size w w3) := HB2.out.trans (hb3.mono HB2.out.size)
          clear hv0 hvf hvo hb3
          go_wp2_with fail
          refine (toMsgs_some b off n cap M HSM.out.2 w3 (fun i hi => (HF.out i hi).later HB3.out)).mono ?_
          rintro e w4 ⟨rfl, hb4, hout⟩
          have HB4 : Hid (Below w3.heap.size w3 w4 ∧ ∀ i, i < n → Out w4 w3.heap.size i (M i)) := ⟨hb4, hout⟩
          clear hb4 hout
          go_wp2_with fail
          refine (zzResF v0 n0 (fcells P) w3.heap.size n q M HSM.out.2 hn0 hq w4 (HV0.out.2.2.kept (grown_of_below HB4.out.1) (by cases e : v0.ownBlock with | none => exact .inl rfl | some f => exact .inr (by simp))) (fun f hf => (HV0.out.2.1 f hf).2) HB4.out.2).mono ?_
          rintro e w5 ⟨fv, K, ans, rfl, hK, hnt, htl, hmk, hbl, hbs⟩
          obtain ⟨L, hLe⟩ : ∃ L, L = exE (Cof M q) (Iof M q) (M q).cn q K ++ misE ans ((q + 1 + K : Nat) : Int) q (M q).cn := ⟨_, rfl⟩
          obtain ⟨m, hme⟩ : ∃ m, m = n0 + L.length := ⟨_, rfl⟩
          have hown := hbs.own
          have hsame := hbs.same
          have hgr := hbs.grown
          rw [← hLe] at hown hsame
          have hniv := nil_iff hown hsame
          rw [← hme, ← fcells_append] at hown
          have hmL : m = (P ++ L).length := by rw [List.length_append, ← HI.out.2.2.1]; exact hme
          have hmb : m ≤ 4194304 := by
            have h1 := exE_length (Cof M q) (Iof M q) (M q).cn q K
            have h2 := misE_length ans ((q + 1 + K : Nat) : Int) q (M q).cn
            have h3 := (HSM.out.2.2 q hq).1
            have h4 : L.length = (exE (Cof M q) (Iof M q) (M q).cn q K).length + (misE ans ((q + 1 + K : Nat) : Int) q (M q).cn).length := by rw [hLe, List.length_append]
            omega
          have HB5 : Hid (Below w.heap.size w w5) := by
            have h1 : Below w.heap.size w w4 := HB3.out.trans (HB4.out.1.mono HB3.out.size)
            refine h1.trans ⟨hgr.os, hgr.tape, hgr.output, hgr.size, fun k hk => hgr.block k (Nat.lt_of_lt_of_le hk h1.size) (fun e => ?_)⟩
            have := (HV0.out.2.1 k e.symm).1
            have := HB2.out.size
            omega
          have HR : Hid ((q + 1 + K < n → (M (q + 1 + K)).role ≠ toolB) ∧ (∀ k', k' < K → (M (q + 1 + k')).role = toolB) ∧ Marks (Cof M q) (Iof M q) (M q).cn K ans ∧ L = exE (Cof M q) (Iof M q) (M q).cn q K ++ misE ans ((q + 1 + K : Nat) : Int) q (M q).cn ∧ m = n0 + L.length ∧ m = (P ++ L).length ∧ (fv = .slice none 0 0 ↔ (L = [] ∧ v0 = .slice none 0 0)) ∧ w5.ownsRow 0 61 4 fv m (fcells (P ++ L))) := ⟨hnt, htl, hmk, hLe, hme, hmL, hniv, hown⟩
          clear hnt htl hmk hbl hbs hLe hme hown hsame hgr hniv hmL
          go_wp2_with fail
          refine (fromF_any fv m (P ++ L) (by omega) HR.out.2.2.2.2.2.1 w5 HR.out.2.2.2.2.2.2.2).mono ?_
          rintro e w6 ⟨gb, rfl, hgn, _, _, hgf, hb6⟩
          have HG : Hid ((gb = none ↔ fv = .slice none 0 0) ∧ (0 < m → ∃ b, gb = some ⟨b, 0, none⟩ ∧ b < w6.heap.size ∧ ∀ i, i < m → FAt w6 b i (nth (P ++ L) i))) := ⟨hgn, hgf⟩
          have HB6 : Hid (Below w.heap.size w w6) := HB5.out.trans (hb6.mono HB5.out.size)
          clear hgn hgf hb6
          go_wp2_with fail
          refine (cloneF_any a0 n0 c0 P hn0 w6 (HI.out.2.2.later HB6.out)).mono ?_
          rintro e w7 ⟨v1, rfl, hv1, hvf1, hvo1, hb7⟩
          have HV1 : Hid ((v1 = .slice none 0 0 ↔ a0 = none) ∧ (∀ f, v1.ownBlock = some f → w6.heap.size ≤ f ∧ f < w7.heap.size) ∧ w7.ownsRow 0 40 4 v1 n0 (fcells P) ∧ Below w6.heap.size w6 w7) := ⟨hv1, hvf1, hvo1, hb7⟩
          have HB7 : Hid (Below w.heap.size w w7) := HB6.out.trans (hb7.mono HB6.out.size)
          clear hv1 hvf1 hvo1 hb7
          go_wp2_with fail
          refine (blockM w v1 n0 (fcells P) b off n cap q K M ans HSM.out.2 hn0 hq hK HR.out.2.1 HR.out.1 HR.out.2.2.1 w7 HB7.out HF.out HV1.out.2.2.1 (fun f hf => Nat.le_trans HB6.out.size (HV1.out.2.1 f hf).1)).mono ?_
          rintro e w8 ⟨wv, rfl, hb2s⟩
          rw [← HR.out.2.2.2.1] at hb2s
          have hown8 := hb2s.own
          have hniw := nil_iff hown8 hb2s.same
          rw [← HR.out.2.2.2.2.1, ← fcells_append] at hown8
          obtain ⟨wa, wc, rfl, hwn, hwf⟩ := own_shape hown8 HR.out.2.2.2.2.2.1
          have HB8 : Hid (Below w.heap.size w w8) := hb2s.below HB7.out (fun f hf => Nat.le_trans HB6.out.size (HV1.out.2.1 f hf).1)
          have HB68 : Hid (Below w6.heap.size w6 w8) := hb2s.below HV1.out.2.2.2 (fun f hf => (HV1.out.2.1 f hf).1)
          have hnn : gb.isNone = wa.isNone := by
            have h1 : gb = none ↔ wa = none := by
              rw [HG.out.1, hwn, hniw, HR.out.2.2.2.2.2.2.1, HV0.out.1, HV1.out.1]
            cases gb <;> cases wa <;> simp at h1 ⊢
          have HWF : Hid (0 < m → ∃ d, wa = some ⟨d, 0, none⟩ ∧ d < w8.heap.size ∧ ∀ i, i < m → FAt w8 d i (nth (P ++ L) i)) := hwf
          clear hb2s hown8 hniw hwn hwf
          have HNN : Hid (gb.isNone = wa.isNone) := hnn
          clear hnn
          obtain ⟨p, hp⟩ : ∃ p, p = q + 1 + K := ⟨_, rfl⟩
          have HP : Hid (p = q + 1 + K) := hp
          have hpi : (p : Int) - (q : Int) - 1 = (K : Int) := by omega
          have hpn : p ≤ n := by omega
          have hqp : q + 1 ≤ p := by omega
          clear hp hK
          go_wp2_with fail
          refine (blockEnd b off n cap q p M hn hq hqp hpn w8 (fun i hi => (HF.out i hi).later HB8.out) (fun i h1 h2 => by
            have h3 := HR.out.2.1 (i - (q + 1)) (by have := HP.out; omega)
            rw [show q + 1 + (i - (q + 1)) = i by omega] at h3
            exact h3) (fun h => by
            have h3 := HR.out.1 (by have := HP.out; omega)
            rw [← HP.out] at h3
            exact h3)).mono ?_
          rintro e w9 ⟨rfl, hb9⟩
          have HB9 : Hid (Below w8.heap.size w8 w9) := hb9
          clear hb9
          have hnil1 := fun w => Lib.run_eql_slice_nil (P := Try.prog) w 25 40 gb m m 0 0 Try.underlying25
          have hnil2 := fun w => Lib.run_eql_slice_nil (P := Try.prog) w 25 40 wa m wc 0 0 Try.underlying25
          have hKK : ((K : Int) != (K : Int)) = false := by simp
          have hbq : (gb.isNone == wa.isNone) = true := by rw [HNN.out]; simp
          go_wp2_with fail
          refine (same_any gb wa m m wc (P ++ L) (by omega) w9 (fun h0 => by
            obtain ⟨b1, h1, h2, h3⟩ := HG.out.2 h0
            obtain ⟨d1, h4, h5, h6⟩ := HWF.out h0
            exact ⟨b1, d1, h1, h4, fun i hi => ((h3 i hi).later HB68.out).later HB9.out, fun i hi => (h6 i hi).later HB9.out⟩)).mono ?_
          rintro e w10 ⟨rfl, kk, rfl⟩
          have HBE : Hid (Below w.heap.size w (w9.drewN kk)) := below_drewN kk (HB8.out.trans (HB9.out.mono HB8.out.size))
          go_wp2
          go_ret
          exact ⟨rfl, HBE.out⟩

end Go.Proofs.Qxb6601521a
