/-
  THE WALK of FnResultFaultsBalanceResultsAgainstCalls (laws_root_b1.go).
-/
import Derived.Test.Qxb6601521aFrom
import Derived.Test.Qxb6601521aBytes8
namespace Go.Proofs.Qxb6601521a
open Go.RowKit
set_option linter.unusedVariables false

def FF2 (e : Ending) (w w' : World) (fv : Value) (m : Nat) (L : List Flt) : Prop :=
  ∃ gb : Option Addr, e = .returned (.slice gb m m) ∧ (gb = none ↔ fv = .slice none 0 0) ∧ (gb = none → m = 0) ∧ (∀ b, gb = some b → ∃ k, b = ⟨k, 0, none⟩) ∧ (0 < m → ∃ b, gb = some ⟨b, 0, none⟩ ∧ b < w'.heap.size ∧ ∀ i, i < m → FAt w' b i (nth L i)) ∧ Below w.heap.size w w'
theorem fromF_any (fv : Value) (m : Nat) (L : List Flt) (hm : m ≤ 8388608) (hL : m = L.length) (w : World) (h : w.ownsRow 0 61 4 fv m (fcells L)) :
    Calls Try.prog 11 #[fv] w fun e w' => FF2 e w w' fv m L := by
  rcases h.2 with ⟨rfl, rfl⟩ | ⟨g, cap, cur, rfl, _⟩
  · refine (fromF_nil w).mono fun e w' ⟨he, hw⟩ => ?_
    subst hw
    exact ⟨none, he, ⟨fun _ => rfl, fun _ => rfl⟩, fun _ => rfl, (fun b hb => by cases hb), (fun h => by omega), Below.refl _ _⟩
  · refine (fromF_some g m cap L hm w (own_fat h hL)).mono fun e w' ⟨b, he, h1, h2, h3, h4⟩ => ?_
    exact ⟨some ⟨b, 0, none⟩, he, ⟨(fun h => by cases h), (fun h => by cases h)⟩, (fun h => by cases h), fun x hx => ⟨b, by injection hx with hx; exact hx.symm⟩, fun _ => ⟨b, rfl, h2, h3⟩, h4⟩

theorem allTools_int (b off n cap lo hi : Nat) (lo' hi' : Int) (e1 : lo' = (lo : Int)) (e2 : hi' = (hi : Int)) (M : Nat → Msg) (hn : n ≤ 1048576) (hlh : lo ≤ hi) (hhi : hi ≤ n) (w : World) (h : ∀ i, i < n → Fields w ⟨b, off, none⟩ i (M i)) (ht : ∀ i, lo ≤ i → i < hi → (M i).role = toolB) :
    Calls Try.prog 19 #[.slice (some ⟨b, off, none⟩) n cap, .int .i64 lo', .int .i64 hi'] w fun e w' => ATPost e w w' true := by
  subst e1
  subst e2
  exact allTools_yes b off n cap lo hi M hn hlh hhi w h ht

/-- The faults of the law, place by place. -/
structure Bal (q K c m ne : Nat) (L : List Flt) : Prop where
  e0 : ∀ i, i < ne → ((nth L i).k = 1 ∨ (nth L i).k = 2) ∧ (q : Int) < (nth L i).a ∧ (nth L i).a ≤ (q : Int) + K ∧ (nth L i).q = q ∧ (nth L i).c = 0
  e1 : ∀ i, i + 1 < ne → (nth L i).a < (nth L (i + 1)).a
  m0 : ∀ i, ne ≤ i → i < m → (nth L i).k = 3 ∧ (nth L i).a = ((q + 1 + K : Nat) : Int) ∧ (nth L i).q = q ∧ 0 ≤ (nth L i).c ∧ (nth L i).c < c
  m1 : ∀ i, ne ≤ i → i + 1 < m → (nth L i).c < (nth L (i + 1)).c
  le : ne ≤ m
  bal : ne + c = K + (m - ne)

theorem bal_of {C ids : Nat → ByteArray} {c q K : Nat} {ans : Nat → Bool} (hb : trues ans c + (exE C ids c q K).length = K) :
    Bal q K c (exE C ids c q K ++ misE ans ((q + 1 + K : Nat) : Int) q c).length (exE C ids c q K).length (exE C ids c q K ++ misE ans ((q + 1 + K : Nat) : Int) q c) := by
  obtain ⟨g1, g2⟩ := goodE C ids c q K
  obtain ⟨h1, h2⟩ := goodM ans ((q + 1 + K : Nat) : Int) q c
  have hm := misE_length ans ((q + 1 + K : Nat) : Int) q c
  refine ⟨fun i hi => ?_, fun i hi => ?_, fun i h0 hi => ?_, fun i h0 hi => ?_, ?_, ?_⟩
  · rw [nth_left hi]; exact g1 i hi
  · rw [nth_left (by omega), nth_left hi]; exact g2 i hi
  · rw [nth_right h0]
    rw [List.length_append] at hi
    exact h1 _ (by omega)
  · rw [nth_right h0, nth_right (by omega)]
    rw [List.length_append] at hi
    have := h2 (i - (exE C ids c q K).length) (by omega)
    rw [show i + 1 - (exE C ids c q K).length = i - (exE C ids c q K).length + 1 by omega]
    exact this
  · rw [List.length_append]; omega
  · rw [List.length_append]; omega

set_option maxRecDepth 100000 in
set_option maxHeartbeats 40000000 in
theorem bal_walk (a : Option Addr) (n cap : Nat) (M : Nat → Msg) (asked : Int) (hn : n ≤ 9223372036854775807) (ha1 : -9223372036854775808 ≤ asked) (ha2 : asked ≤ 9223372036854775807) (hM : ∀ i, Sized (M i)) (w : World) (h : MIn w a n cap M) :
    Calls Try.prog 8 #[.slice a n cap, .int .i64 asked] w fun e w' => ATPost e w w' true := by
  have HI : Hid (MIn w a n cap M ∧ ∀ i, Sized (M i)) := ⟨h, hM⟩
  clear h hM
  go_enter Try.func8, Try.ntmps8
  go_wp2_with fail
  refine (bytes30_any a n cap M asked hn HI.out.2 w HI.out.1).mono ?_
  rintro e w1 ⟨t, rfl, rfl, hsm⟩
  cases t with
  | false =>
    go_wp2
    go_ret
    exact ⟨rfl, Below.refl _ _⟩
  | true =>
    have HSM : Hid (Small n M) := hsm rfl
    clear hsm hn
    have hn : n ≤ 1048576 := HSM.out.1
    go_wp2_with fail
    refine (msgsBytes_any a n cap M 0 HSM.out w HI.out.1).mono ?_
    rintro e w2 ⟨r, rfl, hb2⟩
    have HB2 : Hid (Below w.heap.size w w2) := hb2
    clear hb2
    by_cases hr : 1048576 < r
    · go_wp2
      go_ret
      exact ⟨rfl, HB2.out⟩
    · by_cases h0 : asked < 0
      · go_wp2
        go_ret
        exact ⟨rfl, HB2.out⟩
      · by_cases h1 : (n : Int) ≤ asked
        · go_wp2
          go_ret
          exact ⟨rfl, HB2.out⟩
        · obtain ⟨q, rfl⟩ : ∃ q : Nat, asked = (q : Int) := ⟨asked.toNat, by omega⟩
          have hq : q < n := by omega
          clear h0 h1 ha1 ha2
          obtain ⟨b, off, rfl, hb, hl⟩ := min_some HI.out.1 (by omega)
          have HF : Hid (∀ i, i < n → Fields w ⟨b, off, none⟩ i (M i)) := hl
          clear hl
          go_wp2_with fail
          refine (toMsgs_some b off n cap M HSM.out w2 (fun i hi => (HF.out i hi).later HB2.out)).mono ?_
          rintro e w3 ⟨rfl, hb3, hout⟩
          have HB3 : Hid (Below w2.heap.size w2 w3 ∧ ∀ i, i < n → Out w3 w2.heap.size i (M i)) := ⟨hb3, hout⟩
          clear hb3 hout
          go_wp2_with fail
          refine (zzResF (.slice none 0 0) 0 [] w2.heap.size n q M HSM.out (by omega) hq w3 ⟨rfl, .inl ⟨rfl, rfl⟩⟩ (fun f hf => by simp [Value.ownBlock] at hf) HB3.out.2).mono ?_
          rintro e w4 ⟨fv, K, ans, rfl, hK, hnt, htl, hmk, hbl, hbs⟩
          obtain ⟨c, hce⟩ : ∃ c, c = (M q).cn := ⟨_, rfl⟩
          have HCE : Hid (c = (M q).cn) := hce
          rw [← hce] at hbl hbs
          obtain ⟨L, hLe⟩ : ∃ L, L = exE (Cof M q) (Iof M q) c q K ++ misE ans ((q + 1 + K : Nat) : Int) q c := ⟨_, rfl⟩
          obtain ⟨ne, hne⟩ : ∃ ne, ne = (exE (Cof M q) (Iof M q) c q K).length := ⟨_, rfl⟩
          obtain ⟨m, hme⟩ : ∃ m, m = L.length := ⟨_, rfl⟩
          have hbal := bal_of (C := Cof M q) (ids := Iof M q) (q := q) hbl
          rw [← hLe, ← hne, ← hme] at hbal
          have hown := hbs.own
          rw [← hLe, ← hme] at hown
          simp only [Nat.zero_add, List.nil_append] at hown
          have hcb : c ≤ 1048576 := by rw [hce]; exact (HSM.out.2 q hq).1
          have hKb : K ≤ n := by omega
          have hneb : ne ≤ K := by rw [hne]; exact exE_length _ _ _ _ _
          have hmb : m ≤ 2097152 := by have := hbal.bal; have := hbal.le; omega
          have HB4 : Hid (Below w.heap.size w w4) := (HB2.out.trans (HB3.out.1.mono HB2.out.size)).trans ((below_of_grown hbs.grown).mono (Nat.le_trans HB2.out.size HB3.out.1.size))
          have HBAL : Hid (Bal q K c m ne L) := hbal
          have HT : Hid ((q + 1 + K < n → (M (q + 1 + K)).role ≠ toolB) ∧ (∀ k', k' < K → (M (q + 1 + k')).role = toolB)) := ⟨hnt, htl⟩
          have HOW : Hid (w4.ownsRow 0 61 4 fv m (fcells L) ∧ m = L.length) := ⟨hown, hme⟩
          clear hnt htl hmk hbl hbs hce hLe hne hme hbal hown
          go_wp2_with fail
          refine (fromF_any fv m L (by omega) HOW.out.2 w4 HOW.out.1).mono ?_
          rintro e w5 ⟨gb, rfl, _, hg0, hgs, hgf, hb5⟩
          have HG0 : Hid ((gb = none → m = 0) ∧ (∀ b, gb = some b → ∃ k, b = ⟨k, 0, none⟩) ∧ (0 < m → ∃ b, gb = some ⟨b, 0, none⟩ ∧ b < w5.heap.size ∧ ∀ i, i < m → FAt w5 b i (nth L i))) := ⟨hg0, hgs, hgf⟩
          have HB5 : Hid (Below w.heap.size w w5) := HB4.out.trans (hb5.mono HB4.out.size)
          clear hg0 hgs hgf hb5
          have hq2 : w5.cell? ⟨b, off + q * 8 + 2, none⟩ = some (.slice (M q).ca c (M q).cc) := by
            have h0 := ((HF.out q hq).later HB5.out).f2
            rw [Addr.add_lit, ← Nat.add_assoc, ← HCE.out] at h0
            exact h0
          obtain ⟨q1, hq1⟩ : ∃ q1, q1 = q + 1 := ⟨_, rfl⟩
          have hq1i : (q : Int) + 1 = (q1 : Int) := by omega
          obtain ⟨p, hp⟩ : ∃ p, p = q + 1 + K := ⟨_, rfl⟩
          have hpi : (q1 : Int) + (K : Int) = (p : Int) := by omega
          have hpn : p ≤ n := by omega
          have HP : Hid (p = q + 1 + K ∧ q1 = q + 1) := ⟨hp, hq1⟩
          clear hp hq1 hK
          have hK0 : ¬ (K : Int) < 0 := by omega
          have hpn' : ¬ (n : Int) < (p : Int) := by omega
          go_wp2_with fail
          refine (allTools_yes b off n cap q1 p M hn (by have := HP.out; omega) hpn w5 (fun i hi => (HF.out i hi).later HB5.out) (fun i h1 h2 => by
            have h3 := HT.out.2 (i - (q + 1)) (by have := HP.out; omega)
            rw [show q + 1 + (i - (q + 1)) = i by have := HP.out; omega] at h3
            exact h3)).mono ?_
          rintro e w6 ⟨rfl, hb6⟩
          have HB6 : Hid (Below w5.heap.size w5 w6) := hb6
          clear hb6
          go_upto_region 14 with fail
          go_cut [81] (fun v wx => v = .bool false ∧ Below w5.heap.size w5 wx)
          case first =>
            by_cases hpl : p < n
            · have HF0 : Fields w6 ⟨b, off, none⟩ p (M p) := ((HF.out p hpl).later HB5.out).later HB6.out
              obtain ⟨mm, hmm⟩ : ∃ mm, mm = M p := ⟨_, rfl⟩
              have hbn := beq_of_ne (HT.out.1 (by have := HP.out; omega))
              rw [tool_list, ← HP.out.1, ← hmm] at hbn
              rw [← hmm] at HF0
              clear hmm
              have q0 := HF0.f0
              have q1 := HF0.f1
              have q2 := HF0.f2
              have q3 := HF0.f3
              have q4 := HF0.f4
              have q5 := HF0.f5
              have q6 := HF0.f6
              have q7 := HF0.f7
              clear HF0
              rw [Addr.add_lit] at q0 q1 q2 q3 q4 q5 q6 q7
              rw [← Nat.add_assoc] at q1 q2 q3 q4 q5 q6 q7
              go_wp2_with fail
              clear q0 q1 q2 q3 q4 q5 q6 q7
              refine (isTool_any mm _).mono ?_
              rintro e w7 ⟨rfl, hb7⟩
              have HB7 : Hid (Below w5.heap.size w5 w7) := HB6.out.trans (hb7.mono HB6.out.size)
              rw [hbn]
              clear hb7 hbn
              go_wp2
              go_meet
              case rel => exact ⟨rfl, HB7.out⟩
            · go_wp2
              go_meet
              case rel => exact ⟨rfl, HB6.out⟩
          case rest =>
            obtain ⟨rfl, hb8⟩ := hcut
            rename World => w8
            have HB8 : Hid (Below w5.heap.size w5 w8) := hb8
            clear hb8 hq2
            go_wp2
            go_loopg [9, 10, 11, 12, 13] m (fun gk sx sm sa sc si wx => ∃ (i ex ms : Nat) (la lc : Int), gk = m - i ∧ i ≤ m ∧ si = .int .i64 (i : Int) ∧ sx = .int .i64 (ex : Int) ∧ sm = .int .i64 (ms : Int) ∧ sa = .int .i64 la ∧ sc = .int .i64 lc ∧ ex = min i ne ∧ ms = i - ne ∧ (i < ne → la < (nth L i).a) ∧ (ne ≤ i → i < m → lc < (nth L i).c) ∧ (i ≤ ne → lc = -1) ∧ Below w5.heap.size w5 wx)
            case atStart =>
              refine ⟨0, 0, 0, q, -1, by omega, by omega, rfl, rfl, rfl, rfl, rfl, by omega, by omega, fun h => (HBAL.out.e0 0 h).2.1, fun h1 h2 => ?_, fun _ => rfl, HB8.out⟩
              have := (HBAL.out.m0 0 h1 h2).2.2.2.1
              omega
            case round =>
              obtain ⟨i, ex, ms, la, lc, hg, hi, rfl, rfl, rfl, rfl, rfl, hex, hms, hla, hlc, hl1, hbw⟩ := hrel
              rename World => wx
              have HG : Hid (gk = m - i) := hg
              have HBX : Hid (Below w5.heap.size w5 wx) := hbw
              have HL : Hid (ex = min i ne ∧ ms = i - ne ∧ (i < ne → la < (nth L i).a) ∧ (ne ≤ i → i < m → lc < (nth L i).c) ∧ (i ≤ ne → lc = -1)) := ⟨hex, hms, hla, hlc, hl1⟩
              clear hg hbw hex hms hla hlc hl1
              by_cases hil : i < m
              · obtain ⟨gg, rfl, hgg, hfa⟩ := HG0.out.2.2 (by omega)
                have hf := (hfa i hil).later HBX.out
                have HFN : Hid (∀ i, i < m → FAt w5 gg i (nth L i)) := hfa
                clear hfa
                have q0 := hf.f0
                have q1' := hf.f1
                have q2 := hf.f2
                have q3 := hf.f3
                clear hf
                obtain ⟨at', hat⟩ : ∃ x, x = (nth L i).a := ⟨_, rfl⟩
                obtain ⟨cl, hcl⟩ : ∃ x, x = (nth L i).c := ⟨_, rfl⟩
                rw [← hat] at q1'
                rw [← hcl] at q3
                have HAT : Hid (at' = (nth L i).a ∧ cl = (nth L i).c) := ⟨hat, hcl⟩
                clear hat hcl
                have hexb : ex ≤ 1048576 := by have := HL.out.1; have := HBAL.out.le; omega
                have hmsb : ms ≤ 2097152 := by have := HL.out.2.1; omega
                have hwx : w5.heap.size ≤ wx.heap.size := HBX.out.size
                by_cases hie : i < ne
                · obtain ⟨h1, h2, h3, h4, h5⟩ := HBAL.out.e0 i hie
                  have hlt : la < at' := by have := HL.out.2.2.1 hie; rw [HAT.out.1]; exact this
                  have hap : at' ≤ (q : Int) + (K : Int) := by rw [HAT.out.1]; exact h3
                  have hms0 : ms = 0 := by have := HL.out.2.1; omega
                  have hc0 : cl = 0 := by rw [HAT.out.2]; exact h5
                  rw [h4] at q2
                  rw [hc0] at q3
                  subst hms0
                  clear h2 h3 h4 h5 hmsb
                  have HFIN : Hid (∀ o, ∃ (i' ex' ms' : Nat) (la' lc' : Int), m - (i + 1) = m - i' ∧ i' ≤ m ∧ Value.int .i64 ((i : Int) + 1) = .int .i64 (i' : Int) ∧ Value.int .i64 ((ex : Int) + 1) = .int .i64 (ex' : Int) ∧ Value.int .i64 0 = .int .i64 (ms' : Int) ∧ Value.int .i64 at' = .int .i64 la' ∧ Value.int .i64 lc = .int .i64 lc' ∧ ex' = min i' ne ∧ ms' = i' - ne ∧ (i' < ne → la' < (nth L i').a) ∧ (ne ≤ i' → i' < m → lc' < (nth L i').c) ∧ (i' ≤ ne → lc' = -1) ∧ Below w5.heap.size w5 (wx.alloc o)) := fun o => by
                    have hL := HL.out
                    refine ⟨i + 1, ex + 1, 0, at', lc, rfl, by omega, by go_num, by go_num, rfl, rfl, rfl, by omega, by omega, fun h => ?_, fun h1 h2 => ?_, fun h => ?_, HBX.out.alloc HBX.out.size _⟩
                    · rw [HAT.out.1]
                      exact HBAL.out.e1 i h
                    · have := (HBAL.out.m0 (i + 1) h1 h2).2.2.2.1
                      have := hL.2.2.2.2 (by omega)
                      omega
                    · exact hL.2.2.2.2 (by omega)
                  rcases h1 with h1 | h1
                  · rw [h1] at q0
                    clear h1
                    go_wp2
                    go_roundg (m - (i + 1))
                    case rel => exact HFIN.out _
                    case measure =>
                      have := HG.out
                      omega
                  · rw [h1] at q0
                    clear h1
                    go_wp2
                    go_roundg (m - (i + 1))
                    case rel => exact HFIN.out _
                    case measure =>
                      have := HG.out
                      omega
                · obtain ⟨h1, h2, h3, h4, h5⟩ := HBAL.out.m0 i (by omega) hil
                  have hlt : lc < cl := by have := HL.out.2.2.2.1 (by omega) hil; rw [HAT.out.2]; exact this
                  have hcb2 : cl < (c : Int) := by rw [HAT.out.2]; exact h5
                  have hc0 : 0 ≤ cl := by rw [HAT.out.2]; exact h4
                  have hap : at' = (p : Int) := by rw [HAT.out.1, h2, HP.out.1]
                  rw [h1] at q0
                  rw [hap] at q1'
                  rw [h3] at q2
                  clear h1 h2 h3 h4 h5 hap
                  go_wp2
                  go_roundg (m - (i + 1))
                  case rel =>
                    have hL := HL.out
                    refine ⟨i + 1, ex, ms + 1, la, cl, rfl, by omega, by go_num, rfl, by go_num, rfl, rfl, by omega, by omega, fun h => by omega, fun h1 h2 => ?_, fun h => by omega, HBX.out.alloc HBX.out.size _⟩
                    rw [HAT.out.2]
                    exact HBAL.out.m1 i (by omega) h2
                  case measure =>
                    have := HG.out
                    omega
              · have HN : Hid (i = m) := by simp [Hid]; omega
                have hfin : ((ex : Int) - (ms : Int) == (K : Int) - (c : Int)) = true := by
                  have h1 := HL.out
                  have h2 := HBAL.out.bal
                  have h3 := HBAL.out.le
                  have h4 := HN.out
                  simp
                  omega
                have hexb : ex ≤ 1048576 := by have := HL.out.1; have := HBAL.out.le; omega
                have hmsb : ms ≤ 2097152 := by have := HL.out.2.1; omega
                go_wp2
                go_ret
                exact ⟨rfl, HB5.out.trans (HBX.out.mono HB5.out.size)⟩

end Go.Proofs.Qxb6601521a
