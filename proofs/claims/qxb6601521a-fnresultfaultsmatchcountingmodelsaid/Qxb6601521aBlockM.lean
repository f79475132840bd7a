/-
  THE WALK of zzBlockModel (laws_root_b1.go).
-/
import Derived.Test.Qxb6601521aCount
import Derived.Test.Qxb6601521aRes
namespace Go.Proofs.Qxb6601521a
open Go.RowKit
set_option linter.unusedVariables false

/-- What the model's walk holds: its row, and that nothing else has turned. -/
structure B2 (w wr : World) (fv0 fv : Value) (n0 : Nat) (xs0 : List Value) (L : List Flt) : Prop where
  own : wr.ownsRow 0 40 4 fv (n0 + L.length) (xs0 ++ fcells L)
  grown : w.grownBy wr fv0.ownBlock
  blk : fv.ownBlock = fv0.ownBlock ∨ ∃ f, fv.ownBlock = some f ∧ w.heap.size ≤ f
  same : L = [] → fv = fv0
theorem B2.later {w wr w2 : World} {fv0 fv : Value} {n0 : Nat} {xs0 : List Value} {L : List Flt} (h : B2 w wr fv0 fv n0 xs0 L) (hb : Below wr.heap.size wr w2) : B2 w w2 fv0 fv n0 xs0 L := by
  refine ⟨h.own.kept (grown_of_below hb) ?_, h.grown.andThen (grown_of_below hb) (by simp), h.blk, h.same⟩
  cases e : fv.ownBlock with
  | none => exact .inl rfl
  | some f => exact .inr (by simp)
theorem b2_fault {w wr w4 : World} {fv0 fv : Value} {n0 gg cap nl : Nat} {xs0 : List Value} {L : List Flt} {o : Obj} {f : Flt} (h : B2 w wr fv0 fv n0 xs0 L) (hnl : nl = n0 + L.length)
    (hown : w4.ownsRow 0 40 4 (.slice (some ⟨gg, 0, none⟩) (nl + 1) cap) (nl + 1) ((xs0 ++ fcells L) ++ f.cells)) (hg : (wr.alloc o).grownBy w4 fv.ownBlock) (hat : fv.ownBlock = some gg ∨ gg = wr.heap.size + 1) :
    Hid (B2 w w4 fv0 (.slice (some ⟨gg, 0, none⟩) (nl + 1) cap) n0 xs0 (L ++ [f])) := by
  have hal : wr.grownBy (wr.alloc o) none := grown_of_below ((Below.refl _ _).alloc (Nat.le_refl _) o)
  refine ⟨?_, ?_, ?_, fun e => by simp at e⟩
  · rw [fcells_append, ← List.append_assoc]
    have e : n0 + (L ++ [f]).length = nl + 1 := by simp; omega
    rw [e]
    simpa [fcells] using hown
  · refine (h.grown.andThen hal (by simp)).andThen hg fun j hj => ?_
    rcases h.blk with h1 | ⟨f', h1, h2⟩
    · right; rw [← h1]; exact hj
    · left
      rw [h1] at hj
      injection hj with hj
      omega
  · rcases hat with h1 | h1
    · rcases h.blk with h2 | ⟨f', h2, h3⟩
      · left; rw [← h2, h1]; rfl
      · right; exact ⟨f', by rw [← h2, h1]; rfl, h3⟩
    · right; exact ⟨gg, rfl, by have := h.grown.size; omega⟩
theorem B2.below {W w wr : World} {fv0 fv : Value} {n0 : Nat} {xs0 : List Value} {L : List Flt} (h : B2 w wr fv0 fv n0 xs0 L) (hb : Below W.heap.size W w) (hf : ∀ f, fv0.ownBlock = some f → W.heap.size ≤ f) : Below W.heap.size W wr := by
  refine hb.trans ⟨h.grown.os, h.grown.tape, h.grown.output, h.grown.size, fun k hk => h.grown.block k (Nat.lt_of_lt_of_le hk hb.size) (fun e => ?_)⟩
  have := hf k e.symm
  omega

/-- What it answers. -/
def BMPost (e : Ending) (w w' : World) (fv0 : Value) (n0 : Nat) (xs0 : List Value) (L : List Flt) : Prop := ∃ fv, e = .returned fv ∧ B2 w w' fv0 fv n0 xs0 L

set_option maxRecDepth 100000 in
set_option maxHeartbeats 40000000 in
theorem blockM (W : World) (fv0 : Value) (n0 : Nat) (xs0 : List Value) (b off n cap q K : Nat) (M : Nat → Msg) (ans : Nat → Bool) (hsm : Small n M) (hn0 : n0 ≤ 1048576) (hq : q < n) (hK : q + 1 + K ≤ n) (htl : ∀ k', k' < K → (M (q + 1 + k')).role = toolB) (hnt : q + 1 + K < n → (M (q + 1 + K)).role ≠ toolB)
    (hmk : Marks (Cof M q) (Iof M q) (M q).cn K ans) (w : World) (hbW : Below W.heap.size W w) (hF : ∀ i, i < n → Fields W ⟨b, off, none⟩ i (M i)) (hown : w.ownsRow 0 40 4 fv0 n0 xs0) (hf : ∀ f, fv0.ownBlock = some f → W.heap.size ≤ f) :
    Calls Try.prog 26 #[fv0, .slice (some ⟨b, off, none⟩) n cap, .int .i64 (q : Int)] w fun e w' => BMPost e w w' fv0 n0 xs0 (exE (Cof M q) (Iof M q) (M q).cn q K ++ misE ans ((q + 1 + K : Nat) : Int) q (M q).cn) := by
  have HO : Hid ((∀ i, i < n → Fields W ⟨b, off, none⟩ i (M i)) ∧ (∀ f, fv0.ownBlock = some f → W.heap.size ≤ f) ∧ Below W.heap.size W w ∧ Marks (Cof M q) (Iof M q) (M q).cn K ans ∧ w.ownsRow 0 40 4 fv0 n0 xs0) := ⟨hF, hf, hbW, hmk, hown⟩
  have HT : Hid ((∀ k', k' < K → (M (q + 1 + k')).role = toolB) ∧ (q + 1 + K < n → (M (q + 1 + K)).role ≠ toolB)) := ⟨htl, hnt⟩
  have hn := hsm.1
  have hc := (hsm.2 q hq).1
  have hA := ((hF q hq).later hbW).f2
  rw [Addr.add_lit, ← Nat.add_assoc] at hA
  clear hF hf hbW hmk hown htl hnt hsm
  obtain ⟨i0, hi, hz0, hz1, hz2⟩ := info_parts Try.info40
  obtain ⟨p, hp⟩ : ∃ p, p = q + 1 + K := ⟨_, rfl⟩
  have HP : Hid (p = q + 1 + K) := hp
  have hpn : p ≤ n := by omega
  have hqp : q + 1 ≤ p := by omega
  clear hp
  obtain ⟨c, hce⟩ : ∃ c, c = (M q).cn := ⟨_, rfl⟩
  have HCE : Hid (c = (M q).cn) := hce
  rw [← hce] at hA hc
  obtain ⟨ca, hcae⟩ : ∃ ca, ca = (M q).ca := ⟨_, rfl⟩
  obtain ⟨cc, hcce⟩ : ∃ cc, cc = (M q).cc := ⟨_, rfl⟩
  rw [← hcae, ← hcce] at hA
  have HSI : Hid (∀ wx, Below W.heap.size W wx → SIn wx 4 ca c cc (M q).cs) := fun wx hb => by
    rw [hce, hcae, hcce]
    exact ((HO.out.1 q hq).later hb).calls
  clear hce hcae hcce
  go_enter Try.func26, Try.ntmps26
  go_wp2_with fail
  clear hA
  refine (blockEnd b off n cap q p M hn hq hqp hpn w (fun i hi => (HO.out.1 i hi).later HO.out.2.2.1) (fun i h1 h2 => by
    have h3 := HT.out.1 (i - (q + 1)) (by have := HP.out; omega)
    rw [show q + 1 + (i - (q + 1)) = i by omega] at h3
    exact h3) (fun h => by
    have h3 := HT.out.2 (by have := HP.out; omega)
    rw [← HP.out] at h3
    exact h3)).mono ?_
  rintro e w2 ⟨rfl, hb2⟩
  have HB2 : Hid (B2 w w2 fv0 fv0 n0 xs0 []) := ⟨by simpa [fcells] using (World.ownsRow.kept HO.out.2.2.2.2 (grown_of_below hb2) (by cases e : fv0.ownBlock with | none => exact .inl rfl | some f => exact .inr (by simp))), (grown_of_below hb2).but _, .inl rfl, fun _ => rfl⟩
  clear hb2
  go_wp2_with fail
  go_loopg [0, 9] K (fun gk fv i wr => ∃ (j k : Nat), gk = p - j ∧ j = q + 1 + k ∧ j ≤ p ∧ i = .int .i64 (j : Int) ∧ B2 w wr fv0 fv n0 xs0 (exE (Cof M q) (Iof M q) (M q).cn q k))
  case atStart => exact ⟨q + 1, 0, by have := HP.out; omega, rfl, by omega, by go_num, HB2.out⟩
  case round =>
    obtain ⟨j, k, hg, hjk, hj, rfl, hb3⟩ := hrel
    have HG : Hid (gk = p - j ∧ j = q + 1 + k) := ⟨hg, hjk⟩
    have HB3 : Hid (B2 w wr fv0 u0 n0 xs0 (exE (Cof M q) (Iof M q) (M q).cn q k)) := hb3
    have HBW : Hid (Below W.heap.size W wr) := hb3.below HO.out.2.2.1 HO.out.2.1
    clear hg hjk hb3
    by_cases hlt : j < p
    · have q3 := ((HO.out.1 j (by omega)).later HBW.out).f3
      obtain ⟨id, hid⟩ : ∃ id, id = (M j).id := ⟨_, rfl⟩
      rw [← hid] at q3
      have HID : Hid (id = Iof M q k) := by rw [hid, HG.out.2]; rfl
      clear hid
      rw [Addr.add_lit, ← Nat.add_assoc] at q3
      have hjn : j < n := by omega
      have hqj : q + 1 ≤ j := by have := HG.out; omega
      go_wp2_with fail
      clear q3
      refine (countCall ca c cc c (M q).cs id hc (Nat.le_refl _) wr (HSI.out wr HBW.out)).mono ?_
      rintro e w3 ⟨rfl, rfl⟩
      go_wp2_with fail
      refine (countRes b off n cap (q + 1) j _ (by omega) M id hn hqj (by omega) wr (fun i hi => (HO.out.1 i hi).later HBW.out)).mono ?_
      rintro e w3 ⟨rfl, rfl⟩
      obtain ⟨x1, hx1⟩ : ∃ x, x = cnt (fun j => (M q).cs j 0) id c := ⟨_, rfl⟩
      obtain ⟨x2, hx2⟩ : ∃ x, x = cnt (fun k => (M (q + 1 + k)).id) id (j - (q + 1)) := ⟨_, rfl⟩
      rw [← hx1, ← hx2]
      have HX : Hid (x1 = cnt (Cof M q) (Iof M q k) (M q).cn ∧ x2 = cnt (Iof M q) (Iof M q k) k) := by
        refine ⟨by rw [hx1, HID.out, HCE.out], ?_⟩
        rw [hx2, HID.out, show j - (q + 1) = k by have := HG.out; omega]
      clear hx1 hx2
      obtain ⟨nl, hnl⟩ : ∃ nl, nl = n0 + (exE (Cof M q) (Iof M q) (M q).cn q k).length := ⟨_, rfl⟩
      have HNL : Hid (nl = n0 + (exE (Cof M q) (Iof M q) (M q).cn q k).length) := hnl
      have hnlb : nl ≤ 2097152 := by
        have := exE_length (Cof M q) (Iof M q) (M q).cn q k
        have := HG.out
        omega
      clear hnl
      by_cases ht : x2 < x1
      · have HTT : Hid (x2 < x1) := ht
        go_wp2
        go_roundg (p - (j + 1))
        case rel => exact ⟨j + 1, k + 1, rfl, by have := HG.out; omega, by omega, by go_num, by simp only [exE]; rw [← HX.out.1, ← HX.out.2, if_pos HTT.out]; exact HB3.out⟩
        case measure =>
          have := HG.out
          omega
      · have HTT : Hid (¬ x2 < x1) := ht
        by_cases h0 : 0 < x1
        · have HH : Hid (0 < x1) := h0
          have HOWN : Hid (World.ownsRow (wr.alloc (.cells #[.int .i64 2, .int .i64 (j : Int), .int .i64 (q : Int), .int .i64 0] 40)) 0 40 4 u0 nl (xs0 ++ fcells (exE (Cof M q) (Iof M q) (M q).cn q k))) := by
            have h := HB3.out.own.alloc (.cells #[.int .i64 2, .int .i64 (j : Int), .int .i64 (q : Int), .int .i64 0] 40)
            rw [← HNL.out] at h
            exact h
          have HNEW : Hid (∀ (jj : Nat) (u : Value), ([.int .i64 2, .int .i64 (j : Int), .int .i64 (q : Int), .int .i64 0] : List Value)[jj]? = some u → World.cell? (wr.alloc (.cells #[.int .i64 2, .int .i64 (j : Int), .int .i64 (q : Int), .int .i64 0] 40)) ((⟨wr.heap.size, 0, none⟩ : Addr).add jj) = some u) := fun jj u hu => by
            rw [Addr.add_lit, Nat.zero_add]
            exact box_cell _ _ _ (by simpa using hu)
          go_wp2_with (at_builtin; refine wpList_append_lies _ rfl (.tmp 50) (.tmp 55) 25 rfl 0 40 i0 _ 4 32 Try.underlying25 hi hz0 hz1 hz2 rfl (by omega) u0 nl (xs0 ++ fcells (exE (Cof M q) (Iof M q) (M q).cn q k)) rfl HOWN.out ⟨wr.heap.size, 0, none⟩ 1 1 [.int .i64 2, .int .i64 (j : Int), .int .i64 (q : Int), .int .i64 0] rfl rfl HNEW.out (one_ints _ _ _ _) (by omega) (by unfold maxLen; omega) (by omega) (Nat.zero_le _) (wr.heap.size + 1) (by simp) ?_; intro gg cap2 w4 hown4 hgrow4 hat4 hlt4; have HBF := b2_fault (f := ⟨2, (j : Int), q, 0⟩) HB3.out HNL.out hown4 hgrow4 hat4; clear hown4 hgrow4 hat4 hlt4; generalize Value.slice (some ⟨gg, 0, none⟩) (nl + 1) cap2 = fv4 at HBF ⊢)
          go_roundg (p - (j + 1))
          case rel => exact ⟨j + 1, k + 1, rfl, by have := HG.out; omega, by omega, by go_num, by simp only [exE]; rw [← HX.out.1, ← HX.out.2, if_neg HTT.out, if_pos HH.out, show (q : Int) + 1 + (k : Int) = (j : Int) by have := HG.out; omega]; exact HBF.out⟩
          case measure =>
            have := HG.out
            omega
        · have HH : Hid (¬ 0 < x1) := h0
          have HOWN : Hid (World.ownsRow (wr.alloc (.cells #[.int .i64 1, .int .i64 (j : Int), .int .i64 (q : Int), .int .i64 0] 40)) 0 40 4 u0 nl (xs0 ++ fcells (exE (Cof M q) (Iof M q) (M q).cn q k))) := by
            have h := HB3.out.own.alloc (.cells #[.int .i64 1, .int .i64 (j : Int), .int .i64 (q : Int), .int .i64 0] 40)
            rw [← HNL.out] at h
            exact h
          have HNEW : Hid (∀ (jj : Nat) (u : Value), ([.int .i64 1, .int .i64 (j : Int), .int .i64 (q : Int), .int .i64 0] : List Value)[jj]? = some u → World.cell? (wr.alloc (.cells #[.int .i64 1, .int .i64 (j : Int), .int .i64 (q : Int), .int .i64 0] 40)) ((⟨wr.heap.size, 0, none⟩ : Addr).add jj) = some u) := fun jj u hu => by
            rw [Addr.add_lit, Nat.zero_add]
            exact box_cell _ _ _ (by simpa using hu)
          go_wp2_with (at_builtin; refine wpList_append_lies _ rfl (.tmp 50) (.tmp 55) 25 rfl 0 40 i0 _ 4 32 Try.underlying25 hi hz0 hz1 hz2 rfl (by omega) u0 nl (xs0 ++ fcells (exE (Cof M q) (Iof M q) (M q).cn q k)) rfl HOWN.out ⟨wr.heap.size, 0, none⟩ 1 1 [.int .i64 1, .int .i64 (j : Int), .int .i64 (q : Int), .int .i64 0] rfl rfl HNEW.out (one_ints _ _ _ _) (by omega) (by unfold maxLen; omega) (by omega) (Nat.zero_le _) (wr.heap.size + 1) (by simp) ?_; intro gg cap2 w4 hown4 hgrow4 hat4 hlt4; have HBF := b2_fault (f := ⟨1, (j : Int), q, 0⟩) HB3.out HNL.out hown4 hgrow4 hat4; clear hown4 hgrow4 hat4 hlt4; generalize Value.slice (some ⟨gg, 0, none⟩) (nl + 1) cap2 = fv4 at HBF ⊢)
          go_roundg (p - (j + 1))
          case rel => exact ⟨j + 1, k + 1, rfl, by have := HG.out; omega, by omega, by go_num, by simp only [exE]; rw [← HX.out.1, ← HX.out.2, if_neg HTT.out, if_neg HH.out, show (q : Int) + 1 + (k : Int) = (j : Int) by have := HG.out; omega]; exact HBF.out⟩
          case measure =>
            have := HG.out
            omega
    · have HJ : Hid (j = p) := by simp [Hid]; omega
      have HKK : Hid (k = K) := by have h1 := HJ.out; have h2 := HG.out.2; have h3 := HP.out; simp only [Hid]; omega
      go_wp2_with fail
      go_loopg [0, 13] c (fun gk fv i wx => ∃ (t : Nat), gk = c - t ∧ t ≤ c ∧ i = .int .i64 (t : Int) ∧ B2 w wx fv0 fv n0 xs0 (exE (Cof M q) (Iof M q) (M q).cn q k ++ misE ans (p : Int) q t))
      case atStart => exact ⟨0, by omega, by omega, rfl, by simpa [misE] using HB3.out⟩
      case round =>
        clear HB3 HBW
        obtain ⟨t, hg, htc, rfl, hb3⟩ := hrel
        rename World => wx
        have HG2 : Hid (gk = c - t) := hg
        have HBW : Hid (Below W.heap.size W wx) := hb3.below HO.out.2.2.1 HO.out.2.1
        have HB3 : Hid (B2 w wx fv0 u0 n0 xs0 (exE (Cof M q) (Iof M q) (M q).cn q k ++ misE ans (p : Int) q t)) := hb3
        clear hg hb3
        by_cases htl : t < c
        · obtain ⟨cb, coff, rfl, hcb, hcl⟩ := sin_some (HSI.out wx HBW.out) (by omega) (by omega)
          have g0 := hcl t htl 0 (by omega)
          rw [Nat.add_zero] at g0
          clear hcl
          obtain ⟨id, hid⟩ : ∃ id, id = (M q).cs t 0 := ⟨_, rfl⟩
          rw [← hid] at g0
          have HID : Hid (id = Cof M q t) := hid
          clear hid
          go_wp2_with fail
          clear g0
          refine (countCall (some ⟨cb, coff, none⟩) c cc t (M q).cs id hc (Nat.le_of_lt htl) wx (HSI.out wx HBW.out)).mono ?_
          rintro e w3 ⟨rfl, rfl⟩
          go_wp2_with fail
          refine (countRes b off n cap (q + 1) p _ (by omega) M id hn hqp hpn wx (fun i hi => (HO.out.1 i hi).later HBW.out)).mono ?_
          rintro e w3 ⟨rfl, rfl⟩
          obtain ⟨x1, hx1⟩ : ∃ x, x = cnt (fun j => (M q).cs j 0) id t := ⟨_, rfl⟩
          obtain ⟨x2, hx2⟩ : ∃ x, x = cnt (fun k => (M (q + 1 + k)).id) id (p - (q + 1)) := ⟨_, rfl⟩
          rw [← hx1, ← hx2]
          have HX : Hid (ans t = true ↔ x1 < x2) := by
            have h1 := HO.out.2.2.2.1 t (by rw [← HCE.out]; exact htl)
            rw [hx1, hx2, HID.out, show p - (q + 1) = K by have := HP.out; omega]
            exact h1
          clear hx1 hx2
          obtain ⟨nl, hnl⟩ : ∃ nl, nl = n0 + (exE (Cof M q) (Iof M q) (M q).cn q k ++ misE ans (p : Int) q t).length := ⟨_, rfl⟩
          have HNL : Hid (nl = n0 + (exE (Cof M q) (Iof M q) (M q).cn q k ++ misE ans (p : Int) q t).length) := hnl
          have hnlb : nl ≤ 4194304 := by
            have h1 := exE_length (Cof M q) (Iof M q) (M q).cn q k
            have h2 := misE_length ans (p : Int) q t
            have h3 := HG.out
            rw [List.length_append] at hnl
            omega
          clear hnl
          by_cases ht : x1 < x2
          · have HTT : Hid (ans t = true) := HX.out.2 ht
            go_wp2
            go_roundg (c - (t + 1))
            case rel => exact ⟨t + 1, rfl, by omega, by go_num, by simp only [misE]; rw [if_pos HTT.out]; exact HB3.out⟩
            case measure =>
              have := HG2.out
              omega
          · have HTT : Hid (¬ ans t = true) := fun h => ht (HX.out.1 h)
            have HOWN : Hid (World.ownsRow (wx.alloc (.cells #[.int .i64 3, .int .i64 (p : Int), .int .i64 (q : Int), .int .i64 (t : Int)] 40)) 0 40 4 u0 nl (xs0 ++ fcells (exE (Cof M q) (Iof M q) (M q).cn q k ++ misE ans (p : Int) q t))) := by
              have h := HB3.out.own.alloc (.cells #[.int .i64 3, .int .i64 (p : Int), .int .i64 (q : Int), .int .i64 (t : Int)] 40)
              rw [← HNL.out] at h
              exact h
            have HNEW : Hid (∀ (jj : Nat) (u : Value), ([.int .i64 3, .int .i64 (p : Int), .int .i64 (q : Int), .int .i64 (t : Int)] : List Value)[jj]? = some u → World.cell? (wx.alloc (.cells #[.int .i64 3, .int .i64 (p : Int), .int .i64 (q : Int), .int .i64 (t : Int)] 40)) ((⟨wx.heap.size, 0, none⟩ : Addr).add jj) = some u) := fun jj u hu => by
              rw [Addr.add_lit, Nat.zero_add]
              exact box_cell _ _ _ (by simpa using hu)
            go_wp2_with (at_builtin; refine wpList_append_lies _ rfl (.tmp 79) (.tmp 84) 25 rfl 0 40 i0 _ 4 32 Try.underlying25 hi hz0 hz1 hz2 rfl (by omega) u0 nl (xs0 ++ fcells (exE (Cof M q) (Iof M q) (M q).cn q k ++ misE ans (p : Int) q t)) rfl HOWN.out ⟨wx.heap.size, 0, none⟩ 1 1 [.int .i64 3, .int .i64 (p : Int), .int .i64 (q : Int), .int .i64 (t : Int)] rfl rfl HNEW.out (one_ints _ _ _ _) (by omega) (by unfold maxLen; omega) (by omega) (Nat.zero_le _) (wx.heap.size + 1) (by simp) ?_; intro gg cap2 w4 hown4 hgrow4 hat4 hlt4; have HBF := b2_fault (f := ⟨3, (p : Int), q, (t : Int)⟩) HB3.out HNL.out hown4 hgrow4 hat4; clear hown4 hgrow4 hat4 hlt4; generalize Value.slice (some ⟨gg, 0, none⟩) (nl + 1) cap2 = fv4 at HBF ⊢)
            go_roundg (c - (t + 1))
            case rel => exact ⟨t + 1, rfl, by omega, by go_num, by simp only [misE]; rw [if_neg HTT.out, ← List.append_assoc]; exact HBF.out⟩
            case measure =>
              have := HG2.out
              omega
        · have HTC : Hid (t = c) := by simp [Hid]; omega
          go_wp2
          go_ret
          refine ⟨u0, rfl, ?_⟩
          have h1 := HB3.out
          rw [HTC.out, HKK.out, HP.out, HCE.out] at h1
          exact h1

end Go.Proofs.Qxb6601521a
