/-
  THE WALK of '(*parts).add' (openai/stream.go).
-/
import Derived.Test.Qxb6600807aPartsA
import Derived.Deep.RegionHeld3
import Derived.Deep.RegionLaw
import Derived.Deep.CutBlock
import Derived.BigRegion
namespace Go.Proofs.Qxb6600807a.Parts
open Go.RowKit Go.Maps
open Find
set_option linter.unusedVariables false

/-- Between the object's steps: few entries, or many, the map as it was; the boxed value lies in block vb. -/
structure Mid (w0 w : World) (B p vb : Nat) (S : Nat → ByteArray) (R : Nat → Value) (n : Nat) (ev : Value) (m : Option Nat) (raw : Value) : Prop where
  ent : Ent w B p S R n ev m
  below : Below B w0 w
  box : w.heap[vb]? = some (.cells #[raw, .pointer none] 55 (0, 0))

theorem ev_shape {w : World} {B p : Nat} {S : Nat → ByteArray} {R : Nat → Value} {n : Nat} {ev : Value} {m : Option Nat} (h : Ent w B p S R n ev m) : ∃ ea en ec, ev = .slice ea en ec := by
  rcases h.own.2 with ⟨h1, h2⟩ | ⟨g, cap, cur, h1, _⟩
  · exact ⟨_, _, _, h1⟩
  · exact ⟨_, _, _, h1⟩

theorem Mp.kept {w w' : World} {B : Nat} {S : Nat → ByteArray} {n : Nat} {m : Option Nat} (h : Mp w B S n m) (hb : ∀ mb es cl, m = some mb → w.heap[mb]? = some (.map es cl) → w'.heap[mb]? = w.heap[mb]?) : Mp w' B S n m := by
  rcases h with h | ⟨h1, mb, rfl, h2, D, ⟨es, cl, h3, h4⟩, h5⟩
  · exact .inl h
  · refine .inr ⟨h1, mb, rfl, h2, D, ⟨es, cl, ?_, h4⟩, h5⟩
    rw [hb mb es cl rfl h3]
    exact h3

theorem heap_alloc_lt (w : World) (o : Obj) {k : Nat} (h : k < w.heap.size) : (w.alloc o).heap[k]? = w.heap[k]? := Below.heap_alloc w o k h

/-- The first entries' slice: made, and stored. -/
theorem mid_made {w w3 : World} {B p : Nat} {S : Nat → ByteArray} {R : Nat → Value} {n : Nat} {m : Option Nat} {raw : Value} (he : Ent w B p S R n (.slice none 0 0) m) (hm : Mp w B S n m) (hn : n = 0)
    (ho : w3.ownsRow B 58 3 (.slice (some ⟨w.heap.size + 1, 0, none⟩) 0 8) 0 []) (hg : (w.alloc (.cells #[raw, .pointer none] 55)).grownBy w3 none) :
    Mid w (w3.setCell ⟨p, 1, none⟩ (.slice (some ⟨w.heap.size + 1, 0, none⟩) 0 8)) B p w.heap.size S R n (.slice (some ⟨w.heap.size + 1, 0, none⟩) n 8) m raw ∧ Mp (w3.setCell ⟨p, 1, none⟩ (.slice (some ⟨w.heap.size + 1, 0, none⟩) 0 8)) B S n m := by
  subst hn
  have hlt := he.lt
  have hb := he.base
  have hk : ∀ k, k < w.heap.size + 1 → w3.heap[k]? = (w.alloc (.cells #[raw, .pointer none] 55)).heap[k]? := fun k hk => hg.block k (by simpa using hk) (by simp)
  have hp : w3.heap[p]? = w.heap[p]? := by rw [hk p (by omega), heap_alloc_lt _ _ hlt]
  obtain ⟨k0, hblk⟩ := he.blk
  refine ⟨⟨?_, ?_, ?_⟩, ?_⟩
  · exact ent_store1 hb ⟨k0, by rw [hp]; exact hblk⟩ ho (by simp [Value.ownBlock]; omega)
  · have hs := hg.size
    simp at hs
    refine Below.setCell ?_ (p := ⟨p, 1, none⟩) hb _
    refine ((Below.refl B w).alloc (by omega) _).grown hg (by simp; omega) (by simp)
  · rw [heap_setCell_other _ _ _ _ (by simp; omega), hk _ (by omega)]
    exact heap_alloc_new w _
  · refine hm.kept fun mb es cl _ h => ?_
    have hmb : mb < w.heap.size := (Array.getElem?_eq_some_iff.1 h).1
    have hne : mb ≠ p := by intro e; subst e; rw [hblk] at h; cases h
    rw [heap_setCell_other _ _ _ _ (by simpa using hne), hk _ (by omega), heap_alloc_lt _ _ hmb]

/-- One entry more: appended, and the new slice stored. -/
theorem mid_appended {w0 w w4 : World} {B p vb : Nat} {S : Nat → ByteArray} {R : Nat → Value} {n g gg cap cap2 : Nat} {m : Option Nat} {s : ByteArray} {raw : Value} {o : Obj} (h : Mid w0 w B p vb S R n (.slice (some ⟨g, 0, none⟩) n cap) m raw) (hm : Mp w B S n m)
    (hs : s = S n) (hr : R n = raw) (ho : w4.ownsRow B 58 3 (.slice (some ⟨gg, 0, none⟩) (n + 1) cap2) (n + 1) (cellsOf S R n ++ [.string s, raw, .pointer none]))
    (hg : (w.alloc o).drew.grownBy w4 (Value.ownBlock (.slice (some ⟨g, 0, none⟩) n cap))) (hat : Value.ownBlock (.slice (some ⟨g, 0, none⟩) n cap) = some gg ∨ gg = w.heap.size + 1) :
    Ent (w4.setCell ⟨p, 1, none⟩ (.slice (some ⟨gg, 0, none⟩) (n + 1) cap2)) B p S R (n + 1) (.slice (some ⟨gg, 0, none⟩) (n + 1) cap2) m ∧ Mp (w4.setCell ⟨p, 1, none⟩ (.slice (some ⟨gg, 0, none⟩) (n + 1) cap2)) B S n m ∧ Below B w0 (w4.setCell ⟨p, 1, none⟩ (.slice (some ⟨gg, 0, none⟩) (n + 1) cap2)) := by
  have hlt := h.ent.lt
  have hb := h.ent.base
  have hgp : g ≠ p := by have := h.ent.apart; simpa [Value.ownBlock] using this
  obtain ⟨hgb, hgl⟩ := h.ent.own.lt g rfl
  simp only [Value.ownBlock] at hg hat
  have hk : ∀ k, k < w.heap.size → k ≠ g → w4.heap[k]? = w.heap[k]? := fun k hk hne => (hg.block k (by simp; omega) (by simpa using hne)).trans (heap_alloc_lt w o hk)
  obtain ⟨k0, hblk⟩ := h.ent.blk
  have hcell : ∃ cur, w.heap[g]? = some (.cells cur 58 (0, 0)) := by
    rcases h.ent.own.2 with ⟨h', _⟩ | ⟨g', cap', cur, h', _, hg', _⟩
    · simp at h'
    · simp at h'
      obtain ⟨rfl, rfl⟩ := h'
      exact ⟨cur, hg'⟩
  refine ⟨?_, ?_, ?_⟩
  · refine ent_store1 (S := S) (R := R) (n := n + 1) hb ⟨k0, by rw [hk p hlt (Ne.symm hgp)]; exact hblk⟩ ?_ ?_
    · simp only [cellsOf]
      rw [hr, ← hs]
      exact ho
    · simp only [Value.ownBlock]
      rcases hat with h' | h'
      · simp at h'; simp; omega
      · simp; omega
  · refine hm.kept fun mb es cl _ hmb => ?_
    have hl : mb < w.heap.size := (Array.getElem?_eq_some_iff.1 hmb).1
    have h1 : mb ≠ p := by intro e; subst e; rw [hblk] at hmb; cases hmb
    have h2 : mb ≠ g := by intro e; subst e; obtain ⟨cur, hc⟩ := hcell; rw [hc] at hmb; cases hmb
    rw [heap_setCell_other _ _ _ _ (by simpa using h1), hk mb hl h2]
  · refine Below.setCell ?_ (p := ⟨p, 1, none⟩) hb _
    refine ((h.below.alloc (by omega) o).drew).grown hg (by simp; omega) ?_
    intro k hk'
    simp at hk'
    omega

/-- 'at[key] = i' at the map's block. -/
theorem map_put {w : World} {mb n : Nat} {D : DataW Unit} {s : ByteArray} {i : Nat} (h : w.ownsMap Try.prog 9 (plainElem Try.prog 3) mb n D) (hn : n ≤ 1048576) (hi : i ≤ 1048576) (hs : s.size ≤ maxLen) :
    ∃ w', (Instr.mapUpdate 50 (.map (some mb)) (.string s) (.int .i64 (i : Int))).run Try.prog w = .ok () w' ∧ w'.ownsMap Try.prog 9 (plainElem Try.prog 3) mb (n + 1) (D.put (.string s.data.toList) (.lit (.int .i64 (i : Int)))) ∧ w.grownBy w' (some mb) :=
  h.update law9 Try.underlying50 (by unfold maxLen; omega) (Go.WideMaps.keyOf_string_mk Try.underlying9 hs) (plainElem_int (H := Unit) Try.underlying3 (a := (i : Int)) (WalkArith.wf_i64 (by omega)))

/-- A store into the map leaves the object and its entries. -/
theorem ent_map {w w' : World} {B p : Nat} {S : Nat → ByteArray} {R : Nat → Value} {n mb k : Nat} {ev : Value} {m : Option Nat} {D : DataW Unit} (h : Ent w B p S R n ev m) (hm : w.ownsMap Try.prog 9 (plainElem Try.prog 3) mb k D) (hg : w.grownBy w' (some mb)) : Ent w' B p S R n ev m := by
  obtain ⟨es, cl, hmb, _⟩ := hm
  obtain ⟨k0, hblk⟩ := h.blk
  have h1 : p ≠ mb := by intro e; subst e; rw [hblk] at hmb; cases hmb
  refine ⟨h.base, ⟨k0, by rw [hg.block p h.lt (by simpa using h1)]; exact hblk⟩, h.own.kept hg ?_⟩
  rcases h.own.2 with ⟨rfl, _⟩ | ⟨g, cap, cur, rfl, _, hg', _⟩
  · exact .inl rfl
  · right
    simp only [Value.ownBlock]
    intro e
    simp at e
    subst e
    rw [hg'] at hmb
    cases hmb

/-- While the map is filled: the first k keys are in it. -/
structure Fill (w0 w : World) (B p mb : Nat) (S : Nat → ByteArray) (R : Nat → Value) (n k : Nat) (ev : Value) : Prop where
  ent : Ent w B p S R n ev (some mb)
  base : B ≤ mb
  below : Below B w0 w
  map : ∃ D : DataW Unit, w.ownsMap Try.prog 9 (plainElem Try.prog 3) mb k D ∧ Reads D S k

theorem fill_start {w0 w : World} {B p : Nat} {S : Nat → ByteArray} {R : Nat → Value} {n : Nat} {ev : Value} {m : Option Nat} (h : Ent w B p S R n ev m) (hb : Below B w0 w) :
    Fill w0 ((w.setCell ⟨p, 2, none⟩ (.map (some w.heap.size))).alloc (.map #[] 0)) B p w.heap.size S R n 0 ev := by
  have hlt := h.lt
  have hbp := h.base
  refine ⟨(ent_store2 h).alloc _, by omega, ?_, .map [], ?_, reads_start S⟩
  · exact (hb.setCell (p := ⟨p, 2, none⟩) hbp _).alloc (by simp; omega) _
  · have := World.ownsMap_made (H := Unit) (w.setCell ⟨p, 2, none⟩ (.map (some w.heap.size))) Try.prog 9 (plainElem Try.prog 3)
    simpa using this

theorem fill_step {w0 w w6 : World} {B p mb : Nat} {S : Nat → ByteArray} {R : Nat → Value} {n k : Nat} {ev : Value} {D : DataW Unit} {o : Obj} (h : Fill w0 w B p mb S R n k ev) (hD : w.ownsMap Try.prog 9 (plainElem Try.prog 3) mb k D) (hr : Reads D S k)
    (ho : w6.ownsMap Try.prog 9 (plainElem Try.prog 3) mb (k + 1) (D.put (.string (S k).data.toList) (.lit (.int .i64 (k : Int))))) (hg : (w.alloc o).drew.grownBy w6 (some mb)) : Fill w0 w6 B p mb S R n (k + 1) ev := by
  have hlt := h.ent.lt
  have hbp := h.ent.base
  have hb := h.base
  refine ⟨ent_map (h.ent.alloc o).drew (hD.alloc o).drew hg, h.base, ?_, _, ho, reads_put hr hD.isMap⟩
  refine ((h.below.alloc (by omega) o).drew).grown hg (by simp; omega) ?_
  intro k hk
  simp at hk
  omega

theorem makeMap_hint (k : Int) (w : World) : (Instr.makeMap 50 (some (.int .i64 k))).run Try.prog w = .ok (.map (some w.heap.size)) (w.alloc (.map #[] 0)) := by
  simp [Instr.makeMap, run_underlying Try.underlying50]
  rfl

set_option maxRecDepth 100000 in
set_option maxHeartbeats 800000 in
theorem add_any (B p : Nat) (S : Nat → ByteArray) (R : Nat → Value) (n : Nat) (ev : Value) (m : Option Nat) (s : ByteArray) (ra : Option Addr) (rl rc : Nat) (hs : s = S n) (hr : R n = .slice ra rl rc) (hsz : ∀ i, (S i).size ≤ maxLen) (hR : ∀ i, ∃ a l c, R i = .slice a l c) (hn : n ≤ 1048576) (w : World)
    (he : Ent w B p S R n ev m) (hm : Mp w B S n m) :
    Calls Try.prog 32 #[.pointer (some ⟨p, 0, none⟩), .string s, .agg #[.slice ra rl rc, .pointer none]] w fun e w' => e = .returned (.tuple #[]) ∧ ∃ ev' m', Ent w' B p S R (n + 1) ev' m' ∧ Mp w' B S (n + 1) m' ∧ Below B w w' := by
  have HK : Hid (s = S n ∧ R n = .slice ra rl rc) := ⟨hs, hr⟩
  have HS : Hid ((∀ i, (S i).size ≤ maxLen) ∧ ∀ i, ∃ a l c, R i = .slice a l c) := ⟨hsz, hR⟩
  have hss : s.size ≤ maxLen := by rw [hs]; exact hsz n
  clear hsz hR
  obtain ⟨ea, en, ec, rfl⟩ := ev_shape he
  have HE : Hid (Ent w B p S R n (.slice ea en ec) m) := he
  have HM : Hid (Mp w B S n m) := hm
  have hlt := he.lt
  have hbp := he.base
  have hc1 := he.cell1
  have hf1 := he.frz 1
  clear hs hr he hm
  have hnil := fun w => Lib.run_eql_slice_nil (P := Try.prog) w 49 58 ea en ec 0 0 Try.underlying49
  go_enter Try.func32, Try.ntmps32
  go_upto_if 12 with fail
  go_cut [] from 8 (fun w' => ∃ g cap, Mid w w' B p w.heap.size S R n (.slice (some ⟨g, 0, none⟩) n cap) m (.slice ra rl rc) ∧ Mp w' B S n m)
  case first =>
    rcases HE.out.own.2 with ⟨h1, h2⟩ | ⟨g, cap, cur, h1, _⟩
    · simp at h1
      obtain ⟨rfl, rfl, rfl⟩ := h1
      obtain ⟨i0, hi, hz0, hz1, hz2⟩ := info_parts Try.info58
      have HN : Hid (n = 0) := h2
      clear h2
      go_wp2_with (at_make; go_loud (refine wpList_make_own _ rfl _ _ 49 rfl B 58 i0 _ 3 Try.underlying49 hi hz0 hz1 _ _ _ 8 rfl rfl rfl (by rw [hz2]; omega) (by unfold maxLen; omega) (by simp; omega) ?_); intro w3 hown3 hgrow3; have HG : Hid (w3.cell? ⟨p, 1, none⟩ = some (.slice none 0 0) ∧ w3.frozen? ⟨p, 1, none⟩ = false) := ⟨(hgrow3.cell_far ⟨p, 1, none⟩ (by simp; omega) (by simp)).trans ((World.cell?_of_block (heap_alloc_lt _ _ hlt)).trans hc1), (hgrow3.frozen_far ⟨p, 1, none⟩ (by simp; omega) (by simp)).trans ((World.frozen?_of_block (heap_alloc_lt _ _ hlt)).trans hf1)⟩; obtain ⟨hg1, hg2⟩ := HG.out)
      have hown3' : w3.ownsRow B 58 3 (.slice (some ⟨w.heap.size + 1, 0, none⟩) 0 8) 0 [] := by simpa using hown3
      have HF := (show Hid _ from mid_made HE.out HM.out HN.out hown3' hgrow3)
      go_meet
      case rel => exact ⟨_, _, by simpa using HF.out.1, by simpa using HF.out.2⟩
    · simp at h1
      obtain ⟨rfl, rfl, rfl⟩ := h1
      go_wp2
      go_meet
      case rel => exact ⟨_, _, ⟨HE.out.alloc _, (Below.refl _ _).alloc (by omega) _, heap_alloc_new w _⟩, HM.out.kept fun mb es cl _ h => heap_alloc_lt _ _ (Array.getElem?_eq_some_iff.1 h).1⟩
  case rest =>
    clear hnil hc1 hf1
    obtain ⟨g, cap, hmid, hmp⟩ := hcut
    have HC : Hid (Mid w wc B p w.heap.size S R n (.slice (some ⟨g, 0, none⟩) n cap) m (.slice ra rl rc) ∧ Mp wc B S n m) := ⟨hmid, hmp⟩
    have hc1 := hmid.ent.cell1
    have hf1 := hmid.ent.frz 1
    have hv0 : wc.cell? ⟨w.heap.size, 0, none⟩ = some (.slice ra rl rc) := by simp [World.cell?, hmid.box]
    have hv1 : wc.cell? ⟨w.heap.size, 1, none⟩ = some (.pointer none) := by simp [World.cell?, hmid.box]
    have hpl := hmid.ent.lt
    have hvl : w.heap.size < wc.heap.size := (Array.getElem?_eq_some_iff.1 hmid.box).1
    have hne : p ≠ w.heap.size := by omega
    have hgp : g ≠ p := by have := hmid.ent.apart; simpa [Value.ownBlock] using this
    have hgl : g < wc.heap.size := (hmid.ent.own.lt g rfl).2
    have HO : Hid (wc.ownsRow B 58 3 (.slice (some ⟨g, 0, none⟩) n cap) n (cellsOf S R n)) := hmid.ent.own
    have hgv : g ≠ w.heap.size := by
      intro e
      rcases hmid.ent.own.2 with ⟨h', _⟩ | ⟨g', cap', cur, h', _, hg, _⟩
      · simp at h'
      · simp at h'
        obtain ⟨rfl, rfl⟩ := h'
        rw [e, hmid.box] at hg
        simp at hg
    clear hmid hmp
    obtain ⟨i0, hi, hz0, hz1, hz2⟩ := info_parts Try.info58
    go_upto_region 3 with fail
    go_cut [] from 8 (fun w' => ∃ g cap, Ent w' B p S R (n + 1) (.slice (some ⟨g, 0, none⟩) (n + 1) cap) m ∧ Mp w' B S n m ∧ Below B w w')
    case first =>
     go_region_law
      ((refine step_append_lies _ (by rfl) _ _ _ (by rfl) B 58 i0 _ 3 48 Try.underlying49 hi hz0 hz1 hz2 rfl (by omega) (.slice (some ⟨g, 0, none⟩) n cap) n (cellsOf S R n) (by rfl) ((HO.out.alloc _).drew) ⟨wc.heap.size, 0, none⟩ 1 1 [.string s, .slice ra rl rc, .pointer none] (by rfl) (by rfl) (World.news_of_block (cs := #[.string s, .slice ra rl rc, .pointer none]) (t := 58) (fr := (0, 0)) (heap_alloc_new wc _)) (by simp [Value.oneCell']) (by omega) (by unfold maxLen; omega) (by omega) (by simp; omega) (wc.heap.size + 1) (by simp) ?_; intro gg cap2 w4 hown4 hgrow4 hat4 hlt4; have hfz4 : w4.frozen? ⟨p, 1, none⟩ = false := (hgrow4.frozen_far ⟨p, 1, none⟩ (by simp; omega) (by simp [Value.ownBlock]; omega)).trans ((World.frozen?_of_block (w := wc) (heap_alloc_lt wc _ hpl)).trans hf1); have hcl4 : w4.cell? ⟨p, 1, none⟩ = some (.slice (some ⟨g, 0, none⟩) n cap) := (hgrow4.cell_far ⟨p, 1, none⟩ (by simp; omega) (by simp [Value.ownBlock]; omega)).trans ((World.cell?_of_block (w := wc) (heap_alloc_lt wc _ hpl)).trans hc1)))
     all_goals
      have HF := (show Hid _ from mid_appended HC.out.1 HC.out.2 HK.out.1 HK.out.2 hown4 hgrow4 hat4)
      go_wp2_with fail
      go_meet
      case rel => exact ⟨gg, cap2, HF.out.1, HF.out.2.1, HF.out.2.2⟩
    case rest =>
      clear hc1 hf1 hv0 hv1 hpl hvl hne hgp hgl HO hgv HC
      obtain ⟨g5, cap5, he5, hm5, hb5⟩ := hcut
      have HC : Hid (Ent wc B p S R (n + 1) (.slice (some ⟨g5, 0, none⟩) (n + 1) cap5) m ∧ Mp wc B S n m ∧ Below B w wc) := ⟨he5, hm5, hb5⟩
      have hc1 := he5.cell1
      have hc2 := he5.cell2
      have hf2 := he5.frz 2
      have hpl := he5.lt
      clear he5 hm5 hb5
      rcases HC.out.2.1 with ⟨hfew, hmn⟩ | ⟨hmany, mb, hmb, hBmb, D, hown, hreads⟩
      · subst hmn
        have hnm := fun w => run_neq_map_nil (P := Try.prog) w 50 9 3 none Try.underlying50
        by_cases h16 : n + 1 ≤ 16
        · go_wp2
          go_end0
          exact ⟨rfl, _, none, HC.out.1, .inl ⟨h16, rfl⟩, HC.out.2.2⟩
        · have hmk := makeMap_hint
          go_wp2
          clear hnm hmk hc1 hc2 hf2
          go_loopw [68] (fun i wr => ∃ k : Nat, i = .int .i64 k ∧ k ≤ n + 1 ∧ Fill w wr B p wc.heap.size S R (n + 1) k (.slice (some ⟨g5, 0, none⟩) (n + 1) cap5)) (fun i _ => n + 1 - (intOf i).toNat)
          case atStart => exact ⟨0, rfl, by omega, fill_start HC.out.1 HC.out.2.2⟩
          case round =>
            obtain ⟨k, rfl, hk, hfill⟩ := hrel
            by_cases hlt : k < n + 1
            · obtain ⟨D, hD, hreads⟩ := hfill.map
              have hat := cellsOf_at S R (n + 1) k hlt
              have q0 : wr.cell? ⟨g5, k * 3, none⟩ = some (.string (S k)) := (hfill.ent.own.cellAt (k * 3) (by omega)).trans hat.1
              have q1 : wr.cell? ⟨g5, k * 3 + 1, none⟩ = some (R k) := (hfill.ent.own.cellAt (k * 3 + 1) (by omega)).trans hat.2.1
              have q2 : wr.cell? ⟨g5, k * 3 + 2, none⟩ = some (.pointer none) := (hfill.ent.own.cellAt (k * 3 + 2) (by omega)).trans hat.2.2
              obtain ⟨ka, kl, kc, hRk⟩ := HS.out.2 k
              rw [hRk] at q1
              have hc2 := hfill.ent.cell2
              have hpl := hfill.ent.lt
              have HF : Hid (Fill w wr B p wc.heap.size S R (n + 1) k (.slice (some ⟨g5, 0, none⟩) (n + 1) cap5) ∧ wr.ownsMap Try.prog 9 (plainElem Try.prog 3) wc.heap.size k D ∧ Reads D S k) := ⟨hfill, hD, hreads⟩
              clear hfill hD hreads hat hRk
              obtain ⟨w6, hrun, hown6, hgrow6⟩ := map_put (w := (wr.alloc (.cells #[.string (S k), .slice ka kl kc, .pointer none] 58)).drew) (s := S k) (i := k) (HF.out.2.1.alloc _).drew (by omega) (by omega) (HS.out.1 k)
              have HG : Hid (Fill w w6 B p wc.heap.size S R (n + 1) (k + 1) (.slice (some ⟨g5, 0, none⟩) (n + 1) cap5)) := fill_step HF.out.1 HF.out.2.1 HF.out.2.2 hown6 hgrow6
              clear hown6 hgrow6
              go_upto_region 11 with fail
              go_region
              all_goals
                go_wp2
                go_roundw
                case rel => exact ⟨k + 1, by go_num, by omega, HG.out⟩
                case measure => simp [intOf]; omega
            · have HF := (show Hid _ from hfill)
              have hkn : Hid (k = n + 1) := by simp [Hid]; omega
              clear hfill
              go_wp2
              go_end0
              obtain rfl := hkn.out
              exact ⟨rfl, _, some wc.heap.size, HF.out.ent, .inr ⟨by omega, _, rfl, HF.out.base, HF.out.map⟩, HF.out.below⟩
      · subst hmb
        have hnm := fun w => run_neq_map_nil (P := Try.prog) w 50 9 3 (some mb) Try.underlying50
        obtain ⟨w6, hrun, hown6, hgrow6⟩ := map_put (w := wc.drew) (s := s) (i := n) hown.drew hn hn hss
        have H6 : Hid (w6.ownsMap Try.prog 9 (plainElem Try.prog 3) mb (n + 1) (D.put (.string s.data.toList) (.lit (.int .i64 (n : Int)))) ∧ wc.drew.grownBy w6 (some mb)) := ⟨hown6, hgrow6⟩
        have HD : Hid (wc.ownsMap Try.prog 9 (plainElem Try.prog 3) mb n D ∧ Reads D S n) := ⟨hown, hreads⟩
        clear hown6 hgrow6 hown hreads
        go_wp2
        go_region
        all_goals
          go_wp2
          go_end0
          exact ⟨rfl, _, some mb, ent_map HC.out.1.drew HD.out.1.drew H6.out.2, .inr ⟨by omega, mb, rfl, hBmb, _, H6.out.1, by rw [HK.out.1]; exact reads_put HD.out.2 HD.out.1.isMap⟩, HC.out.2.2.drew.grown H6.out.2 (by simp; omega) (by intro k hk; simp at hk; omega)⟩

end Go.Proofs.Qxb6600807a.Parts
