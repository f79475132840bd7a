/-
  THE WALK of 'resultFaults' (history.go).
-/
import Derived.Test.Qxb6601521aFind
import Derived.Test.Qxb6601521aModel
import Derived.Deep.AppendLies
import Derived.Maps.Range
namespace Go.Proofs.Qxb6601521a
open Go.RowKit
set_option linter.unusedVariables false

theorem grown_of_below {w w' : World} (h : Below w.heap.size w w') : w.grownBy w' none := ⟨h.os, h.tape, h.output, h.size, fun k hk _ => h.block k hk⟩
theorem below_of_grown {w w' : World} (h : w.grownBy w' none) : Below w.heap.size w w' := ⟨h.os, h.tape, h.output, h.size, fun k hk => h.block k hk (by simp)⟩

/-- A message of the copy, while a row below it grows. -/
theorem Out.grown {w w' : World} {g i : Nat} {m : Msg} {row : Option Nat} (h : Out w g i m) (hg : w.grownBy w' row) (hr : ∀ f, row = some f → f < g) : Out w' g i m := by
  have hg0 : g < w.heap.size := by simpa using World.block_lt_of_cell? w _ h.f0
  have hne : ∀ b, g ≤ b → some b ≠ row := fun b hb e => by have := hr b e.symm; omega
  have hc : ∀ b o, g ≤ b → b < w.heap.size → w'.cell? ⟨b, o, none⟩ = w.cell? ⟨b, o, none⟩ := fun b o h1 h2 => World.cell?_of_block (w := w) (hg.block b h2 (hne b h1))
  obtain ⟨A, h2, h3⟩ := h.f2
  refine ⟨(hc g _ (Nat.le_refl _) hg0).trans h.f0, ⟨A, (hc g _ (Nat.le_refl _) hg0).trans h2, ?_⟩, (hc g _ (Nat.le_refl _) hg0).trans h.f3⟩
  rcases h3 with h3 | ⟨b, rfl, h4, h5, h6⟩
  · exact .inl h3
  · exact .inr ⟨b, rfl, h4, Nat.lt_of_lt_of_le h5 hg.size, fun j hj f hf => (hc b _ (by omega) h5).trans (h6 j hj f hf)⟩

/-- What the walk holds: the faults' row, the marks' row, and that nothing else has turned. -/
structure Base (w wr : World) (fv0 fv : Value) (n0 : Nat) (xs0 : List Value) (c : Nat) (ans : Nat → Bool) (L : List Flt) : Prop where
  own : wr.ownsRow 0 61 4 fv (n0 + L.length) (xs0 ++ fcells L)
  row : wr.rowIs w.heap.size 4 c (fun j => .bool (ans j))
  grown : w.grownBy wr fv0.ownBlock
  blk : fv.ownBlock = fv0.ownBlock ∨ ∃ f, fv.ownBlock = some f ∧ w.heap.size < f
  old : ∀ f, fv0.ownBlock = some f → f < w.heap.size
  same : L = [] → fv = fv0

theorem Base.ne {w wr : World} {fv0 fv : Value} {n0 : Nat} {xs0 : List Value} {c : Nat} {ans : Nat → Bool} {L : List Flt} (h : Base w wr fv0 fv n0 xs0 c ans L) : some w.heap.size ≠ fv.ownBlock := by
  intro e
  rcases h.blk with h1 | ⟨f, h1, h2⟩
  · have := h.old _ (h1.symm.trans e.symm)
    omega
  · rw [h1] at e
    injection e with e
    omega
theorem Base.later {w wr w2 : World} {fv0 fv : Value} {n0 : Nat} {xs0 : List Value} {c : Nat} {ans : Nat → Bool} {L : List Flt} (h : Base w wr fv0 fv n0 xs0 c ans L) (hb : Below wr.heap.size wr w2) : Base w w2 fv0 fv n0 xs0 c ans L := by
  refine ⟨h.own.kept (grown_of_below hb) ?_, h.row.of_block (hb.block _ h.row.lt), h.grown.andThen (grown_of_below hb) (by simp), h.blk, h.old, h.same⟩
  cases e : fv.ownBlock with
  | none => exact .inl rfl
  | some f => exact .inr (by simp)
theorem Base.mark {w wr : World} {fv0 fv : Value} {n0 : Nat} {xs0 : List Value} {c : Nat} {ans : Nat → Bool} {L : List Flt} (h : Base w wr fv0 fv n0 xs0 c ans L) (j : Nat) :
    Base w (wr.setCell ⟨w.heap.size, j, none⟩ (.bool true)) fv0 fv n0 xs0 c (upd ans j) L := by
  have hg : wr.grownBy (wr.setCell ⟨w.heap.size, j, none⟩ (.bool true)) (some w.heap.size) := by
    have hb := (Below.refl 0 wr).setCell (p := ⟨w.heap.size, j, none⟩) (Nat.zero_le _) (.bool true)
    exact ⟨hb.os, hb.tape, hb.output, hb.size, fun k hk hne => heap_setCell_other wr _ k _ (by simpa using hne)⟩
  refine ⟨h.own.kept hg ?_, (h.row.set j _).congr fun i hi => ?_, h.grown.andThen hg (fun k hk => .inl (by injection hk with hk; omega)), h.blk, h.old, h.same⟩
  · exact .inr (Ne.symm h.ne)
  · simp only [upd]
    split
    · rfl
    · rfl
theorem Base.fault {w wr w4 : World} {fv0 fv : Value} {n0 gg cap nl : Nat} {xs0 : List Value} {c : Nat} {ans : Nat → Bool} {L : List Flt} {o : Obj} {f : Flt} (h : Base w wr fv0 fv n0 xs0 c ans L) (hnl : nl = n0 + L.length)
    (hown : w4.ownsRow 0 61 4 (.slice (some ⟨gg, 0, none⟩) (nl + 1) cap) (nl + 1) ((xs0 ++ fcells L) ++ f.cells)) (hg : (wr.alloc o).grownBy w4 fv.ownBlock) (hat : fv.ownBlock = some gg ∨ gg = wr.heap.size + 1) :
    Base w w4 fv0 (.slice (some ⟨gg, 0, none⟩) (nl + 1) cap) n0 xs0 c ans (L ++ [f]) := by
  have hlt := h.row.lt
  have hal : wr.grownBy (wr.alloc o) none := grown_of_below ((Below.refl _ _).alloc (Nat.le_refl _) o)
  refine ⟨?_, ?_, ?_, ?_, h.old, fun e => by simp at e⟩
  · rw [fcells_append, ← List.append_assoc]
    have e : n0 + (L ++ [f]).length = nl + 1 := by simp; omega
    rw [e]
    simpa [fcells] using hown
  · refine h.row.of_block ?_
    rw [hg.block _ (by simp; omega) h.ne]
    exact hal.block _ hlt (by simp)
  · refine (h.grown.andThen hal (by simp)).andThen hg fun j hj => ?_
    rcases h.blk with h1 | ⟨f', h1, h2⟩
    · right; rw [← h1]; exact hj
    · left
      rw [h1] at hj
      injection hj with hj
      omega
  · rcases hat with h1 | h1
    · rcases h.blk with h2 | ⟨f', h2, h3⟩
      · left; rw [← h2, h1]; rfl
      · right; exact ⟨f', by rw [← h2, h1]; rfl, h3⟩
    · right; exact ⟨gg, rfl, by omega⟩

theorem Try.info61 : (Try.prog.info? 61).map (fun i => (i.zero, i.size, i.bytes)) = some (some (.agg #[.int .i64 0, .int .i64 0, .int .i64 0, .int .i64 0]), 4, 32) := by kernel_rfl
theorem Try.info4 : (Try.prog.info? 4).map (fun i => (i.zero, i.size, i.bytes)) = some (some (.bool false), 1, 1) := by kernel_rfl

abbrev toolB : ByteArray := { data := #[116, 111, 111, 108] }
abbrev Cof (M : Nat → Msg) (q : Nat) : Nat → ByteArray := fun j => (M q).cs j 0
abbrev Iof (M : Nat → Msg) (q : Nat) : Nat → ByteArray := fun k => (M (q + 1 + k)).id

/-- The walk's relation in the first loop. -/
structure RF (w wr : World) (fv0 fv : Value) (n0 : Nat) (xs0 : List Value) (q : Nat) (M : Nat → Msg) (k : Nat) (ans : Nat → Bool) : Prop where
  base : Base w wr fv0 fv n0 xs0 (M q).cn ans (exE (Cof M q) (Iof M q) (M q).cn q k)
  tools : ∀ k', k' < k → (M (q + 1 + k')).role = toolB
  marks : Marks (Cof M q) (Iof M q) (M q).cn k ans
  bal : trues ans (M q).cn + (exE (Cof M q) (Iof M q) (M q).cn q k).length = k

theorem tool_list : toolB.toList = [116, 111, 111, 108] := by simp [ByteArray.toList_eq]
theorem one_ints (a b c d : Int) : ∀ u ∈ ([.int .i64 a, .int .i64 b, .int .i64 c, .int .i64 d] : List Value), u.oneCell' = true := by simp [Value.oneCell']
theorem SCl.grown {w w' : World} {lo size : Nat} {a : Option Addr} {n : Nat} {s : Nat → Nat → ByteArray} {row : Option Nat} (h : SCl w lo size a n s) (hg : w.grownBy w' row) (hr : ∀ f, row = some f → f < lo) : SCl w' lo size a n s := by
  rcases h with h | ⟨b, rfl, h1, h2, h⟩
  · exact .inl h
  · refine .inr ⟨b, rfl, h1, Nat.lt_of_lt_of_le h2 hg.size, fun j hj f hf => ?_⟩
    rw [World.cell?_of_block (w := w) (hg.block b h2 (fun e => by have := hr b e.symm; omega))]
    exact h j hj f hf
/-- 'Base.fault', laid aside. -/
theorem base_fault {w wr w4 : World} {fv0 fv : Value} {n0 gg cap nl : Nat} {xs0 : List Value} {c : Nat} {ans : Nat → Bool} {L : List Flt} {o : Obj} {f : Flt} (h : Base w wr fv0 fv n0 xs0 c ans L) (hnl : nl = n0 + L.length)
    (hown : w4.ownsRow 0 61 4 (.slice (some ⟨gg, 0, none⟩) (nl + 1) cap) (nl + 1) ((xs0 ++ fcells L) ++ f.cells)) (hg : (wr.alloc o).grownBy w4 fv.ownBlock) (hat : fv.ownBlock = some gg ∨ gg = wr.heap.size + 1) :
    Hid (Base w w4 fv0 (.slice (some ⟨gg, 0, none⟩) (nl + 1) cap) n0 xs0 c ans (L ++ [f])) := h.fault hnl hown hg hat
/-- A result that answers no call. -/
theorem RF.fault {w wr w4 : World} {fv0 fv fv4 : Value} {n0 : Nat} {xs0 : List Value} {q : Nat} {M : Nat → Msg} {k : Nat} {ans : Nat → Bool} {kind : Int} {p : Nat} (h : RF w wr fv0 fv n0 xs0 q M k ans) (hp : p = q + 1 + k)
    (hb : Base w w4 fv0 fv4 n0 xs0 (M q).cn ans (exE (Cof M q) (Iof M q) (M q).cn q k ++ [⟨kind, p, q, 0⟩])) (ht : (M p).role = toolB) (hall : ∀ j, j < (M q).cn → Cof M q j = (M p).id → ans j = true)
    (hk : kind = if 0 < cnt (Cof M q) (M p).id (M q).cn then 2 else 1) : RF w w4 fv0 fv4 n0 xs0 q M (k + 1) ans := by
  subst hp
  obtain ⟨h1, h2⟩ := marks_none h.marks hall
  have he : exE (Cof M q) (Iof M q) (M q).cn q (k + 1) = exE (Cof M q) (Iof M q) (M q).cn q k ++ [⟨kind, ((q + 1 + k : Nat) : Int), q, 0⟩] := by
    simp only [exE]
    rw [if_neg h2, hk]
    have e : ((q + 1 + k : Nat) : Int) = (q : Int) + 1 + k := by omega
    rw [e]
  refine ⟨by rw [he]; exact hb, fun k' hk' => ?_, h1, ?_⟩
  · by_cases e : k' = k
    · subst e; exact ht
    · exact h.tools k' (by omega)
  · rw [he]
    have := h.bal
    simp only [List.length_append, List.length_cons, List.length_nil]
    omega
/-- A result that answers a call. -/
theorem RF.mark {w wr w2 : World} {fv0 fv : Value} {n0 : Nat} {xs0 : List Value} {q : Nat} {M : Nat → Msg} {k : Nat} {ans : Nat → Bool} {p j : Nat} (h : RF w wr fv0 fv n0 xs0 q M k ans) (hp : p = q + 1 + k)
    (hb : Base w w2 fv0 fv n0 xs0 (M q).cn ans (exE (Cof M q) (Iof M q) (M q).cn q k)) (ht : (M p).role = toolB) (hj : j < (M q).cn) (hx : Cof M q j = (M p).id) (hno : ans j = false) (hall : ∀ j', j' < j → Cof M q j' = (M p).id → ans j' = true) :
    RF w (w2.setCell ⟨w.heap.size, j, none⟩ (.bool true)) fv0 fv n0 xs0 q M (k + 1) (upd ans j) := by
  subst hp
  obtain ⟨h1, h2⟩ := marks_some h.marks hj hx hno hall
  have he : exE (Cof M q) (Iof M q) (M q).cn q (k + 1) = exE (Cof M q) (Iof M q) (M q).cn q k := by
    simp only [exE]
    rw [if_pos h2]
  refine ⟨by rw [he]; exact hb.mark j, fun k' hk' => ?_, h1, ?_⟩
  · by_cases e : k' = k
    · subst e; exact ht
    · exact h.tools k' (by omega)
  · rw [he, trues_upd hno _ hj]
    have := h.bal
    omega

/-- What it answers. -/
def RFPost (e : Ending) (w w' : World) (fv0 : Value) (n0 : Nat) (xs0 : List Value) (n q : Nat) (M : Nat → Msg) : Prop :=
  ∃ (fv : Value) (K : Nat) (ans : Nat → Bool), e = .returned (.tuple #[fv, .int .i64 (K : Int)]) ∧ q + 1 + K ≤ n ∧ (q + 1 + K < n → (M (q + 1 + K)).role ≠ toolB) ∧ (∀ k', k' < K → (M (q + 1 + k')).role = toolB) ∧
    Marks (Cof M q) (Iof M q) (M q).cn K ans ∧ trues ans (M q).cn + (exE (Cof M q) (Iof M q) (M q).cn q K).length = K ∧
    Base w w' fv0 fv n0 xs0 (M q).cn ans (exE (Cof M q) (Iof M q) (M q).cn q K ++ misE ans ((q + 1 + K : Nat) : Int) q (M q).cn)

set_option maxRecDepth 100000 in
set_option maxHeartbeats 40000000 in
theorem resF (fv0 : Value) (n0 : Nat) (xs0 : List Value) (g n q : Nat) (M : Nat → Msg) (hsm : Small n M) (hn0 : n0 ≤ 1048576) (hq : q < n) (w : World) (hown : w.ownsRow 0 61 4 fv0 n0 xs0) (hf : ∀ f, fv0.ownBlock = some f → f < g) (hout : ∀ i, i < n → Out w g i (M i)) :
    Calls Try.prog 33 #[fv0, .slice (some ⟨g, 0, none⟩) n n, .int .i64 (q : Int)] w fun e w' => RFPost e w w' fv0 n0 xs0 n q M := by
  have HO : Hid ((∀ i, i < n → Out w g i (M i)) ∧ (∀ f, fv0.ownBlock = some f → f < g) ∧ w.ownsRow 0 61 4 fv0 n0 xs0) := ⟨hout, hf, hown⟩
  have hn := hsm.1
  have hc := (hsm.2 q hq).1
  obtain ⟨A, hA, hS⟩ := (hout q hq).f2
  have hgw : g < w.heap.size := by simpa using World.block_lt_of_cell? w _ hA
  obtain ⟨i0, hi, hz0, hz1, hz2⟩ := info_parts Try.info61
  obtain ⟨c, hce⟩ : ∃ c, c = (M q).cn := ⟨_, rfl⟩
  rw [← hce] at hA hc hS
  have HCE : Hid (c = (M q).cn) := hce
  have HS : Hid (SCl w (g + 1) 4 A c (M q).cs) := hS
  clear hout hf hown hS hsm hce
  have hmk := run_make_row' (P := Try.prog) 76 4 (.bool false) 1 Try.underlying76 Try.info4 rfl .i64 .i64 c (by omega) (by omega)
  go_enter Try.func33, Try.ntmps33
  go_upto_block 0 with fail
  clear hmk hA
  go_cut [0, 10] (fun fv i wx => ∃ (p : Nat) (ans : Nat → Bool), q + 1 ≤ p ∧ p ≤ n ∧ i = .int .i64 (p : Int) ∧ (p < n → (M p).role ≠ toolB) ∧ RF w wx fv0 fv n0 xs0 q M (p - (q + 1)) ans)
  case first =>
   go_wp2_with fail
   go_loopg [0, 10] (n - (q + 1)) (fun gk fv i wr => ∃ (p : Nat) (ans : Nat → Bool), gk = n - p ∧ q + 1 ≤ p ∧ p ≤ n ∧ i = .int .i64 (p : Int) ∧ RF w wr fv0 fv n0 xs0 q M (p - (q + 1)) ans)
   case atStart =>
     have e := HCE.out
     subst e
     refine ⟨q + 1, fun _ => false, by omega, by omega, by omega, by go_num, ?_⟩
     rw [Nat.sub_self]
     refine ⟨⟨by simpa [exE, fcells] using HO.out.2.2.alloc _, World.rowIs_made w (.bool false) _ 4, ?_, .inl rfl, fun f hf => ?_, fun _ => rfl⟩, fun k' hk' => by omega, marks_zero _ _ _, by rw [trues_false]; rfl⟩
     · exact (grown_of_below ((Below.refl _ _).alloc (Nat.le_refl _) _)).but _
     · have := HO.out.2.1 f hf
       omega
   case round =>
     obtain ⟨p, ans, hg, hqp, hp, rfl, hrf⟩ := hrel
     have HG : Hid (gk = n - p) := hg
     obtain ⟨k, hpk⟩ : ∃ k, p = q + 1 + k := ⟨p - (q + 1), by omega⟩
     have HP : Hid (p = q + 1 + k) := hpk
     have hk0 : p - (q + 1) = k := by omega
     rw [hk0] at hrf
     have HR : Hid (RF w wr fv0 u0 n0 xs0 q M k ans) := hrf
     have hwr : w.heap.size < wr.heap.size := hrf.base.row.lt
     clear hg hrf hpk hk0
     by_cases hlt : p < n
     · have HOr : Out wr g p (M p) := (HO.out.1 p hlt).grown HR.out.base.grown HO.out.2.1
       obtain ⟨mm, hmm⟩ : ∃ mm, mm = M p := ⟨_, rfl⟩
       rw [← hmm] at HOr
       have HMM : Hid (mm = M p) := hmm
       clear hmm
       have r0 := HOr.f0
       have r3 := HOr.f3
       clear HOr
       by_cases hrole : mm.role = toolB
       · have hb := beq_of_eq hrole
         rw [tool_list] at hb
         have HT : Hid (mm.role = toolB) := hrole
         clear hrole
         have hSC : SCl wr (g + 1) 4 A c (M q).cs := HS.out.grown HR.out.base.grown (fun f hf => by have := HO.out.2.1 f hf; omega)
         have HSC : Hid (SCl wr (g + 1) 4 A c (M q).cs) := hSC
         clear hSC
         have HBx : Hid (Below wr.heap.size wr (wr.alloc (.cells #[.string mm.id] 9))) := (Below.refl _ _).alloc (Nat.le_refl _) _
         go_wp2_with fail
         clear r0 r3 hb
         refine (unans_any A c (g + 1) w.heap.size (M q).cs ans mm.id hc _ (HSC.out.later (Nat.le_refl _) HBx.out) (by rw [HCE.out]; exact (HR.out.base.later HBx.out).row)).mono ?_
         rintro e w2 ⟨r, rfl, hr, hb2⟩
         have hidc : w2.cell? ⟨wr.heap.size, 0, none⟩ = some (.string mm.id) := (hb2.cell (by simp)).trans (box_cell _ _ _ rfl)
         have HB2 : Hid (Base w w2 fv0 u0 n0 xs0 (M q).cn ans (exE (Cof M q) (Iof M q) (M q).cn q k)) := (HR.out.base.later HBx.out).later hb2
         have HS2 : Hid (SCl w2 (g + 1) 4 A c (M q).cs) := (HSC.out.later (Nat.le_refl _) HBx.out).later (Nat.le_refl _) hb2
         clear hb2
         rcases hr with ⟨rfl, hall⟩ | ⟨j, rfl, hj, hx, hno, hall⟩
         · have HAL : Hid (∀ j, j < c → (M q).cs j 0 = mm.id → ans j = true) := hall
           clear hall
           have HID : Hid (w2.cell? ⟨wr.heap.size, 0, none⟩ = some (.string mm.id)) := hidc
           clear hidc
           go_wp2_with fail
           refine (contains_any A c (g + 1) wr.heap.size (M q).cs mm.id hc w2 HS2.out HID.out).mono ?_
           rintro e w3 ⟨t, rfl, ht, hb3⟩
           have HB3 : Hid (Base w w3 fv0 u0 n0 xs0 (M q).cn ans (exE (Cof M q) (Iof M q) (M q).cn q k)) := HB2.out.later hb3
           clear hb3
           obtain ⟨nl, hnl⟩ : ∃ nl, nl = n0 + (exE (Cof M q) (Iof M q) (M q).cn q k).length := ⟨_, rfl⟩
           have HNL : Hid (nl = n0 + (exE (Cof M q) (Iof M q) (M q).cn q k).length) := hnl
           have hnlb : nl ≤ 2097152 := by
             have := exE_length (Cof M q) (Iof M q) (M q).cn q k
             have := HP.out
             omega
           clear hnl
           rcases ht with ⟨rfl, hct⟩ | ⟨rfl, hct⟩
           · have HCT : Hid (∀ j, j < c → (M q).cs j 0 ≠ mm.id) := hct
             clear hct
             have HOWN : Hid (World.ownsRow (w3.alloc (.cells #[.int .i64 1, .int .i64 (p : Int), .int .i64 (q : Int), .int .i64 0] 61)) 0 61 4 u0 nl (xs0 ++ fcells (exE (Cof M q) (Iof M q) (M q).cn q k))) := by
               have h := HB3.out.own.alloc (.cells #[.int .i64 1, .int .i64 (p : Int), .int .i64 (q : Int), .int .i64 0] 61)
               rw [← HNL.out] at h
               exact h
             have HNEW : Hid (∀ (jj : Nat) (u : Value), ([.int .i64 1, .int .i64 (p : Int), .int .i64 (q : Int), .int .i64 0] : List Value)[jj]? = some u → World.cell? (w3.alloc (.cells #[.int .i64 1, .int .i64 (p : Int), .int .i64 (q : Int), .int .i64 0] 61)) ((⟨w3.heap.size, 0, none⟩ : Addr).add jj) = some u) := fun jj u hu => by
               rw [Addr.add_lit, Nat.zero_add]
               exact box_cell _ _ _ (by simpa using hu)
             go_wp2_with (at_builtin; refine wpList_append_lies _ rfl (.tmp 57) (.tmp 62) 27 rfl 0 61 i0 _ 4 32 Try.underlying27 hi hz0 hz1 hz2 rfl (by omega) u0 nl (xs0 ++ fcells (exE (Cof M q) (Iof M q) (M q).cn q k)) rfl HOWN.out ⟨w3.heap.size, 0, none⟩ 1 1 [.int .i64 1, .int .i64 (p : Int), .int .i64 (q : Int), .int .i64 0] rfl rfl HNEW.out (one_ints _ _ _ _) (by omega) (by unfold maxLen; omega) (by omega) (Nat.zero_le _) (w3.heap.size + 1) (by simp) ?_; intro gg cap2 w4 hown4 hgrow4 hat4 hlt4; have HBF := base_fault (f := ⟨1, (p : Int), q, 0⟩) HB3.out HNL.out hown4 hgrow4 hat4; clear hown4 hgrow4 hat4 hlt4; generalize Value.slice (some ⟨gg, 0, none⟩) (nl + 1) cap2 = fv4 at HBF ⊢)
             go_roundg (n - (p + 1))
             case rel =>
               have e := HCE.out
               subst e
               have e := HMM.out
               subst e
               refine ⟨p + 1, ans, rfl, by omega, by omega, by go_num, ?_⟩
               rw [show p + 1 - (q + 1) = k + 1 by have := HP.out; omega]
               exact HR.out.fault HP.out HBF.out HT.out HAL.out (by rw [cnt_zero (n := (M q).cn) (f := Cof M q) HCT.out]; rfl)
             case measure =>
               have := HG.out
               omega
           · have HCT : Hid (∃ j, j < c ∧ (M q).cs j 0 = mm.id) := hct
             clear hct
             have HOWN : Hid (World.ownsRow (w3.alloc (.cells #[.int .i64 2, .int .i64 (p : Int), .int .i64 (q : Int), .int .i64 0] 61)) 0 61 4 u0 nl (xs0 ++ fcells (exE (Cof M q) (Iof M q) (M q).cn q k))) := by
               have h := HB3.out.own.alloc (.cells #[.int .i64 2, .int .i64 (p : Int), .int .i64 (q : Int), .int .i64 0] 61)
               rw [← HNL.out] at h
               exact h
             have HNEW : Hid (∀ (jj : Nat) (u : Value), ([.int .i64 2, .int .i64 (p : Int), .int .i64 (q : Int), .int .i64 0] : List Value)[jj]? = some u → World.cell? (w3.alloc (.cells #[.int .i64 2, .int .i64 (p : Int), .int .i64 (q : Int), .int .i64 0] 61)) ((⟨w3.heap.size, 0, none⟩ : Addr).add jj) = some u) := fun jj u hu => by
               rw [Addr.add_lit, Nat.zero_add]
               exact box_cell _ _ _ (by simpa using hu)
             go_wp2_with (at_builtin; refine wpList_append_lies _ rfl (.tmp 57) (.tmp 62) 27 rfl 0 61 i0 _ 4 32 Try.underlying27 hi hz0 hz1 hz2 rfl (by omega) u0 nl (xs0 ++ fcells (exE (Cof M q) (Iof M q) (M q).cn q k)) rfl HOWN.out ⟨w3.heap.size, 0, none⟩ 1 1 [.int .i64 2, .int .i64 (p : Int), .int .i64 (q : Int), .int .i64 0] rfl rfl HNEW.out (one_ints _ _ _ _) (by omega) (by unfold maxLen; omega) (by omega) (Nat.zero_le _) (w3.heap.size + 1) (by simp) ?_; intro gg cap2 w4 hown4 hgrow4 hat4 hlt4; have HBF := base_fault (f := ⟨2, (p : Int), q, 0⟩) HB3.out HNL.out hown4 hgrow4 hat4; clear hown4 hgrow4 hat4 hlt4; generalize Value.slice (some ⟨gg, 0, none⟩) (nl + 1) cap2 = fv4 at HBF ⊢)
             go_roundg (n - (p + 1))
             case rel =>
               have e := HCE.out
               subst e
               have e := HMM.out
               subst e
               refine ⟨p + 1, ans, rfl, by omega, by omega, by go_num, ?_⟩
               rw [show p + 1 - (q + 1) = k + 1 by have := HP.out; omega]
               exact HR.out.fault HP.out HBF.out HT.out HAL.out (by obtain ⟨j, h1, h2⟩ := HCT.out; rw [if_pos (cnt_pos (f := Cof M q) h1 h2)])
             case measure =>
               have := HG.out
               omega
         · have HAL : Hid (j < c ∧ (M q).cs j 0 = mm.id ∧ ans j = false ∧ ∀ j', j' < j → (M q).cs j' 0 = mm.id → ans j' = true) := ⟨hj, hx, hno, hall⟩
           clear hx hno hall
           have hdst : ∃ v, w2.cell? ⟨w.heap.size, j, none⟩ = some v := ⟨_, HB2.out.row.cell (by rw [← HCE.out]; exact hj)⟩
           obtain ⟨v0, hdst⟩ := hdst
           have hfz := HB2.out.row.frozen j
           go_wp2
           go_roundg (n - (p + 1))
           case rel =>
             have e := HCE.out
             subst e
             have e := HMM.out
             subst e
             refine ⟨p + 1, upd ans j, rfl, by omega, by omega, by go_num, ?_⟩
             rw [show p + 1 - (q + 1) = k + 1 by have := HP.out; omega]
             exact HR.out.mark HP.out HB2.out HT.out HAL.out.1 HAL.out.2.1 HAL.out.2.2.1 HAL.out.2.2.2
           case measure =>
             have := HG.out
             omega
       · have hb := beq_of_ne hrole
         rw [tool_list] at hb
         have HT : Hid (mm.role ≠ toolB) := hrole
         clear hrole
         go_wp2
         go_meet
         case rel => exact ⟨p, ans, hqp, hp, rfl, (fun _ => by rw [← HMM.out]; exact HT.out), by rw [show p - (q + 1) = k by have := HP.out; omega]; exact HR.out⟩
     · go_wp2
       go_meet
       case rel => exact ⟨p, ans, hqp, hp, rfl, (fun h => by omega), by rw [show p - (q + 1) = k by have := HP.out; omega]; exact HR.out⟩
  case rest =>
    obtain ⟨p, ans, hqp, hp, rfl, hnt, hrf⟩ := hcut
    rename World => w5
    rename Value => x
    obtain ⟨k, hpk⟩ : ∃ k, p = q + 1 + k := ⟨p - (q + 1), by omega⟩
    have HP : Hid (p = q + 1 + k) := hpk
    have hk0 : p - (q + 1) = k := by omega
    rw [hk0] at hrf
    have HR : Hid (RF w w5 fv0 u0 n0 xs0 q M k ans ∧ (p < n → (M p).role ≠ toolB)) := ⟨hrf, hnt⟩
    clear hrf hpk hk0 hnt
    go_wp2
    go_loopg [0, 66] c (fun gk fv i wr => ∃ (j : Nat), gk = c - j ∧ j ≤ c ∧ i = .int .i64 (j : Int) ∧ Base w wr fv0 fv n0 xs0 (M q).cn ans (exE (Cof M q) (Iof M q) (M q).cn q k ++ misE ans (p : Int) q j))
    case atStart => exact ⟨0, by omega, by omega, rfl, by simpa [misE] using HR.out.1.base⟩
    case round =>
      obtain ⟨j, hg, hj, rfl, hbs⟩ := hrel
      have HG : Hid (gk = c - j) := hg
      have HB3 : Hid (Base w wr fv0 u0 n0 xs0 (M q).cn ans (exE (Cof M q) (Iof M q) (M q).cn q k ++ misE ans (p : Int) q j)) := hbs
      have hwr : w.heap.size < wr.heap.size := hbs.row.lt
      clear hg hbs
      by_cases hjl : j < c
      · have ga : wr.cell? ⟨w.heap.size, j, none⟩ = some (.bool (ans j)) := HB3.out.row.cell (by rw [← HCE.out]; exact hjl)
        obtain ⟨nl, hnl⟩ : ∃ nl, nl = n0 + (exE (Cof M q) (Iof M q) (M q).cn q k ++ misE ans (p : Int) q j).length := ⟨_, rfl⟩
        have HNL : Hid (nl = n0 + (exE (Cof M q) (Iof M q) (M q).cn q k ++ misE ans (p : Int) q j).length) := hnl
        have hnlb : nl ≤ 4194304 := by
          have h1 := exE_length (Cof M q) (Iof M q) (M q).cn q k
          have h2 := misE_length ans (p : Int) q j
          have h3 := HP.out
          rw [List.length_append] at hnl
          omega
        clear hnl
        by_cases ha : ans j = true
        · have HAN : Hid (ans j = true) := ha
          rw [ha] at ga
          clear ha
          go_wp2
          go_roundg (c - (j + 1))
          case rel => exact ⟨j + 1, rfl, by omega, by go_num, by simp only [misE]; rw [if_pos HAN.out]; exact HB3.out⟩
          case measure =>
            have := HG.out
            omega
        · have han : ans j = false := by simpa using ha
          have HAN : Hid (ans j = false) := han
          rw [han] at ga
          clear ha han
          have HOWN : Hid (World.ownsRow (wr.alloc (.cells #[.int .i64 3, .int .i64 (p : Int), .int .i64 (q : Int), .int .i64 (j : Int)] 61)) 0 61 4 u0 nl (xs0 ++ fcells (exE (Cof M q) (Iof M q) (M q).cn q k ++ misE ans (p : Int) q j))) := by
            have h := HB3.out.own.alloc (.cells #[.int .i64 3, .int .i64 (p : Int), .int .i64 (q : Int), .int .i64 (j : Int)] 61)
            rw [← HNL.out] at h
            exact h
          have HNEW : Hid (∀ (jj : Nat) (u : Value), ([.int .i64 3, .int .i64 (p : Int), .int .i64 (q : Int), .int .i64 (j : Int)] : List Value)[jj]? = some u → World.cell? (wr.alloc (.cells #[.int .i64 3, .int .i64 (p : Int), .int .i64 (q : Int), .int .i64 (j : Int)] 61)) ((⟨wr.heap.size, 0, none⟩ : Addr).add jj) = some u) := fun jj u hu => by
            rw [Addr.add_lit, Nat.zero_add]
            exact box_cell _ _ _ (by simpa using hu)
          go_wp2_with (at_builtin; refine wpList_append_lies _ rfl (.tmp 73) (.tmp 78) 27 rfl 0 61 i0 _ 4 32 Try.underlying27 hi hz0 hz1 hz2 rfl (by omega) u0 nl (xs0 ++ fcells (exE (Cof M q) (Iof M q) (M q).cn q k ++ misE ans (p : Int) q j)) rfl HOWN.out ⟨wr.heap.size, 0, none⟩ 1 1 [.int .i64 3, .int .i64 (p : Int), .int .i64 (q : Int), .int .i64 (j : Int)] rfl rfl HNEW.out (one_ints _ _ _ _) (by omega) (by unfold maxLen; omega) (by omega) (Nat.zero_le _) (wr.heap.size + 1) (by simp) ?_; intro gg cap2 w4 hown4 hgrow4 hat4 hlt4; have HBF := base_fault (f := ⟨3, (p : Int), q, (j : Int)⟩) HB3.out HNL.out hown4 hgrow4 hat4; clear hown4 hgrow4 hat4 hlt4; generalize Value.slice (some ⟨gg, 0, none⟩) (nl + 1) cap2 = fv4 at HBF ⊢)
          go_roundg (c - (j + 1))
          case rel => exact ⟨j + 1, rfl, by omega, by go_num, by simp only [misE]; rw [if_neg (by rw [HAN.out]; simp), ← List.append_assoc]; exact HBF.out⟩
          case measure =>
            have := HG.out
            omega
      · have HJ : Hid (j = c) := by simp [Hid]; omega
        go_wp2
        go_ret2
        have e := HJ.out
        subst e
        have e := HP.out
        subst e
        refine ⟨u0, k, ans, ?_, hp, HR.out.2, HR.out.1.tools, HR.out.1.marks, HR.out.1.bal, ?_⟩
        · have e1 : ((q + 1 + k : Nat) : Int) - (q : Int) - 1 = (k : Int) := by omega
          simp only [e1]
          rfl
        · have := HB3.out
          rw [HCE.out] at this
          exact this

end Go.Proofs.Qxb6601521a
