/-
  THE WALK of openaiB1AppendUint (laws_openai_b1.go).
-/
import Derived.Test.Qxb6600807aNumA
import Derived.Test.Qxb6600807aDec
import Derived.Test.Qxb6600807aClone
import Derived.WalkLawsBesides
import Derived.Deep.OwnRows
namespace Go.Proofs.Qxb6600807a
open Go.RowKit
open Num
set_option linter.unusedVariables false

/-- What the local array holds: its tail is tl. -/
def bufF (tl : List Int) : Nat → Value := fun i => .int .u8 (if i < 20 - tl.length then 0 else tl.getD (i - (20 - tl.length)) 0)

theorem buf_step {w : World} {b : Nat} {tl : List Int} {c : Int} {k : Nat} (h : w.rowIs b 48 20 (bufF tl)) (hk : k + tl.length + 1 = 20) : (w.setCell ⟨b, k, none⟩ (.int .u8 c)).rowIs b 48 20 (bufF (c :: tl)) := by
  refine (h.set k _).congr fun j hj => ?_
  unfold bufF
  by_cases e : j = k
  · subst e
    rw [if_pos rfl]
    have h1 : ¬ j < 20 - (c :: tl).length := by simp; omega
    have h2 : j - (20 - (c :: tl).length) = 0 := by simp; omega
    rw [if_neg h1, h2]
    rfl
  · rw [if_neg e]
    by_cases e2 : j < k
    · rw [if_pos (by omega), if_pos (by simp; omega)]
    · rw [if_neg (by omega), if_neg (by simp; omega)]
      have : j - (20 - (c :: tl).length) = (j - (20 - tl.length)) + 1 := by simp; omega
      rw [this]
      simp

theorem buf_start (w : World) : (w.alloc (.cells #[.int .u8 0, .int .u8 0, .int .u8 0, .int .u8 0, .int .u8 0, .int .u8 0, .int .u8 0, .int .u8 0, .int .u8 0, .int .u8 0, .int .u8 0, .int .u8 0, .int .u8 0, .int .u8 0, .int .u8 0, .int .u8 0, .int .u8 0, .int .u8 0, .int .u8 0, .int .u8 0] 48)).rowIs w.heap.size 48 20 (bufF []) := by
  refine World.rowIs_alloc w _ 48 (bufF []) ?_
  intro i hi
  have : i = 0 ∨ i = 1 ∨ i = 2 ∨ i = 3 ∨ i = 4 ∨ i = 5 ∨ i = 6 ∨ i = 7 ∨ i = 8 ∨ i = 9 ∨ i = 10 ∨ i = 11 ∨ i = 12 ∨ i = 13 ∨ i = 14 ∨ i = 15 ∨ i = 16 ∨ i = 17 ∨ i = 18 ∨ i = 19 := by simp at hi; omega
  rcases this with rfl | rfl | rfl | rfl | rfl | rfl | rfl | rfl | rfl | rfl | rfl | rfl | rfl | rfl | rfl | rfl | rfl | rfl | rfl | rfl <;> rfl

theorem Try.arrayLen48 : Try.prog.arrayLen 48 = 20 := by kernel_rfl
theorem Try.elem48 : Try.prog.elem 48 = 5 := by kernel_rfl
theorem Try.sizeOf5 (w : World) : (sizeOf 5).run Try.prog w = .ok 1 w := by kernel_rfl
/-- 'buf[n:]', buf an array of twenty bytes. -/
theorem slice_buf (b k : Nat) (hk : k < 20) (w : World) : (Instr.sliceAt 48 (.pointer (some ⟨b, 0, none⟩)) (some (.int .i64 (k : Int))) none none).run Try.prog w = .ok (.slice (some ⟨b, k, none⟩) (20 - k) (20 - k)) w := by
  have ht : Try.prog.underlying 48 = some (.array (Try.prog.arrayLen 48) (Try.prog.elem 48)) := by rw [Try.arrayLen48, Try.elem48]; exact Try.underlying48
  rw [run_sliceAt_array_l (P := Try.prog) w 48 ⟨b, 0, none⟩ ht .i64 (k : Int) (by omega) (by rw [Try.arrayLen48]; omega)]
  rw [Try.elem48, Try.arrayLen48, Try.sizeOf5]
  simp only [Result.andThen, slicedAt, Int.toNat_natCast, Nat.mul_one]
  rw [if_neg (by omega), Addr.add_lit]
  simp

/-- The row that the law builds, in block g. -/
def Own (w : World) (B g cap : Nat) (xs : List Int) : Prop := w.ownsRow B 5 1 (.slice (some ⟨g, 0, none⟩) xs.length cap) xs.length (xs.map (Value.int .u8))

/-- The tail's cells. -/
theorem buf_cells {w : World} {b k : Nat} {tl : List Int} (h : w.rowIs b 48 20 (bufF tl)) (hk : k + tl.length = 20) : ∀ j u, (tl.map (Value.int .u8))[j]? = some u → w.cell? ((⟨b, k, none⟩ : Addr).add j) = some u := by
  intro j u hu
  have hj : j < tl.length := by
    have := (List.getElem?_eq_some_iff.1 hu).1
    simpa using this
  rw [Addr.add_lit, h.cell (i := k + j) (by omega)]
  simp only [bufF]
  rw [if_neg (by omega)]
  have e : k + j - (20 - tl.length) = j := by omega
  rw [e]
  simp [hj] at hu
  rw [← hu]
  simp [List.getD, hj]

/-- What lies below is as it was: so is a row that was there. -/
theorem own_below {w w' : World} {B g cap N : Nat} {xs : List Int} (h : Own w B g cap xs) (hg : g < N) (hb : Below N w w') : Own w' B g cap xs := by
  refine ⟨h.1, ?_⟩
  rcases h.2 with ⟨h', _⟩ | ⟨g', cap', cur, h', hb', hh, r⟩
  · simp at h'
  · have h'' := h'
    simp only [Value.slice.injEq, Option.some.injEq, Addr.mk.injEq, and_true, true_and] at h''
    obtain ⟨rfl, rfl⟩ := h''
    exact .inr ⟨g, cap, cur, rfl, hb', by rw [hb.block g hg]; exact hh, r⟩

theorem grown_below {w w1 w2 : World} {g : Nat} (h : Below w.heap.size w w1) (h2 : w1.grownBy w2 (some g)) : w.grownBy w2 (some g) :=
  ⟨h2.os.trans h.os, h2.tape.trans h.tape, h2.output.trans h.output, Nat.le_trans h.size h2.size, fun k hk hne => (h2.block k (Nat.lt_of_lt_of_le hk h.size) hne).trans (h.block k hk)⟩

set_option maxRecDepth 100000 in
set_option maxHeartbeats 400000 in
theorem appendUint_any (B g cap : Nat) (xs : List Int) (v : Nat) (hv : v < 18446744073709551616) (hcap : xs.length + 20 ≤ cap) (hcm : cap ≤ 4194304) (w : World) (hg : g < w.heap.size) (hown : Own w B g cap xs) :
    Calls Try.prog 15 #[.slice (some ⟨g, 0, none⟩) xs.length cap, .int .u64 v] w fun e w' => e = .returned (.slice (some ⟨g, 0, none⟩) (xs ++ decF 20 v).length cap) ∧ Own w' B g cap (xs ++ decF 20 v) ∧ w.grownBy w' (some g) := by
  go_enter Try.func15, Try.ntmps15
  go_wp2
  go_loopw [1, 6] (fun vv nn wr => ∃ (m : Nat) (tl : List Int), vv = .int .u64 m ∧ tl.length ≤ 19 ∧ nn = .int .i64 (20 - tl.length : Nat) ∧ m < 10 ^ (20 - tl.length) ∧ m < 18446744073709551616 ∧ decF 20 v = decF (20 - tl.length) m ++ tl ∧ wr.rowIs w.heap.size 48 20 (bufF tl) ∧ Below w.heap.size w wr) (fun _ nn _ => (intOf nn).toNat)
  case atStart => exact ⟨v, [], rfl, by simp, rfl, by simp; omega, hv, by simp, buf_start w, (Below.refl _ _).alloc (Nat.le_refl _) _⟩
  case round =>
    obtain ⟨m, tl, rfl, htl, rfl, hm, hm64, he, hrow, hbel⟩ := hrel
    obtain ⟨k, hk⟩ : ∃ k, k + tl.length + 1 = 20 := ⟨19 - tl.length, by omega⟩
    have e1 : 20 - tl.length = k + 1 := by omega
    rw [e1] at hm he ⊢
    have hdst : ∃ u, wr.cell? ⟨w.heap.size, k, none⟩ = some u := ⟨_, hrow.cell (i := k) (by omega)⟩
    obtain ⟨u0, hdst⟩ := hdst
    have hfz := hrow.frozen k
    have ec : 48 + (m : Int) % 10 = 48 + ((m % 10 : Nat) : Int) := by omega
    have R := buf_step (c := 48 + (m : Int) % 10) hrow hk
    have hbel' := hbel.setCell (p := ⟨w.heap.size, k, none⟩) (Nat.le_refl _) (.int .u8 (48 + (m : Int) % 10))
    have HR : Hid ((wr.setCell ⟨w.heap.size, k, none⟩ (.int .u8 (48 + (m : Int) % 10))).rowIs w.heap.size 48 20 (bufF ((48 + (m : Int) % 10) :: tl)) ∧ Below w.heap.size w (wr.setCell ⟨w.heap.size, k, none⟩ (.int .u8 (48 + (m : Int) % 10)))) := ⟨R, hbel'⟩
    have HE : Hid (decF 20 v = decF (k + 1) m ++ tl ∧ 48 + (m : Int) % 10 = 48 + ((m % 10 : Nat) : Int)) := ⟨he, ec⟩
    have HO : Hid (Own w B g cap xs) := hown
    have HM : Hid (m < 10 ^ (k + 1)) := hm
    clear R hbel' hbel hrow he ec hown hm
    have hk20 : (k : Int) < 20 := by omega
    by_cases h0 : m < 10
    · have hq : ((m : Int) / 10 == 0) = true := by simp; omega
      have hsl := slice_buf w.heap.size k (by omega)
      obtain ⟨i0, hi, hz0, hz1, hz2⟩ := info_parts Try.info5
      have hlen : Hid ((((48 + (m : Int) % 10) :: tl).map (Value.int .u8)).length = (20 - k) * 1) := by simp [Hid]; omega
      have hown2 : Hid ((wr.setCell ⟨w.heap.size, k, none⟩ (.int .u8 (48 + (m : Int) % 10))).ownsRow B 5 1 (.slice (some ⟨g, 0, none⟩) xs.length cap) xs.length (xs.map (Value.int .u8))) := own_below HO.out hg HR.out.2
      have hcells := (show Hid _ from buf_cells (k := k) HR.out.1 (by simp; omega))
      go_wp2_with (at_builtin; refine wpList_append_fits _ rfl (.tmp 19) (.tmp 21) 22 rfl B 5 i0 1 Try.underlying22 hi hz1 g xs.length cap (xs.map (Value.int .u8)) rfl hown2.out ⟨w.heap.size, k, none⟩ (20 - k) (20 - k) (((48 + (m : Int) % 10) :: tl).map (Value.int .u8)) rfl hlen.out hcells.out (ints_oneCell _ _) (by omega) ?_; intro w1 hown1 hgrow1)
      go_ret
      have E : decF 20 v = (48 + (m : Int) % 10) :: tl := by rw [HE.out.1, decF_last (by omega), HE.out.2]; rfl
      have eL : xs.length + (20 - k) = (xs ++ decF 20 v).length := by rw [E]; simp; omega
      refine ⟨?_, ?_, ?_⟩
      · rw [← eL]; rfl
      · unfold Own
        rw [← eL, E, List.map_append]
        exact hown1
      · exact grown_below HR.out.2 hgrow1
    · have hq : ((m : Int) / 10 == 0) = false := by simp; omega
      go_wp2_with fail
      go_roundw
      case rel =>
        have hk1 : 1 ≤ k := by
          rcases Nat.eq_zero_or_pos k with h | h
          · subst h; have := HM.out; simp at this; omega
          · exact h
        have e20 : 20 - ((48 + (m : Int) % 10) :: tl).length = k := by simp; omega
        have hp : 10 ^ (k + 1) = 10 ^ k * 10 := Nat.pow_succ 10 k
        refine ⟨m / 10, (48 + (m : Int) % 10) :: tl, by go_num, by simp; omega, by rw [e20], ?_, by omega, ?_, HR.out.1, HR.out.2⟩
        · rw [e20]
          exact Nat.div_lt_of_lt_mul (by rw [Nat.mul_comm, ← hp]; exact HM.out)
        · rw [HE.out.1, e20, decF_more (by omega), HE.out.2]
          simp
      case measure => simp [intOf]

end Go.Proofs.Qxb6600807a
