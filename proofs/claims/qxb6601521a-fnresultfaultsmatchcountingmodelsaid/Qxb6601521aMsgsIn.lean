/-
  A slice of messages among the arguments, opened.
-/
import Derived.Test.Qxb6601521aMsgs
import Derived.ProofKit
import Derived.OpenShut
import Derived.ShutString
import Derived.ChangeOld
import Derived.Deep.Slices
namespace Go.Proofs.Qxb6601521a
open Go.ChangeShapes Go.WideShapes Go.ChangeAt Go.RowKit
set_option linter.unusedVariables false

theorem take_one {α : Type} {cs : List α} {j : Nat} {v : α} (h : (cs.drop j).take 1 = [v]) : cs[j]? = some v := by
  have h1 : ((cs.drop j).take 1)[0]? = some v := by rw [h]; rfl
  simpa using h1

theorem add_twice (a : Addr) (x y : Nat) : (a.add x).add y = a.add (x + y) := by
  unfold Addr.add
  by_cases hx : x = 0
  · subst hx
    simp
  · by_cases hy : y = 0
    · subst hy
      simp [hx]
    · simp [hx, hy, Nat.add_assoc]

section
variable {H : Type} {enc : TypeId × Value → H} {w : World} {spare : Nat → Bool} {held : Bool}

/-- A field of one cell. -/
theorem field_cell {t : TypeId} {fs : Array Field} {fuel : Nat} {cs : List Value} {x : DataW H × List MemPlace} (ht : Try.prog.underlying t = some (.struct fs)) (h : DataW.trod enc Try.prog w 0 spare held fuel t cs = some x) :
    ∃ n, ∀ (i : Nat) (f : Field), fs[i]? = some f → ∃ y, DataW.trod enc Try.prog w 0 spare held n f.type ((cs.drop f.offset).take (Try.prog.cellsOf f.type)) = some y := by
  obtain ⟨xs, n, _, _, _, hlen, hf⟩ := DataW.trod_struct ht h
  refine ⟨n, fun i f hi => ?_⟩
  have hlt : i < xs.length := by rw [hlen]; exact (Array.getElem?_eq_some_iff.1 hi).1
  exact ⟨xs[i], by rw [hf i f hi, List.getElem?_eq_getElem hlt]⟩

theorem c9 : Try.prog.cellsOf 9 = 1 := by kernel_rfl
theorem c4 : Try.prog.cellsOf 4 = 1 := by kernel_rfl
theorem c34 : Try.prog.cellsOf 34 = 1 := by kernel_rfl
theorem c35 : Try.prog.cellsOf 35 = 1 := by kernel_rfl
theorem c36 : Try.prog.cellsOf 36 = 1 := by kernel_rfl
theorem c38 : Try.prog.cellsOf 38 = 8 := by kernel_rfl
theorem c52 : Try.prog.cellsOf 52 = 4 := by kernel_rfl
theorem c54 : Try.prog.cellsOf 54 = 3 := by kernel_rfl
theorem c56 : Try.prog.cellsOf 56 = 2 := by kernel_rfl

theorem str_cell {n j : Nat} {cs : List Value} {y : DataW H × List MemPlace} (h : DataW.trod enc Try.prog w 0 spare held n 9 ((cs.drop j).take (Try.prog.cellsOf 9)) = some y) : ∃ s : ByteArray, cs[j]? = some (.string s) ∧ s.size ≤ maxLen := by
  rw [c9] at h
  obtain ⟨s, hs, _, hz⟩ := DataW.trod_string Try.underlying9 h
  exact ⟨s, take_one hs, hz⟩
theorem bool_cell {n j : Nat} {cs : List Value} {y : DataW H × List MemPlace} (h : DataW.trod enc Try.prog w 0 spare held n 4 ((cs.drop j).take (Try.prog.cellsOf 4)) = some y) : ∃ b : Bool, cs[j]? = some (.bool b) := by
  rw [c4] at h
  obtain ⟨b, hs, _⟩ := DataW.trod_bool Try.underlying4 h
  exact ⟨b, take_one hs⟩

/-- A struct of k strings. -/
theorem strs_struct {t : TypeId} {fs : Array Field} {fuel k : Nat} {cs : List Value} {x : DataW H × List MemPlace} (ht : Try.prog.underlying t = some (.struct fs)) (hfs : ∀ j, j < k → ∃ f, fs[j]? = some f ∧ f.type = 9 ∧ f.offset = j)
    (h : DataW.trod enc Try.prog w 0 spare held fuel t cs = some x) : ∃ S : Nat → ByteArray, ∀ j, j < k → cs[j]? = some (.string (S j)) ∧ (S j).size ≤ maxLen := by
  obtain ⟨n, hn⟩ := field_cell ht h
  refine Go.Deep.choose_lt (α := ByteArray) (p := fun j s => cs[j]? = some (.string s) ∧ s.size ≤ maxLen) fun j hj => ?_
  obtain ⟨f, h1, h2, h3⟩ := hfs j hj
  obtain ⟨y, hy⟩ := hn j f h1
  rw [h2, h3] at hy
  exact str_cell hy

/-- A slice of structs of k strings. -/
theorem strs_slice {t e : TypeId} {fs : Array Field} {fuel k : Nat} {cs : List Value} {x : DataW H × List MemPlace} (ht : Try.prog.underlying t = some (.slice e)) (he : Try.prog.underlying e = some (.struct fs)) (hk : Try.prog.cellsOf e = k)
    (hfs : ∀ j, j < k → ∃ f, fs[j]? = some f ∧ f.type = 9 ∧ f.offset = j) (h : DataW.trod enc Try.prog w 0 spare held fuel t cs = some x) :
    ∃ (a : Option Addr) (n cap : Nat) (s : Nat → Nat → ByteArray), cs = [.slice a n cap] ∧ n ≤ maxLen ∧ (∀ j f, (s j f).size ≤ maxLen) ∧ SIn w k a n cap s := by
  rcases Go.Deep.open_slice ht h with ⟨hcs, _⟩ | ⟨a, len, cap, m, n, D, Pl, hcs, _, hl, hm, hmm, _, hx⟩
  · exact ⟨none, 0, 0, fun _ _ => ByteArray.empty, hcs, Nat.zero_le _, fun _ _ => Nat.zero_le _, .inl ⟨rfl, rfl, rfl⟩⟩
  · have hle : len ≤ m := by rw [hmm]; split <;> omega
    have each : ∀ i, i < len → ∃ S : Nat → ByteArray, ∀ j, j < k → w.cell? (a.add (i * k + j)) = some (.string (S j)) ∧ (S j).size ≤ maxLen := fun i hi => by
      obtain ⟨cs', h1, h2⟩ := hx i (by omega)
      obtain ⟨S, hS⟩ := strs_struct he hfs h2
      rw [hk] at h1
      obtain ⟨_, _, hc⟩ := World.cells?_some h1
      refine ⟨S, fun j hj => ⟨?_, (hS j hj).2⟩⟩
      have := hc j hj
      rw [(hS j hj).1] at this
      rw [← this]
      rw [add_twice]
    obtain ⟨s, hs⟩ := Go.Deep.choose_lt each
    refine ⟨some a, len, cap, fun i f => if i < len ∧ f < k then s i f else ByteArray.empty, hcs, Nat.le_trans hl hm, fun j f => ?_, .inr ⟨a, rfl, fun j hj f hf => ?_⟩⟩
    · show (if j < len ∧ f < k then s j f else ByteArray.empty).size ≤ maxLen
      split
      · rename_i hh
        exact (hs j hh.1 f hh.2).2
      · exact Nat.zero_le _
    · show _ = some (Value.string (if j < len ∧ f < k then s j f else ByteArray.empty))
      rw [if_pos ⟨hj, hf⟩]
      exact (hs j hj f hf).1

theorem sl_cell {t e : TypeId} {fs : Array Field} {k n j : Nat} {cs : List Value} {y : DataW H × List MemPlace} (hc : Try.prog.cellsOf t = 1) (ht : Try.prog.underlying t = some (.slice e)) (he : Try.prog.underlying e = some (.struct fs)) (hk : Try.prog.cellsOf e = k)
    (hfs : ∀ j, j < k → ∃ f, fs[j]? = some f ∧ f.type = 9 ∧ f.offset = j) (h : DataW.trod enc Try.prog w 0 spare held n t ((cs.drop j).take (Try.prog.cellsOf t)) = some y) :
    ∃ (a : Option Addr) (n cap : Nat) (s : Nat → Nat → ByteArray), cs[j]? = some (.slice a n cap) ∧ n ≤ maxLen ∧ (∀ j f, (s j f).size ≤ maxLen) ∧ SIn w k a n cap s := by
  rw [hc] at h
  obtain ⟨a, n, cap, s, h1, h2⟩ := strs_slice ht he hk hfs h
  exact ⟨a, n, cap, s, take_one h1, h2⟩

/-- No message. -/
def msg0 : Msg := ⟨ByteArray.empty, ByteArray.empty, ByteArray.empty, ByteArray.empty, false, none, 0, 0, fun _ _ => ByteArray.empty, none, 0, 0, fun _ _ => ByteArray.empty, none, 0, 0, fun _ _ => ByteArray.empty⟩
theorem sized_default : Sized msg0 := ⟨Nat.zero_le _, Nat.zero_le _, Nat.zero_le _, Nat.zero_le _, Nat.zero_le _, fun _ _ => Nat.zero_le _, Nat.zero_le _, fun _ _ => Nat.zero_le _, Nat.zero_le _, fun _ _ => Nat.zero_le _⟩

/-- One message's cells. -/
theorem msg_struct {fuel : Nat} {cs : List Value} {x : DataW H × List MemPlace} (h : DataW.trod enc Try.prog w 0 spare held fuel 38 cs = some x) :
    ∃ m : Msg, Sized m ∧ cs[0]? = some (.string m.role) ∧ cs[1]? = some (.string m.content) ∧ cs[2]? = some (.slice m.ca m.cn m.cc) ∧ cs[3]? = some (.string m.id) ∧ cs[4]? = some (.bool m.failed) ∧ cs[5]? = some (.slice m.ta m.tn m.tc) ∧ cs[6]? = some (.slice m.pa m.pn m.pc) ∧ cs[7]? = some (.string m.prov) ∧
      SIn w 4 m.ca m.cn m.cc m.cs ∧ SIn w 3 m.ta m.tn m.tc m.ts ∧ SIn w 2 m.pa m.pn m.pc m.ps := by
  obtain ⟨n, hn⟩ := field_cell Try.underlying38 h
  obtain ⟨y0, h0⟩ := hn 0 _ rfl
  obtain ⟨y1, h1⟩ := hn 1 _ rfl
  obtain ⟨y2, h2⟩ := hn 2 _ rfl
  obtain ⟨y3, h3⟩ := hn 3 _ rfl
  obtain ⟨y4, h4⟩ := hn 4 _ rfl
  obtain ⟨y5, h5⟩ := hn 5 _ rfl
  obtain ⟨y6, h6⟩ := hn 6 _ rfl
  obtain ⟨y7, h7⟩ := hn 7 _ rfl
  obtain ⟨s0, e0, z0⟩ := str_cell h0
  obtain ⟨s1, e1, z1⟩ := str_cell h1
  obtain ⟨ca, cn, cc, cs', e2, z2, zc, sc⟩ := sl_cell c34 Try.underlying34 Try.underlying52 c52 (by
    intro j hj
    rcases j with _ | _ | _ | _ | j
    · exact ⟨_, rfl, rfl, rfl⟩
    · exact ⟨_, rfl, rfl, rfl⟩
    · exact ⟨_, rfl, rfl, rfl⟩
    · exact ⟨_, rfl, rfl, rfl⟩
    · omega) h2
  obtain ⟨s3, e3, z3⟩ := str_cell h3
  obtain ⟨b4, e4⟩ := bool_cell h4
  obtain ⟨ta, tn, tc, ts, e5, z5, zt, st⟩ := sl_cell c35 Try.underlying35 Try.underlying54 c54 (by
    intro j hj
    rcases j with _ | _ | _ | j
    · exact ⟨_, rfl, rfl, rfl⟩
    · exact ⟨_, rfl, rfl, rfl⟩
    · exact ⟨_, rfl, rfl, rfl⟩
    · omega) h5
  obtain ⟨pa, pn, pc, ps, e6, z6, zp, sp⟩ := sl_cell c36 Try.underlying36 Try.underlying56 c56 (by
    intro j hj
    rcases j with _ | _ | j
    · exact ⟨_, rfl, rfl, rfl⟩
    · exact ⟨_, rfl, rfl, rfl⟩
    · omega) h6
  obtain ⟨s7, e7, z7⟩ := str_cell h7
  exact ⟨⟨s0, s1, s3, s7, b4, ca, cn, cc, cs', ta, tn, tc, ts, pa, pn, pc, ps⟩, ⟨z0, z1, z3, z7, z2, zc, z5, zt, z6, zp⟩, e0, e1, e2, e3, e4, e5, e6, e7, sc, st, sp⟩

theorem msgs_in {a : Option Addr} {len cap : Nat} {d : DataW H} {p : List MemPlace} (h : DataW.Trod enc Try.prog w 0 spare held 22 (.slice a len cap) d p) :
    ∃ M : Nat → Msg, len ≤ maxLen ∧ (∀ i, Sized (M i)) ∧ MIn w a len cap M := by
  obtain ⟨fuel, hf⟩ := h
  rcases Go.Deep.open_slice Try.underlying22 hf with ⟨hcs, _⟩ | ⟨x, l, c, m, n, D, Pl, hcs, _, hl, hm, hmm, _, hx⟩
  · simp [Value.cells] at hcs
    obtain ⟨rfl, rfl, rfl⟩ := hcs
    exact ⟨fun _ => msg0, Nat.zero_le _, fun _ => sized_default, .inl ⟨rfl, rfl, rfl⟩⟩
  · simp [Value.cells] at hcs
    obtain ⟨rfl, rfl, rfl⟩ := hcs
    have hle : len ≤ m := by rw [hmm]; split <;> omega
    have each : ∀ i, i < len → ∃ y : Msg, Sized y ∧ Fields w x i y := fun i hi => by
      obtain ⟨cs', h1, h2⟩ := hx i (by omega)
      obtain ⟨y, hs, e0, e1, e2, e3, e4, e5, e6, e7, s1, s2, s3⟩ := msg_struct h2
      rw [c38] at h1
      obtain ⟨_, _, hc⟩ := World.cells?_some h1
      have g : ∀ j v, j < 8 → cs'[j]? = some v → w.cell? (x.add (i * 8 + j)) = some v := fun j v hj hv => by
        have := hc j hj
        rw [hv] at this
        rw [← this]
        rw [add_twice]
      exact ⟨y, hs, g 0 _ (by omega) e0, g 1 _ (by omega) e1, g 2 _ (by omega) e2, g 3 _ (by omega) e3, g 4 _ (by omega) e4, g 5 _ (by omega) e5, g 6 _ (by omega) e6, g 7 _ (by omega) e7, s1, s2, s3⟩
    have inh : Inhabited Msg := ⟨msg0⟩
    obtain ⟨M, hM⟩ := Go.Deep.choose_lt each
    refine ⟨fun i => if i < len then M i else msg0, Nat.le_trans hl hm, fun i => ?_, .inr ⟨_, rfl, fun i hi => ?_⟩⟩
    · show Sized (if i < len then M i else msg0)
      split
      · rename_i hh
        exact (hM i hh).1
      · exact sized_default
    · show Fields w _ i (if i < len then M i else msg0)
      rw [if_pos hi]
      exact (hM i hi).2
end

end Go.Proofs.Qxb6601521a
