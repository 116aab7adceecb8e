import Derived.Test.Qxb6628271aInv
import Derived.Test.Qxb6628271aPlain2
import Derived.Deep.Slices
namespace Go.Proofs.Qxb6628271a
open Go.RowKit Go.Maps

/-- the resources of xs as they can be read: the outer row's block, and of each inner row its block and its capacity -/
structure Reads (w : World) (gv : Nat) (B C : Nat → Nat) (xs : List E) : Prop where
  lt : gv < w.heap.size
  name : ∀ i, i < (firsts xs).length → w.cell? ⟨gv, i * 2, none⟩ = some (.string (nm xs i))
  list : ∀ i, i < (firsts xs).length → w.cell? ⟨gv, i * 2 + 1, none⟩ = some (.slice (some ⟨B i, 0, none⟩) (under xs (nm xs i)).length (C i))
  ilt : ∀ i, i < (firsts xs).length → B i < w.heap.size
  p0 : ∀ i j, i < (firsts xs).length → j < (under xs (nm xs i)).length → w.cell? ⟨B i, j * 3, none⟩ = some (.string ((under xs (nm xs i)).getD j U0).name)
  p1 : ∀ i j, i < (firsts xs).length → j < (under xs (nm xs i)).length → w.cell? ⟨B i, j * 3 + 1, none⟩ = some (.string ((under xs (nm xs i)).getD j U0).act)
  p2 : ∀ i j, i < (firsts xs).length → j < (under xs (nm xs i)).length → w.cell? ⟨B i, j * 3 + 2, none⟩ = some (.string ((under xs (nm xs i)).getD j U0).desc)

theorem Reads.below {w w' : World} {gv : Nat} {B C : Nat → Nat} {xs : List E} (h : Reads w gv B C xs) (hb : Below w.heap.size w w') : Reads w' gv B C xs where
  lt := Nat.lt_of_lt_of_le h.lt hb.size
  name i hi := (hb.cell (by exact h.lt)).trans (h.name i hi)
  list i hi := (hb.cell (by exact h.lt)).trans (h.list i hi)
  ilt i hi := Nat.lt_of_lt_of_le (h.ilt i hi) hb.size
  p0 i j hi hj := (hb.cell (by exact h.ilt i hi)).trans (h.p0 i j hi hj)
  p1 i j hi hj := (hb.cell (by exact h.ilt i hi)).trans (h.p1 i j hi hj)
  p2 i j hi hj := (hb.cell (by exact h.ilt i hi)).trans (h.p2 i j hi hj)

theorem qsCells_at (ps : List E) (j : Nat) (h : j < ps.length) : (qsCells ps)[j * 3]? = some (.string (ps.getD j U0).name) ∧ (qsCells ps)[j * 3 + 1]? = some (.string (ps.getD j U0).act) ∧ (qsCells ps)[j * 3 + 2]? = some (.string (ps.getD j U0).desc) := by
  induction ps generalizing j with
  | nil => simp at h
  | cons u xs ih =>
    have e : qsCells (u :: xs) = Value.string u.name :: .string u.act :: .string u.desc :: qsCells xs := by simp [qsCells, qCells]
    rw [e]
    cases j with
    | zero => simp
    | succ j =>
      have := ih j (by simpa using h)
      simp only [show (j + 1) * 3 = j * 3 + 1 + 1 + 1 by omega, show j * 3 + 1 + 1 + 1 + 1 = (j * 3 + 1) + 1 + 1 + 1 by omega, show j * 3 + 1 + 1 + 1 + 2 = (j * 3 + 2) + 1 + 1 + 1 by omega, List.getElem?_cons_succ, List.getD_cons_succ]
      exact this

theorem under_pos {xs : List E} {i : Nat} (hi : i < (firsts xs).length) : 0 < (under xs (nm xs i)).length := by
  have hm : nm xs i ∈ firsts xs := by
    unfold nm
    rw [show (firsts xs).getD i ByteArray.empty = (firsts xs)[i] by simp [List.getD, hi]]
    exact List.getElem_mem _
  obtain ⟨p, hp, hr⟩ := (mem_firsts xs _).1 hm
  apply List.length_pos_of_mem (a := p)
  simp [under, hp, hr]

theorem read_of_inv {w w' : World} {v : Value} {xs : List E} (h : Inv w w' v xs) (hne : xs ≠ []) :
    ∃ gv cp B C, v = .slice (some ⟨gv, 0, none⟩) (firsts xs).length cp ∧ Reads w' gv B C xs := by
  obtain ⟨S, D, hown, _, _, hg⟩ := h.ex
  have hlen : S.length = (firsts xs).length := by
    have : (grp S).length = (groups xs).length := by rw [hg]
    rw [groups_length] at this
    simpa [grp] using this
  have hpos : 0 < S.length := by
    rw [hlen]
    cases xs with
    | nil => exact absurd rfl hne
    | cons p xs =>
      apply List.length_pos_of_mem (a := p.res)
      rw [mem_firsts]
      exact ⟨p, by simp, rfl⟩
  obtain ⟨gv, cp, hv, _, hlt⟩ := hown.outer.form hpos
  subst hv
  have hat : ∀ i, i < S.length → ∃ t, S[i]? = some t ∧ t.name = nm xs i ∧ t.ps = under xs (nm xs i) := by
    intro i hi
    refine ⟨S[i], List.getElem?_eq_getElem hi, ?_⟩
    have e : (grp S)[i]? = (groups xs)[i]? := by rw [hg]
    have hi' : i < (firsts xs).length := by omega
    simp only [grp, groups, List.getElem?_map, List.getElem?_eq_getElem hi, List.getElem?_eq_getElem hi', Option.map_some, Option.some.injEq, Prod.mk.injEq] at e
    have en : nm xs i = (firsts xs)[i] := by simp [nm, List.getD, hi']
    rw [en]
    exact e
  have hin : ∀ i, i < S.length → ∃ q : Nat × Nat, (∃ t, S[i]? = some t ∧ t.v = .slice (some ⟨q.1, 0, none⟩) (under xs (nm xs i)).length q.2) ∧ q.1 < w'.heap.size ∧
      w'.ownsRow w.heap.size 36 3 (.slice (some ⟨q.1, 0, none⟩) (under xs (nm xs i)).length q.2) (under xs (nm xs i)).length (qsCells (under xs (nm xs i))) := by
    intro i hi
    obtain ⟨t, ht, htn, hps⟩ := hat i hi
    have ho := hown.inner t (List.mem_of_getElem? ht)
    rw [hps] at ho
    obtain ⟨b, c, hv, _, hb⟩ := ho.form (under_pos (by omega))
    rw [hv] at ho
    exact ⟨(b, c), ⟨t, ht, hv⟩, hb, ho⟩
  obtain ⟨f, hf⟩ := @Go.Deep.choose_lt (Nat × Nat) ⟨(0, 0)⟩ _ _ hin
  refine ⟨gv, cp, fun i => (f i).1, fun i => (f i).2, by rw [hlen], hlt, ?_, ?_, ?_, ?_, ?_, ?_⟩
  · intro i hi
    obtain ⟨t, ht, htn, _⟩ := hat i (by omega)
    rw [hown.outer.cellAt _ (by omega), (outCells_at S i t ht).1, htn]
  · intro i hi
    obtain ⟨⟨t, ht, htv⟩, _, _⟩ := hf i (by omega)
    rw [hown.outer.cellAt _ (by omega), (outCells_at S i t ht).2, htv]
  · intro i hi
    exact (hf i (by omega)).2.1
  · intro i j hi hj
    rw [(hf i (by omega)).2.2.cellAt _ (by omega)]
    exact (qsCells_at _ j hj).1
  · intro i j hi hj
    rw [(hf i (by omega)).2.2.cellAt _ (by omega)]
    exact (qsCells_at _ j hj).2.1
  · intro i j hi hj
    rw [(hf i (by omega)).2.2.cellAt _ (by omega)]
    exact (qsCells_at _ j hj).2.2

theorem empty_of_inv {w w' : World} {v : Value} (h : Inv w w' v []) : ∃ ao cp, v = .slice ao 0 cp := by
  obtain ⟨S, D, hown, _, _, hg⟩ := h.ex
  have hlen : S.length = 0 := by
    have : (grp S).length = (groups []).length := by rw [hg]
    simpa [grp, groups, firsts] using this
  have ho := hown.outer
  rw [hlen] at ho
  rcases ho.2 with ⟨h1, _⟩ | ⟨g, cap, cur, h1, _⟩
  · exact ⟨_, _, h1⟩
  · exact ⟨_, _, h1⟩
end Go.Proofs.Qxb6628271a
