import Derived.Test.Qxb6628271aPol
import Derived.Maps.OwnSet
namespace Go.Proofs.Qxb6628271a
open Go.RowKit Go.Maps

/-- one resource as it stands in memory: its name, its permissions, the value of its slice -/
structure T where
  name : ByteArray
  ps : List E
  v : Value

def qCells (p : E) : List Value := [.string p.name, .string p.act, .string p.desc]
def qsCells (ps : List E) : List Value := ps.flatMap qCells
def outCells (S : List T) : List Value := S.flatMap fun t => [.string t.name, t.v]

theorem outCells_length (S : List T) : (outCells S).length = S.length * 2 := by
  induction S with
  | nil => rfl
  | cons t S ih => simp only [outCells, List.flatMap_cons, List.length_append] at ih ⊢; rw [ih]; simp; omega
theorem outCells_append (S S' : List T) : outCells (S ++ S') = outCells S ++ outCells S' := by simp [outCells]
theorem qsCells_length (ps : List E) : (qsCells ps).length = ps.length * 3 := by
  induction ps with
  | nil => rfl
  | cons t S ih => simp only [qsCells, List.flatMap_cons, List.length_append] at ih ⊢; rw [ih]; simp [qCells]; omega
theorem qsCells_append (S S' : List E) : qsCells (S ++ S') = qsCells S ++ qsCells S' := by simp [qsCells]

theorem outCells_at (S : List T) (i : Nat) (t : T) (h : S[i]? = some t) : (outCells S)[i * 2]? = some (.string t.name) ∧ (outCells S)[i * 2 + 1]? = some t.v := by
  induction S generalizing i with
  | nil => simp at h
  | cons u S ih =>
    have e : outCells (u :: S) = Value.string u.name :: u.v :: outCells S := by simp [outCells]
    rw [e]
    cases i with
    | zero => simp at h; subst h; simp
    | succ i =>
      have := ih i (by simpa using h)
      simp only [show (i + 1) * 2 = i * 2 + 1 + 1 by omega, List.getElem?_cons_succ]
      exact this

theorem outCells_set (S : List T) (i : Nat) (t : T) (u : T) (h : S[i]? = some t) (hn : u.name = t.name) : (outCells S).set (i * 2 + 1) u.v = outCells (S.set i u) := by
  induction S generalizing i with
  | nil => simp at h
  | cons x S ih =>
    have e : ∀ (x : T) (S : List T), outCells (x :: S) = Value.string x.name :: x.v :: outCells S := fun x S => by simp [outCells]
    cases i with
    | zero => simp at h; subst h; simp [e, hn]
    | succ i =>
      have := ih i (by simpa using h)
      simp only [List.set_cons_succ, e, show (i + 1) * 2 + 1 = i * 2 + 1 + 1 + 1 by omega]
      rw [this]

/-- the block of a value that owns a row is a row of that type -/
theorem owns_block {w : World} {base : Nat} {e : TypeId} {size : Nat} {v : Value} {n : Nat} {xs : List Value} (h : w.ownsRow base e size v n xs) {b : Nat} (hb : v.ownBlock = some b) :
    ∃ cur, w.heap[b]? = some (.cells cur e (0, 0)) := by
  rcases h.2 with ⟨rfl, _⟩ | ⟨g, cap, cur, rfl, _, hg, _⟩
  · simp [Value.ownBlock] at hb
  · simp [Value.ownBlock] at hb; subst hb; exact ⟨cur, hg⟩

theorem owns_types {w : World} {base base' : Nat} {e e' : TypeId} {size size' : Nat} {v v' : Value} {n n' : Nat} {xs xs' : List Value} (h : w.ownsRow base e size v n xs) (h' : w.ownsRow base' e' size' v' n' xs') (hne : e ≠ e') :
    v.ownBlock = none ∨ v.ownBlock ≠ v'.ownBlock := by
  cases hb : v.ownBlock with
  | none => exact .inl rfl
  | some b =>
    right
    intro hb'
    obtain ⟨c, hc⟩ := owns_block h hb
    obtain ⟨c', hc'⟩ := owns_block h' hb'.symm
    rw [hc] at hc'
    simp at hc'
    exact hne hc'.2

/-- the resources so far: the outer row, each inner row, no two inner rows in one block -/
structure Own (w : World) (base : Nat) (v : Value) (S : List T) : Prop where
  outer : w.ownsRow base 34 2 v S.length (outCells S)
  inner : ∀ t ∈ S, w.ownsRow base 36 3 t.v t.ps.length (qsCells t.ps)
  apart : ∀ (i j : Nat) (s t : T), S[i]? = some s → S[j]? = some t → i ≠ j → ∀ b, s.v.ownBlock = some b → t.v.ownBlock ≠ some b

theorem Own.kept {w w' : World} {base : Nat} {v : Value} {S : List T} {row : Option Nat} (h : Own w base v S) (hg : w.grownBy w' row) (hr : ∀ b, row = some b → ∀ cur e, w.heap[b]? ≠ some (.cells cur e (0, 0))) : Own w' base v S := by
  have key : ∀ {e : TypeId} {size : Nat} {u : Value} {n : Nat} {xs : List Value}, w.ownsRow base e size u n xs → w'.ownsRow base e size u n xs := by
    intro e size u n xs hu
    refine hu.kept hg ?_
    cases hb : u.ownBlock with
    | none => exact .inl rfl
    | some b =>
      right
      intro e'
      obtain ⟨c, hc⟩ := owns_block hu hb
      exact hr b e'.symm c e hc
  exact ⟨key h.outer, fun t ht => key (h.inner t ht), h.apart⟩

theorem Own.alloc {w : World} {base : Nat} {v : Value} {S : List T} (h : Own w base v S) (o : Obj) : Own (w.alloc o) base v S := h.kept (World.grownBy_alloc w o none) (by simp)
theorem Own.drew {w : World} {base : Nat} {v : Value} {S : List T} (h : Own w base v S) : Own w.drew base v S := ⟨h.outer, h.inner, h.apart⟩

theorem Own.push {w w' : World} {base : Nat} {v v' : Value} {S : List T} {r : ByteArray} (h : Own w base v S) (hown : w'.ownsRow base 34 2 v' (S.length + 1) (outCells S ++ [.string r, .slice none 0 0])) (hg : w.grownBy w' v.ownBlock) :
    Own w' base v' (S ++ [⟨r, [], .slice none 0 0⟩]) := by
  refine ⟨?_, ?_, ?_⟩
  · rw [List.length_append, outCells_append]; exact hown
  · intro t ht
    rcases List.mem_append.1 ht with ht | ht
    · exact (h.inner t ht).kept hg (owns_types (h.inner t ht) h.outer (by decide))
    · rw [List.mem_singleton] at ht; subst ht; exact World.ownsRow_nil _ _ _ _
  · intro i j s t hi hj hne b hb
    by_cases hil : i < S.length
    · rw [List.getElem?_append_left hil] at hi
      by_cases hjl : j < S.length
      · rw [List.getElem?_append_left hjl] at hj; exact h.apart i j s t hi hj hne b hb
      · rw [List.getElem?_append_right (by omega)] at hj
        have := List.mem_of_getElem? hj
        rw [List.mem_singleton] at this; subst this; simp [Value.ownBlock]
    · rw [List.getElem?_append_right (by omega)] at hi
      have := List.mem_of_getElem? hi
      rw [List.mem_singleton] at this; subst this; simp [Value.ownBlock] at hb

theorem Own.put {w w1 : World} {base : Nat} {S : List T} {i gv cv g cap : Nat} {t : T} {p : E} (h : Own w base (.slice (some ⟨gv, 0, none⟩) S.length cv) S) (hi : S[i]? = some t)
    (hown : w1.ownsRow base 36 3 (.slice (some ⟨g, 0, none⟩) (t.ps.length + 1) cap) (t.ps.length + 1) (qsCells t.ps ++ qCells p)) (hg : w.grownBy w1 t.v.ownBlock) (hat : t.v.ownBlock = some g ∨ g = w.heap.size) :
    Own (w1.setCell ⟨gv, i * 2 + 1, none⟩ (.slice (some ⟨g, 0, none⟩) (t.ps.length + 1) cap)) base (.slice (some ⟨gv, 0, none⟩) S.length cv) (S.set i ⟨t.name, t.ps ++ [p], .slice (some ⟨g, 0, none⟩) (t.ps.length + 1) cap⟩) := by
  have ht : t ∈ S := List.mem_of_getElem? hi
  have hio := h.inner t ht
  have ho1 : w1.ownsRow base 34 2 (.slice (some ⟨gv, 0, none⟩) S.length cv) S.length (outCells S) := h.outer.kept hg (owns_types h.outer hio (by decide))
  have hst := (ho1.stored (i * 2 + 1) (.slice (some ⟨g, 0, none⟩) (t.ps.length + 1) cap)).1
  have oth : ∀ {u : Value} {n : Nat} {xs : List Value}, w1.ownsRow base 36 3 u n xs → (w1.setCell ⟨gv, i * 2 + 1, none⟩ (.slice (some ⟨g, 0, none⟩) (t.ps.length + 1) cap)).ownsRow base 36 3 u n xs := by
    intro u n xs hu
    refine ownsRow_setCell_other hu ?_ _
    rcases owns_types hu ho1 (by decide) with h0 | h0
    · rw [h0]; simp
    · exact h0
  refine ⟨?_, ?_, ?_⟩
  · rw [List.length_set, ← outCells_set S i t ⟨t.name, t.ps ++ [p], .slice (some ⟨g, 0, none⟩) (t.ps.length + 1) cap⟩ hi rfl]
    exact hst
  · intro s hs
    obtain ⟨j, hj⟩ := List.getElem?_of_mem hs
    by_cases hij : i = j
    · subst hij
      rw [List.getElem?_set] at hj
      split at hj
      · split at hj
        · cases hj
          refine oth ?_
          simpa [qsCells_append, qsCells] using hown
        · cases hj
      · contradiction
    · rw [List.getElem?_set_ne hij] at hj
      have hsm := List.mem_of_getElem? hj
      refine oth ((h.inner s hsm).kept hg ?_)
      cases hb : s.v.ownBlock with
      | none => exact .inl rfl
      | some b => exact .inr (Ne.symm (h.apart j i s t hj hi (Ne.symm hij) b hb))
  · have far : ∀ j s, S[j]? = some s → i ≠ j → s.v.ownBlock ≠ some g := by
      intro j s hj hij hb
      rcases hat with ha | ha
      · exact h.apart j i s t hj hi (Ne.symm hij) g hb ha
      · obtain ⟨c, hc⟩ := owns_block (h.inner s (List.mem_of_getElem? hj)) hb
        rw [ha] at hc
        have := (Array.getElem?_eq_some_iff.1 hc).1
        omega
    intro a b s u ha hb hne x hx
    by_cases hia : i = a
    · subst hia
      rw [List.getElem?_set_self (by have := (List.getElem?_eq_some_iff.1 hi).1; exact this)] at ha
      cases ha
      rw [List.getElem?_set_ne hne] at hb
      simp [Value.ownBlock] at hx
      subst hx
      exact far b u hb hne
    · rw [List.getElem?_set_ne hia] at ha
      by_cases hib : i = b
      · subst hib
        rw [List.getElem?_set_self (by have := (List.getElem?_eq_some_iff.1 hi).1; exact this)] at hb
        cases hb
        intro hu
        simp [Value.ownBlock] at hu
        subst hu
        exact far a s ha hia hx
      · rw [List.getElem?_set_ne hib] at hb
        exact h.apart a b s u ha hb hne x hx

end Go.Proofs.Qxb6628271a
