import Derived.Test.Qxb6628271aSame
import Derived.Test.Qxb6628271aPlain3
namespace Go.Proofs.Qxb6628271a
open Go.RowKit Go.Maps

theorem streq {a b : ByteArray} (h : a = b) : (a.toList == b.toList) = true := by subst h; simp
theorem strne {a b : ByteArray} (h : ¬ a = b) : (a.toList == b.toList) = false := by
  rw [beq_eq_false_iff_ne]
  intro e
  rw [ByteArray.toList_eq, ByteArray.toList_eq] at e
  have := Array.toList_inj.1 e
  exact h (by cases a; cases b; simp_all)

/-- block b holds the permissions ps -/
structure QRow (w : World) (b : Nat) (ps : List E) : Prop where
  lt : b < w.heap.size
  p0 : ∀ j, j < ps.length → w.cell? ⟨b, j * 3, none⟩ = some (.string (ps.getD j U0).name)
  p1 : ∀ j, j < ps.length → w.cell? ⟨b, j * 3 + 1, none⟩ = some (.string (ps.getD j U0).act)
  p2 : ∀ j, j < ps.length → w.cell? ⟨b, j * 3 + 2, none⟩ = some (.string (ps.getD j U0).desc)

theorem QRow.same {w w' : World} {b : Nat} {ps : List E} (h : QRow w b ps) (hs : w.heap.size ≤ w'.heap.size) (hb : w'.heap[b]? = w.heap[b]?) : QRow w' b ps :=
  ⟨Nat.lt_of_lt_of_le h.lt hs, fun j hj => (World.cell?_of_block (w := w) hb).trans (h.p0 j hj), fun j hj => (World.cell?_of_block (w := w) hb).trans (h.p1 j hj), fun j hj => (World.cell?_of_block (w := w) hb).trans (h.p2 j hj)⟩
theorem QRow.below {w w' : World} {b : Nat} {ps : List E} (h : QRow w b ps) (hb : Below w.heap.size w w') : QRow w' b ps := h.same hb.size (hb.block b h.lt)

theorem qrow_of_owned {w : World} {base g n cap : Nat} {ps : List E} (hn : n = ps.length) (h : w.ownsRow base 36 3 (.slice (some ⟨g, 0, none⟩) n cap) n (qsCells ps)) : QRow w g ps := by
  subst hn
  refine ⟨(h.lt g rfl).2, fun j hj => ?_, fun j hj => ?_, fun j hj => ?_⟩
  · rw [h.cellAt _ (by omega)]; exact (qsCells_at ps j hj).1
  · rw [h.cellAt _ (by omega)]; exact (qsCells_at ps j hj).2.1
  · rw [h.cellAt _ (by omega)]; exact (qsCells_at ps j hj).2.2

theorem QRow.cells {w : World} {b : Nat} {ps : List E} (h : QRow w b ps) : ∀ j u, (qsCells ps)[j]? = some u → w.cell? ((⟨b, 0, none⟩ : Addr).add j) = some u := by
  intro j u hu
  have hj : j < ps.length * 3 := by
    have := (List.getElem?_eq_some_iff.1 hu).1
    rwa [qsCells_length] at this
  have hq : j / 3 < ps.length := by omega
  have hat := qsCells_at ps (j / 3) hq
  rw [Addr.add_lit, Nat.zero_add]
  rcases (show j = j / 3 * 3 ∨ j = j / 3 * 3 + 1 ∨ j = j / 3 * 3 + 2 by omega) with e | e | e
  · rw [e] at hu ⊢; rw [h.p0 _ hq, ← hat.1, hu]
  · rw [e] at hu ⊢; rw [h.p1 _ hq, ← hat.2.1, hu]
  · rw [e] at hu ⊢; rw [h.p2 _ hq, ← hat.2.2, hu]
theorem qsCells_one (ps : List E) : ∀ u ∈ qsCells ps, u.oneCell' = true := by
  intro u hu
  simp only [qsCells, List.mem_flatMap] at hu
  obtain ⟨p, _, hp⟩ := hu
  exact qCells_one p u hp

theorem rg_row {w : World} {g : Nat} {B C : Nat → Nat} {G : List (ByteArray × List E)} (h : RG w g B C G) {i : Nat} (hi : i < G.length) : QRow w (B i) (G.getD i d0).2 :=
  ⟨h.ilt i hi, fun j hj => h.p0 i j hi hj, fun j hj => h.p1 i j hi hj, fun j hj => h.p2 i j hi hj⟩

/-- the expected list while it is built: the outer row in block eb, each inner row in another block -/
structure Exp (w : World) (base eb cap : Nat) (S : List T) : Prop where
  outer : w.ownsRow base 34 2 (.slice (some ⟨eb, 0, none⟩) S.length cap) S.length (outCells S)
  inner : ∀ t ∈ S, ∃ b c, t.v = .slice (some ⟨b, 0, none⟩) t.ps.length c ∧ b ≠ eb ∧ QRow w b t.ps

theorem owns_below' {w w' : World} {base : Nat} {e : TypeId} {size : Nat} {v : Value} {n : Nat} {xs : List Value} (h : w.ownsRow base e size v n xs) (hb : Below w.heap.size w w') : w'.ownsRow base e size v n xs := by
  refine ⟨h.1, ?_⟩
  rcases h.2 with hn | ⟨g, cap, cur, rfl, hg, hgg, rest⟩
  · exact .inl hn
  · refine .inr ⟨g, cap, cur, rfl, hg, ?_, rest⟩
    rw [hb.block g (Array.getElem?_eq_some_iff.1 hgg).1]
    exact hgg

theorem Exp.below {w w' : World} {base eb cap : Nat} {S : List T} (h : Exp w base eb cap S) (hb : Below w.heap.size w w') : Exp w' base eb cap S := by
  refine ⟨owns_below' h.outer hb, fun t ht => ?_⟩
  obtain ⟨b, c, hv, hne, hq⟩ := h.inner t ht
  exact ⟨b, c, hv, hne, hq.below hb⟩

theorem Exp.push {w w' : World} {base eb cap b c : Nat} {S : List T} {r : ByteArray} {ps : List E} (h : Exp w base eb cap S)
    (hown : w'.ownsRow base 34 2 (.slice (some ⟨eb, 0, none⟩) (S.length + 1) cap) (S.length + 1) (outCells S ++ [.string r, .slice (some ⟨b, 0, none⟩) ps.length c])) (hg : w.grownBy w' (some eb)) (hne : b ≠ eb) (hq : QRow w b ps) :
    Exp w' base eb cap (S ++ [⟨r, ps, .slice (some ⟨b, 0, none⟩) ps.length c⟩]) := by
  have keep : ∀ {x : Nat} {qs : List E}, x ≠ eb → QRow w x qs → QRow w' x qs := fun hx hxq => hxq.same hg.size (hg.block _ hxq.lt (by simpa using hx))
  refine ⟨?_, fun t ht => ?_⟩
  · rw [List.length_append, outCells_append]; exact hown
  · rcases List.mem_append.1 ht with ht | ht
    · obtain ⟨x, y, hv, hx, hxq⟩ := h.inner t ht
      exact ⟨x, y, hv, hx, keep hx hxq⟩
    · rw [List.mem_singleton] at ht
      subst ht
      exact ⟨b, c, rfl, hne, keep hne hq⟩

theorem rg_of_exp {w : World} {base eb cap : Nat} {S : List T} (h : Exp w base eb cap S) : ∃ B C, RG w eb B C (grp S) := by
  have hlen : (grp S).length = S.length := by simp [grp]
  have hat : ∀ i, i < S.length → ∃ q : Nat × Nat, ∃ t, S[i]? = some t ∧ (grp S).getD i d0 = (t.name, t.ps) ∧ t.v = .slice (some ⟨q.1, 0, none⟩) t.ps.length q.2 ∧ QRow w q.1 t.ps := by
    intro i hi
    obtain ⟨b, c, hv, _, hq⟩ := h.inner S[i] (List.getElem_mem _)
    exact ⟨(b, c), S[i], List.getElem?_eq_getElem hi, by simp [grp, List.getD, hi], hv, hq⟩
  obtain ⟨f, hf⟩ := @Go.Deep.choose_lt (Nat × Nat) ⟨(0, 0)⟩ _ _ hat
  refine ⟨fun i => (f i).1, fun i => (f i).2, ?_, ?_, ?_, ?_, ?_, ?_, ?_⟩
  · intro i _; exact (h.outer.lt eb rfl).2
  · intro i hi
    obtain ⟨t, ht, hg, _, _⟩ := hf i (by omega)
    rw [hg, h.outer.cellAt _ (by omega)]
    exact (outCells_at S i t ht).1
  · intro i hi
    obtain ⟨t, ht, hg, hv, _⟩ := hf i (by omega)
    rw [hg, h.outer.cellAt _ (by omega), (outCells_at S i t ht).2, hv]
  · intro i hi
    obtain ⟨t, _, _, _, hq⟩ := hf i (by omega)
    exact hq.lt
  · intro i j hi hj
    obtain ⟨t, _, hg, _, hq⟩ := hf i (by omega)
    rw [hg] at hj ⊢
    exact hq.p0 j hj
  · intro i j hi hj
    obtain ⟨t, _, hg, _, hq⟩ := hf i (by omega)
    rw [hg] at hj ⊢
    exact hq.p1 j hj
  · intro i j hi hj
    obtain ⟨t, _, hg, _, hq⟩ := hf i (by omega)
    rw [hg] at hj ⊢
    exact hq.p2 j hj

theorem newsP (W : World) (r : ByteArray) (v : Value) (h1 : ∃ b n c, v = .slice (some ⟨b, 0, none⟩) n c) : (∀ j u, ([.string r, v] : List Value)[j]? = some u → (W.alloc (.cells #[.string r, v] 34)).cell? ((⟨W.heap.size, 0, none⟩ : Addr).add j) = some u) ∧ (∀ u ∈ ([.string r, v] : List Value), u.oneCell' = true) := by
  obtain ⟨b, n, c, rfl⟩ := h1
  refine ⟨?_, ?_⟩
  · intro j u hj
    match j, hj with
    | 0, hj => simp at hj; subst hj; simp [Addr.add]
    | 1, hj => simp at hj; subst hj; simp [Addr.add]
  · intro u hu
    simp only [List.mem_cons, List.not_mem_nil, or_false] at hu
    rcases hu with rfl | rfl <;> rfl

/-! ### the two parts of a catalogue -/
theorem getD_take (xs : List E) (c j : Nat) (h : j < c) : (xs.take c).getD j U0 = xs.getD j U0 := by simp [List.getD, h]
theorem getD_drop (xs : List E) (c j : Nat) : (xs.drop c).getD j U0 = xs.getD (c + j) U0 := by simp [List.getD]
theorem Lies.take {w : World} {b off : Nat} {xs : List E} (h : Lies w b off xs) (c : Nat) : Lies w b off (xs.take c) := by
  refine ⟨fun j hj => ?_, fun j hj => ?_⟩ <;> (rw [List.length_take] at hj; rw [getD_take xs c j (by omega)])
  · exact h.c0 j (by omega)
  · exact h.c1 j (by omega)
theorem Lies.drop {w : World} {b off : Nat} {xs : List E} (h : Lies w b off xs) (c : Nat) : Lies w b (off + c * 2) (xs.drop c) := by
  refine ⟨fun j hj => ?_, fun j hj => ?_⟩ <;> (rw [List.length_drop] at hj; rw [getD_drop xs c j])
  · have := h.c0 (c + j) (by omega)
    rw [show off + (c + j) * 2 = off + c * 2 + j * 2 by omega] at this
    exact this
  · have := h.c1 (c + j) (by omega)
    rw [show off + (c + j) * 2 + 1 = off + c * 2 + j * 2 + 1 by omega] at this
    exact this
theorem Short.take {xs : List E} (h : Short xs) (c : Nat) : Short (xs.take c) := fun j hj => by rw [List.length_take] at hj; rw [getD_take xs c j (by omega)]; exact h j (by omega)
theorem Short.drop {xs : List E} (h : Short xs) (c : Nat) : Short (xs.drop c) := fun j hj => by rw [List.length_drop] at hj; rw [getD_drop xs c j]; exact h (c + j) (by omega)
theorem Dotted.take {xs : List E} (h : Dotted xs) (c : Nat) : Dotted (xs.take c) := fun j hj => by rw [List.length_take] at hj; rw [getD_take xs c j (by omega)]; exact h j (by omega)
theorem Dotted.drop {xs : List E} (h : Dotted xs) (c : Nat) : Dotted (xs.drop c) := fun j hj => by rw [List.length_drop] at hj; rw [getD_drop xs c j]; exact h (c + j) (by omega)

end Go.Proofs.Qxb6628271a
