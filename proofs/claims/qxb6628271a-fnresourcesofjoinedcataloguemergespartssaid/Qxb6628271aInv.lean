import Derived.Test.Qxb6628271aTies
namespace Go.Proofs.Qxb6628271a
open Go.RowKit Go.Maps
open Go.WideMaps (keyOf_string_mk)

theorem Try.info34 : (Try.prog.info? 34).map (fun i => (i.zero, i.size, i.bytes)) = some (some (.agg #[.string ByteArray.empty, .slice none 0 0]), 2, 40) := by kernel_rfl
theorem Try.info36 : (Try.prog.info? 36).map (fun i => (i.zero, i.size, i.bytes)) = some (some (.agg #[.string ByteArray.empty, .string ByteArray.empty, .string ByteArray.empty]), 3, 48) := by kernel_rfl
theorem law9 : Keyed Try.prog 9 := string_keyed Try.underlying9
theorem zeroE (w : World) : (zeroValue 3).run Try.prog w = .ok (.int .i64 0) w := by kernel_rfl

/-- what the loop keeps -/
structure Inv (w wr : World) (v : Value) (ys : List E) : Prop where
  ex : ∃ (S : List T) (D : DataW Unit), Own wr w.heap.size v S ∧ wr.ownsMap Try.prog 9 (plainElem Try.prog 3) w.heap.size ys.length D ∧ Ties D S ∧ grp S = groups ys
  below : Below w.heap.size w wr

theorem owns_len {w : World} {base : Nat} {e : TypeId} {size : Nat} {ao : Option Addr} {m cp n : Nat} {xs : List Value} (h : w.ownsRow base e size (.slice ao m cp) n xs) : m = n := by
  rcases h.2 with ⟨h1, h2⟩ | ⟨g, cap, cur, h1, _⟩
  · simp at h1; omega
  · simp at h1; omega

theorem owns_shape {w : World} {base : Nat} {e : TypeId} {size : Nat} {ao : Option Addr} {m cp n : Nat} {xs : List Value} (h : w.ownsRow base e size (.slice ao m cp) n xs) (hn : 0 < n) : ∃ g, ao = some ⟨g, 0, none⟩ := by
  rcases h.2 with ⟨h1, h2⟩ | ⟨g, cap, cur, h1, _⟩
  · omega
  · simp at h1; exact ⟨g, h1.1⟩

theorem res_short (p : E) (h : p.name.size ≤ maxLen) : p.res.size ≤ maxLen := by
  have : p.res.size ≤ p.name.size := by unfold E.res; rw [ByteArray.size_extract]; omega
  omega

theorem outer_after {w w1 : World} {base gv cv n i : Nat} {S : List T} {t : T} (h : Own w base (.slice (some ⟨gv, 0, none⟩) n cv) S) (hi : S[i]? = some t) (hg : w.grownBy w1 t.v.ownBlock) :
    w1.cell? ⟨gv, i * 2 + 1, none⟩ = some t.v ∧ w1.frozen? ⟨gv, i * 2 + 1, none⟩ = false := by
  have hn : n = S.length := owns_len h.outer
  subst hn
  have ho := h.outer.kept hg (owns_types h.outer (h.inner t (List.mem_of_getElem? hi)) (by decide))
  have hlt := (List.getElem?_eq_some_iff.1 hi).1
  exact ⟨by rw [ho.cellAt _ (by omega)]; exact (outCells_at S i t hi).2, ho.frozenAt _⟩

theorem outer_now {w : World} {base gv cv n i : Nat} {S : List T} {t : T} (h : Own w base (.slice (some ⟨gv, 0, none⟩) n cv) S) (hi : S[i]? = some t) : w.cell? ⟨gv, i * 2 + 1, none⟩ = some t.v :=
  (outer_after h hi (World.grownBy.refl _ _)).1

theorem news3 (W : World) (p : E) (a : ByteArray) (ha : p.act = a) : ∀ j u, (qCells p)[j]? = some u → (W.alloc (.cells #[.string p.name, .string a, .string p.desc] 36)).drew.cell? ((⟨W.heap.size, 0, none⟩ : Addr).add j) = some u := by
  subst ha
  intro j u hj
  match j, hj with
  | 0, hj => simp [qCells] at hj; subst hj; simp [Addr.add]
  | 1, hj => simp [qCells] at hj; subst hj; simp [Addr.add]
  | 2, hj => simp [qCells] at hj; subst hj; simp [Addr.add]
theorem qCells_one (p : E) : ∀ u ∈ qCells p, u.oneCell' = true := by
  intro u hu
  simp only [qCells, List.mem_cons, List.not_mem_nil, or_false] at hu
  rcases hu with rfl | rfl | rfl <;> rfl


theorem map_not_row {w : World} {base : Nat} {e : TypeId} {size : Nat} {v : Value} {n : Nat} {xs : List Value} {M k : Nat} {D : DataW Unit} (h : w.ownsRow base e size v n xs) (hm : w.ownsMap Try.prog 9 (plainElem Try.prog 3) M k D) : some M ≠ v.ownBlock := by
  intro e'
  obtain ⟨c, hc⟩ := owns_block h e'.symm
  obtain ⟨es, clock, hb, _⟩ := hm
  rw [hb] at hc
  cases hc

theorem own_after_map {w w' : World} {base M k : Nat} {v : Value} {S : List T} {D : DataW Unit} (h : Own w base v S) (hm : w.ownsMap Try.prog 9 (plainElem Try.prog 3) M k D) (hg : w.grownBy w' (some M)) : Own w' base v S := by
  refine h.kept hg fun b hb cur e hc => ?_
  cases hb
  obtain ⟨es, clock, hb, _⟩ := hm
  rw [hb] at hc
  cases hc

theorem news2 (W : World) (r : ByteArray) : ∀ j u, ([.string r, .slice none 0 0] : List Value)[j]? = some u → (W.alloc (.cells #[.string r, .slice none 0 0] 34)).cell? ((⟨W.heap.size, 0, none⟩ : Addr).add j) = some u := by
  intro j u hj
  match j, hj with
  | 0, hj => simp at hj; subst hj; simp [Addr.add]
  | 1, hj => simp at hj; subst hj; simp [Addr.add]
theorem news2_one (r : ByteArray) : ∀ u ∈ ([.string r, .slice none 0 0] : List Value), u.oneCell' = true := by
  intro u hu
  simp only [List.mem_cons, List.not_mem_nil, or_false] at hu
  rcases hu with rfl | rfl <;> rfl

/-- a cell of a block of another make is as it was behind an append to the outer row -/
theorem box_after {w w' : World} {base : Nat} {v : Value} {S : List T} {a : Addr} {x : Value} {cur : Array Value} {e : TypeId} (h : Own w base v S) (hg : w.grownBy w' v.ownBlock) (hb : w.heap[a.block]? = some (.cells cur e (0, 0))) (he : e ≠ 34) (hc : w.cell? a = some x) : w'.cell? a = some x := by
  refine hg.cell hc fun e' => ?_
  obtain ⟨c, hc'⟩ := owns_block h.outer e'.symm
  rw [hb] at hc'
  simp at hc'
  exact he hc'.2

theorem grp_set (S : List T) (i : Nat) (u : T) : grp (S.set i u) = (grp S).set i (u.name, u.ps) := by simp [grp, List.map_set]

theorem inv_end {w W0 w1 : World} {gv m cp i gi cap k : Nat} {S : List T} {t : T} {p : E} {D : DataW Unit} {ys : List E} (hown : Own W0 w.heap.size (.slice (some ⟨gv, 0, none⟩) m cp) S) (hi : S[i]? = some t)
    (hown1 : w1.ownsRow w.heap.size 36 3 (.slice (some ⟨gi, 0, none⟩) (t.ps.length + 1) cap) (t.ps.length + 1) (qsCells t.ps ++ qCells p)) (hgrow : W0.grownBy w1 t.v.ownBlock) (hat : t.v.ownBlock = some gi ∨ gi = W0.heap.size)
    (hmap : W0.ownsMap Try.prog 9 (plainElem Try.prog 3) w.heap.size k D) (hk : k ≤ ys.length) (hties : Ties D S) (hg : (grp S).set i (t.name, t.ps ++ [p]) = groups ys) (hb : Below w.heap.size w W0) :
    Inv w (w1.setCell ⟨gv, i * 2 + 1, none⟩ (.slice (some ⟨gi, 0, none⟩) (t.ps.length + 1) cap)) (.slice (some ⟨gv, 0, none⟩) m cp) ys := by
  have hm : m = S.length := owns_len hown.outer
  subst hm
  have hin := hown.inner t (List.mem_of_getElem? hi)
  have hput := Own.put hown hi hown1 hgrow hat
  have hmap1 := hmap.kept hgrow (map_not_row hin hmap)
  have hgv : w.heap.size ≠ gv := by
    intro e
    exact map_not_row hown.outer hmap (by simp [Value.ownBlock, e])
  refine ⟨⟨_, D, hput, (hmap1.setCell (a := ⟨gv, i * 2 + 1, none⟩) hgv _).mono hk, hties.set hi rfl, ?_⟩, ?_⟩
  · rw [grp_set]; exact hg
  · exact (hb.grown hgrow hb.size (fun b hb' => (hin.lt b hb').1)).setCell (hown.outer.lt gv rfl).1 _

theorem take_snoc (xs : List E) (k : Nat) (h : k < xs.length) : xs.take (k + 1) = xs.take k ++ [xs.getD k U0] := by
  rw [List.take_succ_eq_append_getElem h, getD_at xs k h]

theorem grp_seen {S : List T} {xs : List E} {k i : Nat} {t : T} {p : E} (hg : grp S = groups (xs.take k)) (hk : k < xs.length) (hp : p = xs.getD k U0) (hi : S[i]? = some t) (ht : t.name = p.res) :
    (grp S).set i (t.name, t.ps ++ [p]) = groups (xs.take (k + 1)) := by
  have h : (groups (xs.take k))[i]? = some (p.res, t.ps) := by rw [← hg]; simp [grp, hi, ht]
  rw [take_snoc xs k hk, ← hp, groups_seen _ p i t.ps h, hg, ht]

theorem grp_new {S : List T} {xs : List E} {k : Nat} {p : E} (hg : grp S = groups (xs.take k)) (hk : k < xs.length) (hp : p = xs.getD k U0) (hn : ∀ t ∈ S, t.name ≠ p.res) :
    (grp (S ++ [⟨p.res, [], .slice none 0 0⟩])).set S.length (p.res, [] ++ [p]) = groups (xs.take (k + 1)) := by
  rw [take_snoc xs k hk, ← hp, groups_new, ← hg]
  · have : S.length = (grp S).length := by simp [grp]
    simp [grp]
  · intro g hgm
    rw [← hg] at hgm
    simp only [grp, List.mem_map] at hgm
    obtain ⟨t, ht, rfl⟩ := hgm
    exact hn t ht

/-- no group is longer than the catalogue -/
theorem ps_le {S : List T} {ys : List E} {t : T} (hg : grp S = groups ys) (ht : t ∈ S) : t.ps.length ≤ ys.length := by
  have : (t.name, t.ps) ∈ groups ys := by rw [← hg]; simp only [grp, List.mem_map]; exact ⟨t, ht, rfl⟩
  simp only [groups, List.mem_map, Prod.mk.injEq] at this
  obtain ⟨r, _, _, h⟩ := this
  rw [← h]
  exact List.length_filter_le _ _
/-- nor are there more groups than entries -/
theorem grp_le {S : List T} {ys : List E} (hg : grp S = groups ys) : S.length ≤ ys.length := by
  have h1 : S.length = (groups ys).length := by rw [← hg]; simp [grp]
  rw [h1, groups_length]
  induction ys using snoc_ind generalizing S with
  | h0 => exact Nat.zero_le _
  | h1 ys p ih => 
    rw [firsts_snoc, List.length_append]
    have ih' : (firsts ys).length ≤ ys.length := by
      have hS : grp ((groups ys).map fun g => (⟨g.1, g.2, .slice none 0 0⟩ : T)) = groups ys := by simp [grp, Function.comp_def]
      exact ih hS (by rw [List.length_map])
    split
    · omega
    · simp; omega
end Go.Proofs.Qxb6628271a
