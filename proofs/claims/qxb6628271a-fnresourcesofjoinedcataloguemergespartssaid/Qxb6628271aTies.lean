import Derived.Test.Qxb6628271aOwn
namespace Go.Proofs.Qxb6628271a
open Go.RowKit Go.Maps

def keyL (r : ByteArray) : Lit := .string r.data.toList
theorem keyL_inj {a b : ByteArray} (h : keyL a = keyL b) : a = b := by
  simp only [keyL, Lit.string.injEq] at h
  have := Array.toList_inj.1 h
  cases a; cases b; simp_all

theorem keyL_is (r : ByteArray) : WideAt.IsKeyLit (keyL r) := trivial

/-- the map leads each resource's name to its place -/
structure Ties (D : DataW Unit) (S : List T) : Prop where
  isMap : IsMap D
  yes : ∀ (i : Nat) (t : T), S[i]? = some t → Maps.has D (keyL t.name) = true ∧ D.atKey (keyL t.name) (.lit (.int .i64 0)) = .lit (.int .i64 i)
  no : ∀ r : ByteArray, (∀ t ∈ S, t.name ≠ r) → Maps.has D (keyL r) = false

theorem ties_empty : Ties (.map []) [] := ⟨isMap_empty, fun i t h => by simp at h, fun r _ => rfl⟩

theorem Ties.push {D : DataW Unit} {S : List T} {r : ByteArray} (h : Ties D S) (hr : ∀ t ∈ S, t.name ≠ r) (v : Value) (ps : List E) :
    Ties (D.put (keyL r) (.lit (.int .i64 S.length))) (S ++ [⟨r, ps, v⟩]) := by
  refine ⟨h.isMap.put _ _, ?_, ?_⟩
  · intro i t hi
    by_cases hil : i < S.length
    · rw [List.getElem?_append_left hil] at hi
      have hne : keyL t.name ≠ keyL r := fun e => hr t (List.mem_of_getElem? hi) (keyL_inj e)
      rw [has_put_other hne, atKey_put_other hne]
      exact h.yes i t hi
    · rw [List.getElem?_append_right (by omega)] at hi
      have hi0 : i - S.length = 0 := by
        have := (List.getElem?_eq_some_iff.1 hi).1
        simp at this; omega
      rw [hi0] at hi
      simp at hi
      subst hi
      have e : i = S.length := by omega
      subst e
      exact ⟨has_put_same h.isMap (keyL_is r) _, atKey_put_same h.isMap (keyL_is r) _ _⟩
  · intro q hq
    have hne : keyL q ≠ keyL r := fun e => hq ⟨r, ps, v⟩ (by simp) (keyL_inj e).symm
    rw [has_put_other hne]
    exact h.no q (fun t ht => hq t (by simp [ht]))

theorem Ties.set {D : DataW Unit} {S : List T} {i : Nat} {t u : T} (h : Ties D S) (hi : S[i]? = some t) (hu : u.name = t.name) : Ties D (S.set i u) := by
  refine ⟨h.isMap, ?_, ?_⟩
  · intro j s hj
    by_cases hij : i = j
    · subst hij
      rw [List.getElem?_set_self (List.getElem?_eq_some_iff.1 hi).1] at hj
      cases hj
      rw [hu]
      exact h.yes i t hi
    · rw [List.getElem?_set_ne hij] at hj
      exact h.yes j s hj
  · intro r hr
    refine h.no r fun s hs => ?_
    obtain ⟨j, hj⟩ := List.getElem?_of_mem hs
    by_cases hij : i = j
    · subst hij
      rw [hi] at hj
      cases hj
      rw [← hu]
      exact hr u (List.mem_iff_getElem?.2 ⟨i, List.getElem?_set_self (List.getElem?_eq_some_iff.1 hi).1⟩)
    · exact hr s (List.mem_iff_getElem?.2 ⟨j, by rw [List.getElem?_set_ne hij]; exact hj⟩)

/-- the state's grouping -/
def grp (S : List T) : List (ByteArray × List E) := S.map fun t => (t.name, t.ps)

theorem groups_seen (ys : List E) (p : E) (i : Nat) (L : List E) (h : (groups ys)[i]? = some (p.res, L)) : groups (ys ++ [p]) = (groups ys).set i (p.res, L ++ [p]) := by
  have hr : p.res ∈ firsts ys := by
    have := List.mem_of_getElem? h
    simp only [groups, List.mem_map, Prod.mk.injEq] at this
    obtain ⟨r, hr, rfl, _⟩ := this
    exact hr
  have hf : firsts (ys ++ [p]) = firsts ys := by rw [firsts_snoc, if_pos ((seen_iff _ _).2 hr)]
  have hgi : (firsts ys)[i]? = some p.res ∧ under ys p.res = L := by
    simp only [groups, List.getElem?_map, Option.map_eq_some_iff, Prod.mk.injEq] at h
    obtain ⟨r, hr, rfl, rfl⟩ := h
    exact ⟨hr, rfl⟩
  apply List.ext_getElem?
  intro j
  unfold groups
  rw [hf, List.getElem?_map]
  by_cases hij : i = j
  · subst hij
    rw [List.getElem?_set_self (by have := (List.getElem?_eq_some_iff.1 hgi.1).1; simpa using this), hgi.1]
    simp [under_snoc, hgi.2]
  · rw [List.getElem?_set_ne hij, List.getElem?_map]
    cases hj : (firsts ys)[j]? with
    | none => rfl
    | some r =>
      have hne : p.res ≠ r := by
        intro e
        subst e
        exact hij ((List.getElem?_inj (List.getElem?_eq_some_iff.1 hgi.1).1 (nodup_firsts ys)).1 (by rw [hgi.1, hj]))
      simp [under_snoc, hne]

theorem groups_new (ys : List E) (p : E) (h : ∀ g ∈ groups ys, g.1 ≠ p.res) : groups (ys ++ [p]) = groups ys ++ [(p.res, [p])] := by
  have hr : p.res ∉ firsts ys := fun hm => h (p.res, under ys p.res) (by simp only [groups, List.mem_map]; exact ⟨_, hm, rfl⟩) rfl
  have hf : firsts (ys ++ [p]) = firsts ys ++ [p.res] := by rw [firsts_snoc, if_neg (by rw [seen_iff]; exact hr)]
  unfold groups
  rw [hf, List.map_append]
  congr 1
  · refine List.map_congr_left fun r hrm => ?_
    have hne : p.res ≠ r := fun e => hr (e ▸ hrm)
    simp [under_snoc, hne]
  · simp [under_snoc, under_nil hr]

end Go.Proofs.Qxb6628271a
