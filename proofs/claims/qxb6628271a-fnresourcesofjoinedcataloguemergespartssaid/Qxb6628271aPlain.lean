/- the plain layer: what the Go functions compute, with no Go in sight -/
namespace Go.Proofs.Qxb6628271a

/-- one catalogue entry: its name and its description -/
structure E where
  name : ByteArray
  desc : ByteArray

/-- the last dot among the first k bytes, or -1 -/
def dotTo (s : ByteArray) : Nat → Int
  | 0 => -1
  | k + 1 => if s.data.getD k 0 = 46 then (k : Int) else dotTo s k
def dot (s : ByteArray) : Int := dotTo s s.size

theorem dotTo_range (s : ByteArray) (k : Nat) : -1 ≤ dotTo s k ∧ dotTo s k < k := by
  induction k with
  | zero => simp [dotTo]
  | succ k ih => unfold dotTo; split <;> omega

theorem dot_range (s : ByteArray) : -1 ≤ dot s ∧ dot s < s.size := dotTo_range s s.size

theorem dotTo_at (s : ByteArray) (k : Nat) (h : 0 ≤ dotTo s k) : s.data.getD (dotTo s k).toNat 0 = 46 := by
  induction k with
  | zero => simp [dotTo] at h
  | succ k ih =>
    unfold dotTo at h ⊢
    split
    · rename_i he; simpa [Array.getD] using he
    · rename_i hne; rw [if_neg hne] at h; exact ih h

def U0 : E := ⟨ByteArray.empty, ByteArray.empty⟩
/-- an entry's resource and its action -/
def E.res (p : E) : ByteArray := p.name.extract 0 (dot p.name).toNat
def E.act (p : E) : ByteArray := p.name.extract ((dot p.name).toNat + 1) p.name.size

/-- is r among them? -/
def seen (acc : List ByteArray) (r : ByteArray) : Bool := acc.any fun x => decide (x = r)
theorem seen_iff (acc : List ByteArray) (r : ByteArray) : seen acc r = true ↔ r ∈ acc := by
  simp [seen, List.any_eq_true]
theorem seen_not (acc : List ByteArray) (r : ByteArray) : seen acc r = false ↔ r ∉ acc := by
  rw [← seen_iff]; simp

/-- the resources in the order in which each is first seen -/
def firsts (xs : List E) : List ByteArray := xs.foldl (fun acc p => if seen acc p.res = true then acc else acc ++ [p.res]) []
/-- what is listed under r -/
def under (xs : List E) (r : ByteArray) : List E := xs.filter fun p => decide (p.res = r)
/-- the grouping -/
def groups (xs : List E) : List (ByteArray × List E) := (firsts xs).map fun r => (r, under xs r)

theorem firsts_snoc (xs : List E) (p : E) : firsts (xs ++ [p]) = if seen (firsts xs) p.res = true then firsts xs else firsts xs ++ [p.res] := by
  unfold firsts; rw [List.foldl_append]; rfl

theorem under_snoc (xs : List E) (p : E) (r : ByteArray) : under (xs ++ [p]) r = under xs r ++ if p.res = r then [p] else [] := by
  by_cases h : p.res = r <;> simp [under, List.filter_append, h]

theorem snoc_ind {α : Type} {q : List α → Prop} (h0 : q []) (h1 : ∀ xs x, q xs → q (xs ++ [x])) (xs : List α) : q xs := by
  have h : ∀ ys : List α, q ys.reverse := by
    intro ys
    induction ys with
    | nil => exact h0
    | cons y ys ih => rw [List.reverse_cons]; exact h1 _ _ ih
  have := h xs.reverse
  rwa [List.reverse_reverse] at this

theorem mem_firsts (xs : List E) (r : ByteArray) : r ∈ firsts xs ↔ ∃ p ∈ xs, p.res = r := by
  induction xs using snoc_ind with
  | h0 => simp [firsts]
  | h1 xs p ih =>
    rw [firsts_snoc]
    split
    · rename_i hs
      rw [seen_iff] at hs
      rw [ih]
      constructor
      · rintro ⟨q, hq, rfl⟩; exact ⟨q, by simp [hq], rfl⟩
      · rintro ⟨q, hq, rfl⟩
        simp at hq
        rcases hq with hq | rfl
        · exact ⟨q, hq, rfl⟩
        · rw [← ih]; exact hs
    · simp only [List.mem_append, ih, List.mem_singleton]
      constructor
      · rintro (⟨q, hq, rfl⟩ | rfl)
        · exact ⟨q, by simp [hq], rfl⟩
        · exact ⟨p, by simp, rfl⟩
      · rintro ⟨q, hq, rfl⟩
        rcases hq with hq | rfl
        · exact .inl ⟨q, hq, rfl⟩
        · exact .inr rfl

theorem nodup_firsts (xs : List E) : (firsts xs).Nodup := by
  induction xs using snoc_ind with
  | h0 => exact List.nodup_nil
  | h1 xs p ih =>
    rw [firsts_snoc]
    split
    · exact ih
    · rename_i hs
      rw [seen_iff] at hs
      rw [List.nodup_append]
      refine ⟨ih, by simp, ?_⟩
      rintro a ha b hb rfl
      simp at hb
      subst hb
      exact hs ha

theorem under_nil {xs : List E} {r : ByteArray} (h : r ∉ firsts xs) : under xs r = [] := by
  rw [under, List.filter_eq_nil_iff]
  intro p hp hr
  exact h ((mem_firsts xs r).2 ⟨p, hp, by simpa using hr⟩)

theorem groups_length (xs : List E) : (groups xs).length = (firsts xs).length := by simp [groups]

end Go.Proofs.Qxb6628271a
