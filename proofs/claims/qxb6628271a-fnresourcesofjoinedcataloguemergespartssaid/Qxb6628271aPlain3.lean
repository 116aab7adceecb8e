import Derived.Test.Qxb6628271aPlain2
namespace Go.Proofs.Qxb6628271a

/-- those of r's resources that l lacks -/
def lacks (l : List E) (L : List ByteArray) : List ByteArray := L.filter fun x => !seen (firsts l) x

theorem mem_firsts_append (l r : List E) (x : ByteArray) : x ∈ firsts (l ++ r) ↔ x ∈ firsts l ∨ x ∈ firsts r := by
  rw [mem_firsts, mem_firsts, mem_firsts]
  constructor
  · rintro ⟨q, hq, he⟩
    rcases List.mem_append.1 hq with h | h
    · exact .inl ⟨q, h, he⟩
    · exact .inr ⟨q, h, he⟩
  · rintro (⟨q, hq, he⟩ | ⟨q, hq, he⟩)
    · exact ⟨q, List.mem_append.2 (.inl hq), he⟩
    · exact ⟨q, List.mem_append.2 (.inr hq), he⟩

theorem lacks_append (l : List E) (L M : List ByteArray) : lacks l (L ++ M) = lacks l L ++ lacks l M := by simp [lacks, List.filter_append]
theorem lacks_one_in {l : List E} {x : ByteArray} (h : x ∈ firsts l) : lacks l [x] = [] := by simp [lacks, (seen_iff _ _).2 h]
theorem lacks_one_out {l : List E} {x : ByteArray} (h : x ∉ firsts l) : lacks l [x] = [x] := by simp [lacks, (seen_not _ _).2 h]

theorem firsts_append (l r : List E) : firsts (l ++ r) = firsts l ++ lacks l (firsts r) := by
  induction r using snoc_ind with
  | h0 => simp [firsts, lacks]
  | h1 ys p ih =>
    rw [← List.append_assoc, firsts_snoc, firsts_snoc ys p]
    by_cases hy : p.res ∈ firsts ys
    · rw [if_pos ((seen_iff _ _).2 ((mem_firsts_append l ys _).2 (.inr hy))), if_pos ((seen_iff _ _).2 hy), ih]
    · rw [if_neg (c := seen (firsts ys) p.res = true) (by rw [seen_iff]; exact hy), lacks_append]
      by_cases hl : p.res ∈ firsts l
      · rw [if_pos ((seen_iff _ _).2 ((mem_firsts_append l ys _).2 (.inl hl))), lacks_one_in hl, List.append_nil, ih]
      · rw [if_neg (c := seen (firsts (l ++ ys)) p.res = true) (by rw [seen_iff, mem_firsts_append]; rintro (h | h) <;> contradiction), lacks_one_out hl, ih, List.append_assoc]

theorem under_append (l r : List E) (x : ByteArray) : under (l ++ r) x = under l x ++ under r x := by simp [under, List.filter_append]

theorem groups_append (l r : List E) : groups (l ++ r) = (firsts l).map (fun x => (x, under l x ++ under r x)) ++ (lacks l (firsts r)).map (fun x => (x, under r x)) := by
  unfold groups
  rw [firsts_append, List.map_append]
  congr 1
  · exact List.map_congr_left fun x _ => by rw [under_append]
  · refine List.map_congr_left fun x hx => ?_
    have hn : x ∉ firsts l := by
      simp only [lacks, List.mem_filter] at hx
      have h2 := hx.2
      simp at h2
      rw [seen_not] at h2
      exact h2
    rw [under_append, under_nil hn, List.nil_append]

/-- how many permissions the first i resources list -/
def tot (xs : List E) : Nat → Nat
  | 0 => 0
  | i + 1 => tot xs i + (under xs (nm xs i)).length

def sumU (xs : List E) (L : List ByteArray) : Nat := (L.map fun r => (under xs r).length).sum
theorem sumU_append (xs : List E) (L M : List ByteArray) : sumU xs (L ++ M) = sumU xs L + sumU xs M := by simp [sumU]
theorem sumU_snoc_not (xs : List E) (p : E) (L : List ByteArray) (h : p.res ∉ L) : sumU (xs ++ [p]) L = sumU xs L := by
  unfold sumU
  congr 1
  refine List.map_congr_left fun x hx => ?_
  have hne : ¬ p.res = x := fun e => h (by rw [e]; exact hx)
  rw [under_snoc, if_neg hne, List.append_nil]
theorem sumU_snoc_mem (xs : List E) (p : E) (L : List ByteArray) (hn : L.Nodup) (h : p.res ∈ L) : sumU (xs ++ [p]) L = sumU xs L + 1 := by
  induction L with
  | nil => simp at h
  | cons x L ih =>
    have e : ∀ ys : List E, sumU ys (x :: L) = (under ys x).length + sumU ys L := fun ys => by simp [sumU]
    rw [e, e]
    rw [List.nodup_cons] at hn
    by_cases hx : p.res = x
    · rw [sumU_snoc_not _ _ _ (by rw [hx]; exact hn.1), under_snoc, if_pos hx, List.length_append]; simp; omega
    · rw [under_snoc, if_neg hx, List.append_nil, ih hn.2 (by simpa [hx] using h)]; omega
theorem sumU_all (xs : List E) : sumU xs (firsts xs) = xs.length := by
  induction xs using snoc_ind with
  | h0 => simp [sumU, firsts]
  | h1 ys p ih =>
    rw [firsts_snoc, List.length_append]
    split
    · rename_i h
      rw [sumU_snoc_mem _ _ _ (nodup_firsts ys) ((seen_iff _ _).1 h), ih]; rfl
    · rename_i h
      have hn : p.res ∉ firsts ys := by rw [← seen_iff]; exact h
      rw [sumU_append, sumU_snoc_not _ _ _ hn, ih]
      simp [sumU, under_snoc, under_nil hn]
theorem nm_eq {xs : List E} {i : Nat} (hi : i < (firsts xs).length) : nm xs i = (firsts xs)[i] := by simp [nm, List.getD, hi]
theorem tot_eq (xs : List E) (i : Nat) (hi : i ≤ (firsts xs).length) : tot xs i = sumU xs ((firsts xs).take i) := by
  induction i with
  | zero => simp [tot, sumU]
  | succ i ih =>
    rw [List.take_succ_eq_append_getElem (by omega), sumU_append, tot, ih (by omega), nm_eq (by omega)]
    simp [sumU]
theorem tot_all (xs : List E) : tot xs (firsts xs).length = xs.length := by
  rw [tot_eq xs _ (Nat.le_refl _), List.take_length, sumU_all]
theorem sumU_le (xs : List E) (i : Nat) : sumU xs ((firsts xs).take i) ≤ xs.length := by
  have h := sumU_all xs
  rw [← List.take_append_drop i (firsts xs), sumU_append] at h
  omega
theorem tot_le (xs : List E) (i : Nat) (hi : i ≤ (firsts xs).length) : tot xs i ≤ xs.length := by
  rw [tot_eq xs i hi]; exact sumU_le xs i

/-- an entry of a group -/
theorem under_at {xs : List E} {r : ByteArray} {j : Nat} (h : j < (under xs r).length) : (((under xs r).getD j U0).res = r) ∧ ∃ q, q < xs.length ∧ xs.getD q U0 = (under xs r).getD j U0 := by
  have hm : (under xs r).getD j U0 ∈ under xs r := by
    rw [getD_eq _ _ h]; exact List.getElem_mem _
  simp only [under, List.mem_filter, decide_eq_true_eq] at hm ⊢
  refine ⟨hm.2, ?_⟩
  obtain ⟨q, hq⟩ := List.getElem?_of_mem hm.1
  exact ⟨q, (List.getElem?_eq_some_iff.1 hq).1, by rw [List.getD, hq]; rfl⟩

/-- what of r's permissions is listed under x by the first j resources of r -/
def mt (r : List E) (x : ByteArray) (j : Nat) : List E := if seen ((firsts r).take j) x = true then under r x else []
theorem mt_zero (r : List E) (x : ByteArray) : mt r x 0 = [] := by simp [mt, seen]
theorem take_firsts (r : List E) (j : Nat) (hj : j < (firsts r).length) : (firsts r).take (j + 1) = (firsts r).take j ++ [nm r j] := by
  rw [List.take_succ_eq_append_getElem hj, nm_eq hj]
theorem nm_notin (r : List E) (j : Nat) (hj : j < (firsts r).length) : nm r j ∉ (firsts r).take j := by
  intro h
  have hn := nodup_firsts r
  rw [← List.take_append_drop (j + 1) (firsts r), take_firsts r j hj] at hn
  have h2 := (List.nodup_append.1 hn).1
  exact (List.nodup_append.1 h2).2.2 _ h _ (by simp) rfl
theorem mt_hit {r : List E} {x : ByteArray} {j : Nat} (hj : j < (firsts r).length) (h : nm r j = x) : mt r x j = [] ∧ mt r x (j + 1) = under r x := by
  subst h
  refine ⟨?_, ?_⟩
  · unfold mt; rw [if_neg (by rw [seen_iff]; exact nm_notin r j hj)]
  · unfold mt; rw [if_pos (by rw [seen_iff, take_firsts r j hj]; simp)]
theorem mt_miss {r : List E} {x : ByteArray} {j : Nat} (hj : j < (firsts r).length) (h : ¬ nm r j = x) : mt r x (j + 1) = mt r x j := by
  unfold mt
  have e : seen ((firsts r).take (j + 1)) x = seen ((firsts r).take j) x := by
    rw [Bool.eq_iff_iff, seen_iff, seen_iff, take_firsts r j hj]
    simp only [List.mem_append, List.mem_singleton]
    constructor
    · rintro (h' | h')
      · exact h'
      · exact absurd h'.symm h
    · exact Or.inl
  rw [e]
theorem mt_all (r : List E) (x : ByteArray) : mt r x (firsts r).length = under r x := by
  unfold mt
  rw [List.take_length]
  split
  · rfl
  · rename_i h
    exact (under_nil (by rw [← seen_iff]; exact h)).symm
theorem mt_le (r : List E) (x : ByteArray) (j : Nat) : (mt r x j).length ≤ r.length := by
  unfold mt
  split
  · exact List.length_filter_le _ _
  · simp

theorem lacks_new {l r : List E} {j : Nat} (hj : j < (firsts r).length) (h : ∀ i, i < (firsts l).length → nm l i ≠ nm r j) : lacks l ((firsts r).take (j + 1)) = lacks l ((firsts r).take j) ++ [nm r j] := by
  have hn : seen (firsts l) (nm r j) = false := by
    rw [seen_not]
    intro hm
    obtain ⟨i, hi⟩ := List.getElem?_of_mem hm
    have hlt := (List.getElem?_eq_some_iff.1 hi).1
    exact h i hlt (by rw [nm_eq hlt]; exact (List.getElem?_eq_some_iff.1 hi).2)
  rw [take_firsts r j hj]
  simp [lacks, List.filter_append, hn]
theorem lacks_old {l r : List E} {i j : Nat} (hj : j < (firsts r).length) (hi : i < (firsts l).length) (h : nm l i = nm r j) : lacks l ((firsts r).take (j + 1)) = lacks l ((firsts r).take j) := by
  have hn : seen (firsts l) (nm r j) = true := by
    rw [seen_iff, ← h, nm_eq hi]; exact List.getElem_mem _
  rw [take_firsts r j hj]
  simp [lacks, List.filter_append, hn]
theorem lacks_le (l : List E) (L : List ByteArray) : (lacks l L).length ≤ L.length := List.length_filter_le _ _

/-- what a dotted name is made of -/
theorem name_parts (p : E) (h : 0 ≤ dot p.name) : p.name.size = p.res.size + 1 + p.act.size ∧ p.name.extract 0 p.res.size = p.res ∧ p.res.size < p.name.size ∧ p.name.data.getD p.res.size 0 = 46 ∧ p.name.extract (p.res.size + 1) p.name.size = p.act := by
  have hr := dot_range p.name
  obtain ⟨d, hd⟩ := Int.eq_ofNat_of_zero_le h
  have hlt : d < p.name.size := by rw [hd] at hr; exact Int.ofNat_lt.1 hr.2
  have er : p.res = p.name.extract 0 d := by unfold E.res; rw [hd]; rfl
  have ea : p.act = p.name.extract (d + 1) p.name.size := by unfold E.act; rw [hd]; rfl
  have es : p.res.size = d := by rw [er, ByteArray.size_extract]; omega
  have ez : p.act.size = p.name.size - (d + 1) := by rw [ea, ByteArray.size_extract]; omega
  refine ⟨by rw [es, ez]; omega, by rw [es, er], by rw [es]; exact hlt, ?_, by rw [es, ea]⟩
  have := dotTo_at p.name p.name.size h
  rw [es]
  unfold dot at hd
  rw [hd] at this
  exact this

end Go.Proofs.Qxb6628271a
