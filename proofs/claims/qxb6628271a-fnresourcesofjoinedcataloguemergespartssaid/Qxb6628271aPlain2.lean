import Derived.Test.Qxb6628271aPlain
namespace Go.Proofs.Qxb6628271a

theorem getD_eq (xs : List E) (k : Nat) (h : k < xs.length) : xs.getD k U0 = xs[k] := by simp [List.getD, h]
theorem take_snoc' (xs : List E) (k : Nat) (h : k < xs.length) : xs.take (k + 1) = xs.take k ++ [xs.getD k U0] := by
  rw [List.take_succ_eq_append_getElem h, getD_eq xs k h]

/-- how many of the first j entries lie under r -/
def cnt (xs : List E) (r : ByteArray) (j : Nat) : Nat := (under (xs.take j) r).length

theorem cnt_hit {xs : List E} {r : ByteArray} {j : Nat} (h : j < xs.length) (hr : (xs.getD j U0).res = r) : cnt xs r (j + 1) = cnt xs r j + 1 := by
  unfold cnt; rw [take_snoc' xs j h, under_snoc, if_pos hr]; simp
theorem cnt_miss {xs : List E} {r : ByteArray} {j : Nat} (h : j < xs.length) (hr : ¬ (xs.getD j U0).res = r) : cnt xs r (j + 1) = cnt xs r j := by
  unfold cnt; rw [take_snoc' xs j h, under_snoc, if_neg hr]; simp
theorem under_split (xs : List E) (r : ByteArray) (j : Nat) : under xs r = under (xs.take j) r ++ under (xs.drop j) r := by
  unfold under; rw [← List.filter_append, List.take_append_drop]
theorem cnt_at {xs : List E} {r : ByteArray} {j : Nat} (h : j < xs.length) (hr : (xs.getD j U0).res = r) : cnt xs r j < (under xs r).length ∧ (under xs r).getD (cnt xs r j) U0 = xs.getD j U0 := by
  have e : under xs r = under (xs.take j) r ++ (xs.getD j U0 :: under (xs.drop (j + 1)) r) := by
    rw [under_split xs r j, List.drop_eq_getElem_cons h, ← getD_eq xs j h]
    congr 1
    unfold under
    rw [List.filter_cons_of_pos (by simp only [decide_eq_true_eq]; exact hr)]
  rw [e]
  constructor
  · simp [cnt]
  · unfold cnt
    simp [List.getD]
theorem cnt_all (xs : List E) (r : ByteArray) : cnt xs r xs.length = (under xs r).length := by
  unfold cnt; rw [List.take_length]
theorem cnt_le (xs : List E) (r : ByteArray) (j : Nat) : cnt xs r j ≤ xs.length := by
  unfold cnt under
  have h1 := List.length_filter_le (fun p : E => decide (p.res = r)) (xs.take j)
  have h2 : (xs.take j).length ≤ xs.length := by rw [List.length_take]; omega
  omega
theorem cnt_zero {xs : List E} {r : ByteArray} {i : Nat} (hi : i ≤ xs.length) (h : ∀ q, q < i → (xs.getD q U0).res ≠ r) : cnt xs r i = 0 := by
  induction i with
  | zero => simp [cnt, under]
  | succ i ih => rw [cnt_miss (by omega) (h i (by omega))]; exact ih (by omega) (fun q hq => h q (by omega))

/-- how many resources the first i entries show -/
def fst (xs : List E) (i : Nat) : Nat := (firsts (xs.take i)).length
def nm (xs : List E) (i : Nat) : ByteArray := (firsts xs).getD i ByteArray.empty

theorem mem_take_firsts (xs : List E) (i : Nat) (hi : i ≤ xs.length) (r : ByteArray) : r ∈ firsts (xs.take i) ↔ ∃ q, q < i ∧ (xs.getD q U0).res = r := by
  rw [mem_firsts]
  constructor
  · rintro ⟨p, hp, rfl⟩
    obtain ⟨q, hq⟩ := List.getElem?_of_mem hp
    have hqi : q < i := by
      have := (List.getElem?_eq_some_iff.1 hq).1
      rw [List.length_take] at this; omega
    rw [List.getElem?_take_of_lt hqi] at hq
    exact ⟨q, hqi, by simp [List.getD, hq]⟩
  · rintro ⟨q, hq, rfl⟩
    refine ⟨xs.getD q U0, ?_, rfl⟩
    rw [getD_eq xs q (by omega)]
    exact List.mem_iff_getElem?.2 ⟨q, by rw [List.getElem?_take_of_lt hq]; exact List.getElem?_eq_getElem (by omega)⟩

theorem fst_old {xs : List E} {i q : Nat} (hi : i < xs.length) (hq : q < i) (h : (xs.getD q U0).res = (xs.getD i U0).res) : fst xs (i + 1) = fst xs i := by
  unfold fst
  rw [take_snoc' xs i hi, firsts_snoc, if_pos]
  rw [seen_iff, mem_take_firsts xs i (by omega)]
  exact ⟨q, hq, h⟩
theorem firsts_new {xs : List E} {i : Nat} (hi : i < xs.length) (h : ∀ q, q < i → (xs.getD q U0).res ≠ (xs.getD i U0).res) : firsts (xs.take (i + 1)) = firsts (xs.take i) ++ [(xs.getD i U0).res] := by
  rw [take_snoc' xs i hi, firsts_snoc, if_neg]
  rw [seen_iff, mem_take_firsts xs i (by omega)]
  rintro ⟨q, hq, he⟩
  exact h q hq he
theorem fst_new {xs : List E} {i : Nat} (hi : i < xs.length) (h : ∀ q, q < i → (xs.getD q U0).res ≠ (xs.getD i U0).res) : fst xs (i + 1) = fst xs i + 1 := by
  unfold fst; rw [firsts_new hi h]; simp

theorem firsts_grow (xs ys : List E) : ∃ zs, firsts (xs ++ ys) = firsts xs ++ zs := by
  induction ys using snoc_ind with
  | h0 => exact ⟨[], by simp⟩
  | h1 ys p ih =>
    obtain ⟨zs, hz⟩ := ih
    rw [← List.append_assoc, firsts_snoc]
    split
    · exact ⟨zs, hz⟩
    · exact ⟨zs ++ [p.res], by rw [hz, List.append_assoc]⟩
theorem nm_new {xs : List E} {i : Nat} (hi : i < xs.length) (h : ∀ q, q < i → (xs.getD q U0).res ≠ (xs.getD i U0).res) : fst xs i < (firsts xs).length ∧ nm xs (fst xs i) = (xs.getD i U0).res := by
  obtain ⟨zs, hz⟩ := firsts_grow (xs.take (i + 1)) (xs.drop (i + 1))
  rw [List.take_append_drop, firsts_new hi h] at hz
  unfold nm fst
  rw [hz]
  constructor
  · simp
  · simp [List.getD]
theorem fst_all (xs : List E) : fst xs xs.length = (firsts xs).length := by unfold fst; rw [List.take_length]
theorem fst_le (xs : List E) (i : Nat) : fst xs i ≤ (firsts xs).length := by
  obtain ⟨zs, hz⟩ := firsts_grow (xs.take i) (xs.drop i)
  rw [List.take_append_drop] at hz
  unfold fst; rw [hz]; simp

theorem firsts_le (xs : List E) : (firsts xs).length ≤ xs.length := by
  induction xs using snoc_ind with
  | h0 => exact Nat.zero_le _
  | h1 ys p ih =>
    rw [firsts_snoc, List.length_append]
    split
    · omega
    · rw [List.length_append]; simp; omega
end Go.Proofs.Qxb6628271a
