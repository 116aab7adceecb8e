import Derived.Test.Qxb6628271aBase
namespace Go.Proofs.Qxb6628271a
open Go.RowKit

theorem Try.info41 : (Try.prog.info? 41).map (fun i => (i.zero, i.size, i.bytes)) = some (some (.agg #[.string ByteArray.empty, .string ByteArray.empty]), 2, 32) := by kernel_rfl

/-- a policy whose catalogue lists xs -/
structure Pol (w : World) (v : Value) (xs : List E) : Prop where
  at_ : ∃ pb cb g, v = .pointer (some ⟨pb, 0, none⟩) ∧ w.cell? ⟨pb, 0, none⟩ = some (.pointer (some ⟨cb, 0, none⟩)) ∧ w.cell? ⟨cb, 0, none⟩ = some (.slice (some ⟨g, 0, none⟩) xs.length xs.length) ∧
    g < w.heap.size ∧ Lies w g 0 xs

set_option maxHeartbeats 400000 in
theorem newPol_any (g n : Nat) (w : World) (xs : List E) (hn : n = xs.length) (hg : g < w.heap.size) (hl : Lies w g 0 xs) :
    Calls Try.prog 13 #[.slice (some ⟨g, 0, none⟩) n n] w fun e w' => ∃ v, e = .returned v ∧ Pol w' v xs ∧ Below w.heap.size w w' := by
  go_enter Try.func13, Try.ntmps13
  go_wp2
  go_ret
  have hb : ∀ o1 o2 : Obj, Below w.heap.size w ((w.alloc o1).alloc o2) := fun o1 o2 => ((Below.refl _ _).alloc (Nat.le_refl _) _).alloc (by simp) _
  refine ⟨_, rfl, ⟨w.heap.size + 1, w.heap.size, g, rfl, by simp, ?_, by simp; omega, hl.below (hb _ _) hg⟩, hb _ _⟩
  subst hn
  simp

def cellsOf (xs : List E) : List Value := xs.flatMap fun p => [.string p.name, .string p.desc]
theorem cellsOf_length (xs : List E) : (cellsOf xs).length = xs.length * 2 := by
  induction xs with
  | nil => rfl
  | cons u xs ih => simp only [cellsOf, List.flatMap_cons, List.length_append] at ih ⊢; rw [ih]; simp; omega
theorem cellsOf_append (xs ys : List E) : cellsOf (xs ++ ys) = cellsOf xs ++ cellsOf ys := by simp [cellsOf]
theorem cellsOf_at (xs : List E) (j : Nat) (h : j < xs.length) : (cellsOf xs)[j * 2]? = some (.string (xs.getD j U0).name) ∧ (cellsOf xs)[j * 2 + 1]? = some (.string (xs.getD j U0).desc) := by
  induction xs generalizing j with
  | nil => simp at h
  | cons u xs ih =>
    have e : cellsOf (u :: xs) = Value.string u.name :: .string u.desc :: cellsOf xs := by simp [cellsOf]
    rw [e]
    cases j with
    | zero => simp
    | succ j =>
      have := ih j (by simpa using h)
      simp only [show (j + 1) * 2 = j * 2 + 1 + 1 by omega, List.getElem?_cons_succ, List.getD_cons_succ]
      exact this

theorem lies_of_owned {w : World} {base g n : Nat} {e : TypeId} {xs : List E} (hx : xs.length = n) (h : w.ownsRow base e 2 (.slice (some ⟨g, 0, none⟩) n n) n (cellsOf xs)) : Lies w g 0 xs := by
  subst hx
  refine ⟨fun j hj => ?_, fun j hj => ?_⟩
  · rw [Nat.zero_add, h.cellAt _ (by omega)]; exact (cellsOf_at xs j hj).1
  · rw [Nat.zero_add, h.cellAt _ (by omega)]; exact (cellsOf_at xs j hj).2

theorem set2 (A R : List Value) (n : Nat) (hA : A.length = n) (z0 z1 v0 v1 : Value) : (((A ++ z0 :: z1 :: R).set n v0).set (n + 1) v1) = A ++ v0 :: v1 :: R := by
  subst hA
  simp

theorem split2 (R : List Value) (m : Nat) (h : R.length = (m + 1) * 2) : ∃ z0 z1 R', R = z0 :: z1 :: R' ∧ R'.length = m * 2 := by
  match R, h with
  | z0 :: z1 :: R', h => exact ⟨z0, z1, R', rfl, by simp at h; omega⟩
  | [], h => simp at h
  | [_], h => simp at h; omega

theorem owned_some {w : World} {base : Nat} {e : TypeId} {size g n cap : Nat} {xs : List Value} (h : w.ownsRow base e size (.slice (some ⟨g, 0, none⟩) n cap) n xs) (j : Nat) (hj : j < n * size) :
    ∃ v, w.cell? ⟨g, j, none⟩ = some v := by
  rw [h.cellAt j hj]
  have := h.1
  exact ⟨_, List.getElem?_eq_getElem (by omega)⟩

theorem getD_at (xs : List E) (k : Nat) (h : k < xs.length) : xs.getD k U0 = xs[k] := by simp [List.getD, h]

theorem step8 {w : World} {base g n k : Nat} {xs : List E} {u : E} {R : List Value} {e : TypeId} (hx : xs.length = n) (hk : k < n) (hR : R.length = (n - k) * 2) (hu : xs.getD k U0 = u)
    (hown : w.ownsRow base e 2 (.slice (some ⟨g, 0, none⟩) n n) n (cellsOf (xs.take k) ++ R)) :
    ∃ R' : List Value, R'.length = (n - (k + 1)) * 2 ∧
      ((w.setCell ⟨g, k * 2, none⟩ (.string u.name)).setCell ⟨g, k * 2 + 1, none⟩ (.string u.desc)).ownsRow base e 2 (.slice (some ⟨g, 0, none⟩) n n) n (cellsOf (xs.take (k + 1)) ++ R') := by
  obtain ⟨z0, z1, R', rfl, hR'⟩ := split2 R (n - (k + 1)) (by rw [hR]; congr 1; omega)
  refine ⟨R', hR', ?_⟩
  have h1 := ((hown.stored (k * 2) (.string u.name)).1.stored (k * 2 + 1) (.string u.desc)).1
  rw [set2 _ _ _ (by rw [cellsOf_length, List.length_take]; omega)] at h1
  rw [List.take_succ_eq_append_getElem (by omega), cellsOf_append, ← getD_at xs k (by omega), hu]
  simpa [cellsOf] using h1

set_option maxHeartbeats 400000 in
theorem build_some (b off cap n : Nat) (w : World) (xs : List E) (hn : n = xs.length) (hm : n ≤ 4096) (hb : b < w.heap.size) (hl : Lies w b off xs) :
    Calls Try.prog 8 #[.slice (some ⟨b, off, none⟩) n cap] w fun e w' => ∃ v, e = .returned v ∧ Pol w' v xs ∧ Below w.heap.size w w' := by
  have HN : Hid (n = xs.length) := hn
  clear hn
  obtain ⟨i0, hi, hz0, hz1, hz2⟩ := info_parts Try.info41
  go_enter Try.func8, Try.ntmps8
  go_wp2_with (first | (at_make; refine wpList_make_full _ rfl _ _ 39 rfl w.heap.size 41 i0 _ 2 Try.underlying39 hi hz0 hz1 .i64 .i64 _ _ n rfl rfl rfl rfl (by rw [hz2]; omega) (by simp [maxLen]; omega) (Nat.le_refl _) ?_; intro w1 hown1 hgr))
  go_loopw [4] (fun i wr => ∃ k : Nat, k ≤ n ∧ i = .int .i64 k ∧ Below w.heap.size w wr ∧ w.heap.size < wr.heap.size ∧ ∃ R : List Value, R.length = (n - k) * 2 ∧ wr.ownsRow w.heap.size 41 2 (.slice (some ⟨w.heap.size, 0, none⟩) n n) n (cellsOf (xs.take k) ++ R))
    (fun i _ => n - (intOf i).toNat)
  case atStart => exact ⟨0, Nat.zero_le _, rfl, (Below.refl _ _).grown hgr (Nat.le_refl _) (by simp), (hown1.lt _ rfl).2, _, by have := hown1.1; omega, by simpa [cellsOf] using hown1⟩
  case round =>
    obtain ⟨k, hk, rfl, hnx, hsz, R, hR, hown⟩ := hrel
    by_cases hlt : k < n
    · have d0 := (hnx.cell (p := ⟨b, off + k * 2, none⟩) hb).trans (hl.c0 k (by rw [← HN.out]; exact hlt))
      have d1 := (hnx.cell (p := ⟨b, off + k * 2 + 1, none⟩) hb).trans (hl.c1 k (by rw [← HN.out]; exact hlt))
      obtain ⟨v0, e0⟩ := owned_some hown (k * 2) (by omega)
      obtain ⟨v1, e1⟩ := owned_some hown (k * 2 + 1) (by omega)
      have f0 := hown.frozenAt (k * 2)
      have f1 := hown.frozenAt (k * 2 + 1)
      have hst := step8 HN.out.symm hlt hR rfl hown
      have HS : Hid (∃ R' : List Value, _) := hst
      clear hst
      generalize xs.getD k U0 = u at *
      go_wp2
      go_region
      all_goals go_wp2
      obtain ⟨R', hR', hown'⟩ := HS.out
      go_roundw
      case rel => exact ⟨k + 1, by omega, by go_num, ((hnx.setCell (Nat.le_refl _) _).setCell (Nat.le_refl _) _).drew, by simpa using hsz, R', hR', hown'.drew⟩
      case measure => simp [intOf]; omega
    · have hkn : k = n := by omega
      subst hkn
      have hR0 : R = [] := List.eq_nil_of_length_eq_zero (by simpa using hR)
      subst hR0
      rw [List.take_of_length_le (by rw [← HN.out]; exact Nat.le_refl _), List.append_nil] at hown
      have hl' := lies_of_owned HN.out.symm hown
      go_wp2_with (go_at_call 13; refine (newPol_any _ _ _ xs HN.out hsz hl').mono ?_; rintro e w2 ⟨v, rfl, hp, hb2⟩)
      go_ret
      exact ⟨_, rfl, hp, hnx.trans (hb2.mono hnx.size)⟩

set_option maxHeartbeats 400000 in
theorem build_none (ao : Option Addr) (cap : Nat) (w : World) :
    Calls Try.prog 8 #[.slice ao 0 cap] w fun e w' => ∃ v, e = .returned v ∧ Pol w' v [] ∧ Below w.heap.size w w' := by
  obtain ⟨i0, hi, hz0, hz1, hz2⟩ := info_parts Try.info41
  go_enter Try.func8, Try.ntmps8
  go_wp2_with (first | (at_make; refine wpList_make_full _ rfl _ _ 39 rfl w.heap.size 41 i0 _ 2 Try.underlying39 hi hz0 hz1 .i64 .i64 _ _ 0 rfl rfl rfl rfl (by omega) (by simp [maxLen]) (Nat.le_refl _) ?_; intro w1 hown1 hgr))
  have hb1 : Below w.heap.size w w1 := (Below.refl _ _).grown hgr (Nat.le_refl _) (by simp)
  have hs1 := (hown1.lt _ rfl).2
  refine wp_loop_rounds 1 ?_
  rw [rounds_succ]
  go_wp2_with (go_at_call 13; refine (newPol_any _ _ _ [] rfl hs1 ⟨fun j hj => by simp at hj, fun j hj => by simp at hj⟩).mono ?_; rintro e w2 ⟨v, rfl, hp, hb2⟩)
  go_ret
  exact ⟨_, rfl, hp, hb1.trans (hb2.mono hb1.size)⟩

theorem build_any (ao : Option Addr) (cap n : Nat) (w : World) (xs : List E) (hn : n = xs.length) (hm : n ≤ 4096) (hl : LiesAny w ao xs) :
    Calls Try.prog 8 #[.slice ao n cap] w fun e w' => ∃ v, e = .returned v ∧ Pol w' v xs ∧ Below w.heap.size w w' := by
  rcases hl with rfl | ⟨b, off, rfl, hb, hl⟩
  · subst hn; exact build_none ao cap w
  · exact build_some b off cap n w xs hn hm hb hl
end Go.Proofs.Qxb6628271a
