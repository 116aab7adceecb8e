import Derived.Test.Qxb6628235aBase
namespace Go.Proofs.Qxb6628235a
open Go.RowKit

theorem step7 {w : World} {base g n k : Nat} {xs : List U} {R : List Value} {e : TypeId} (hx : xs.length = n) (hk : k < n) (hR : R.length = (n - k) * 4)
    (hown : w.ownsRow base e 4 (.slice (some ⟨g, 0, none⟩) n n) n (cellsOf (xs.take k) ++ R)) (o : Obj) :
    ∃ R' : List Value, R'.length = (n - (k + 1)) * 4 ∧
      (((((w.setCell ⟨g, k * 4, none⟩ (.int .i64 xs[k].k)).setCell ⟨g, k * 4 + 1, none⟩ (.int .i64 xs[k].i)).setCell ⟨g, k * 4 + 2, none⟩ (.bool xs[k].a)).setCell ⟨g, k * 4 + 3, none⟩ (.int .i64 xs[k].p)).alloc o).ownsRow base e 4
        (.slice (some ⟨g, 0, none⟩) n n) n (cellsOf (xs.take (k + 1)) ++ R') := by
  obtain ⟨z0, z1, z2, z3, R', rfl, hR'⟩ := split4 R (n - (k + 1)) (by rw [hR]; congr 1; omega)
  refine ⟨R', hR', ?_⟩
  have h1 := ((((hown.stored (k * 4) (.int .i64 xs[k].k)).1.stored (k * 4 + 1) (.int .i64 xs[k].i)).1.stored (k * 4 + 2) (.bool xs[k].a)).1.stored (k * 4 + 3) (.int .i64 xs[k].p)).1.alloc o
  rw [set4 _ _ _ (by rw [cellsOf_length, List.length_take]; omega)] at h1
  rw [take_succ_U xs k (by omega), cellsOf_append]
  simpa [cellsOf, U.cells] using h1

set_option maxHeartbeats 400000 in
theorem toUpd_some (b off cap : Nat) (w : World) (xs : List U) (hn : xs.length ≤ 32768) (hb : b < w.heap.size) (hl : Lies w b off xs) :
    Calls Try.prog 7 #[.slice (some ⟨b, off, none⟩) xs.length cap] w fun e w' => e = .returned (.slice (some ⟨w.heap.size, 0, none⟩) xs.length xs.length) ∧
      w'.ownsRow w.heap.size 35 4 (.slice (some ⟨w.heap.size, 0, none⟩) xs.length xs.length) xs.length (cellsOf xs) ∧ Below w.heap.size w w' := by
  obtain ⟨n, hx⟩ : ∃ n, xs.length = n := ⟨_, rfl⟩
  obtain ⟨c0, c1, c2, c3⟩ := hl
  rw [hx] at c0 c1 c2 c3 hn ⊢
  obtain ⟨i0, hi, hz0, hz1, hz2⟩ := info_parts Try.info35
  go_enter Try.func7, Try.ntmps7
  go_wp2_with (first | (at_make; refine wpList_make_full _ rfl _ _ 26 rfl w.heap.size 35 i0 _ 4 Try.underlying26 hi hz0 hz1 .i64 .i64 _ _ n rfl rfl rfl rfl ?b1 ?b2 ?b3 ?_))
  case b1 => rw [hz2]; omega
  case b2 => simp [maxLen]; omega
  case b3 => omega
  intro w1 hown hgr
  go_wp2
  go_loopw [4] (fun i wr => ∃ k : Nat, k ≤ n ∧ i = .int .i64 k ∧ Below w.heap.size w wr ∧ w.heap.size < wr.heap.size ∧ ∃ R : List Value, R.length = (n - k) * 4 ∧ wr.ownsRow w.heap.size 35 4 (.slice (some ⟨w.heap.size, 0, none⟩) n n) n (cellsOf (xs.take k) ++ R))
    (fun i _ => n - (intOf i).toNat)
  case atStart => exact ⟨0, Nat.zero_le _, rfl, (Below.refl _ _).grown hgr (Nat.le_refl _) (by simp), (hown.lt _ rfl).2, _, by have := hown.1; omega, by simpa [cellsOf] using hown⟩
  case round =>
    obtain ⟨k, hk, rfl, hnx, hsz, R, hR, hown⟩ := hrel
    by_cases hlt : k < n
    · have d0 := (hnx.cell (p := ⟨b, off + k * 4, none⟩) hb).trans (c0 k hlt)
      have d1 := (hnx.cell (p := ⟨b, off + k * 4 + 1, none⟩) hb).trans (c1 k hlt)
      have d2 := (hnx.cell (p := ⟨b, off + k * 4 + 2, none⟩) hb).trans (c2 k hlt)
      have d3 := (hnx.cell (p := ⟨b, off + k * 4 + 3, none⟩) hb).trans (c3 k hlt)
      clear c0 c1 c2 c3
      obtain ⟨v0, e0⟩ := owned_some hown (k * 4) (by omega)
      obtain ⟨v1, e1⟩ := owned_some hown (k * 4 + 1) (by omega)
      obtain ⟨v2, e2⟩ := owned_some hown (k * 4 + 2) (by omega)
      obtain ⟨v3, e3⟩ := owned_some hown (k * 4 + 3) (by omega)
      have f0 := hown.frozenAt (k * 4)
      have f1 := hown.frozenAt (k * 4 + 1)
      have f2 := hown.frozenAt (k * 4 + 2)
      have f3 := hown.frozenAt (k * 4 + 3)
      have hst := step7 hx hlt hR hown
      have hs : Hid (∀ o : Obj, _) := hst
      clear hst
      go_wp2
      go_roundw
      case rel => exact ⟨k + 1, by omega, by go_num, ((((hnx.setCell (Nat.le_refl _) _).setCell (Nat.le_refl _) _).setCell (Nat.le_refl _) _).setCell (Nat.le_refl _) _).alloc (by simp; omega) _, by simp; omega, hs.out _⟩
      case measure => simp [intOf]; omega
    · have hkn : k = n := by omega
      subst hkn
      have hR0 : R = [] := List.eq_nil_of_length_eq_zero (by simpa using hR)
      subst hR0
      go_wp2
      go_ret
      refine ⟨rfl, ?_, hnx⟩
      rw [List.take_of_length_le (by omega), List.append_nil] at hown
      exact hown

set_option maxHeartbeats 400000 in
theorem toUpd_none (ao : Option Addr) (cap : Nat) (w : World) :
    Calls Try.prog 7 #[.slice ao 0 cap] w fun e w' => e = .returned (.slice (some ⟨w.heap.size, 0, none⟩) 0 0) ∧
      w'.ownsRow w.heap.size 35 4 (.slice (some ⟨w.heap.size, 0, none⟩) 0 0) 0 [] ∧ Below w.heap.size w w' := by
  obtain ⟨i0, hi, hz0, hz1, hz2⟩ := info_parts Try.info35
  go_enter Try.func7, Try.ntmps7
  go_wp2_with (first | (at_make; refine wpList_make_full _ rfl _ _ 26 rfl w.heap.size 35 i0 _ 4 Try.underlying26 hi hz0 hz1 .i64 .i64 _ _ 0 rfl rfl rfl rfl (by omega) (by simp [maxLen]) (Nat.le_refl _) ?_))
  intro w1 hown hgr
  go_wp2
  refine wp_loop_rounds 1 ?_
  rw [rounds_succ]
  go_wp2
  go_ret
  exact ⟨rfl, by simpa [madeCells] using hown, (Below.refl _ _).grown hgr (Nat.le_refl _) (by simp)⟩

/-- toUpdates, of whatever slice of elements -/
theorem toUpd_any (ao : Option Addr) (cap : Nat) (w : World) (xs : List U) (hn : xs.length ≤ 32768) (hl : LiesAny w ao xs) :
    Calls Try.prog 7 #[.slice ao xs.length cap] w fun e w' => e = .returned (.slice (some ⟨w.heap.size, 0, none⟩) xs.length xs.length) ∧
      w'.ownsRow w.heap.size 35 4 (.slice (some ⟨w.heap.size, 0, none⟩) xs.length xs.length) xs.length (cellsOf xs) ∧ Below w.heap.size w w' := by
  rcases hl with rfl | ⟨b, off, rfl, hb, hl⟩
  · exact toUpd_none ao cap w
  · exact toUpd_some b off cap w xs hn hb hl

end Go.Proofs.Qxb6628235a
