import Derived.Test.Qxb6628271aM3
namespace Go.Proofs.Qxb6628271a
open Go.RowKit Go.Maps

set_option maxRecDepth 100000 in
theorem m3_big (ao : Option Addr) (c0 n : Nat) (w : World) (xs : List E) (hn : n = xs.length) (hm : n ≤ maxLen) (hbig : 4096 < n) (hl : LiesAny w ao xs) :
    Calls Try.prog 3 #[.slice ao n c0] w fun e w' => e = .returned (.bool true) ∧ Below w.heap.size w w' := by
  have hm' : n ≤ 9223372036854775807 := hm
  have HN : Hid (n = xs.length) := hn
  clear hn hm
  go_enter Try.func3, Try.ntmps3
  go_wp2_with fail
  refine (zz5_any ao c0 n _ xs HN.out hm' hl).mono ?_
  rintro e w1 ⟨r, rfl, -, hb1⟩
  cases r with
  | false =>
    go_wp2
    go_ret
    exact ⟨rfl, hb1⟩
  | true =>
    go_wp2
    go_ret
    exact ⟨rfl, hb1⟩

set_option maxRecDepth 100000 in
set_option maxHeartbeats 1000000 in
theorem m3_none (ao : Option Addr) (c0 : Nat) (w : World) :
    Calls Try.prog 3 #[.slice ao 0 c0] w fun e w' => e = .returned (.bool true) ∧ Below w.heap.size w w' := by
  obtain ⟨i9, hi9, hz0, hz1, hz2⟩ := info_parts Try.info9
  go_enter Try.func3, Try.ntmps3
  go_wp2_with fail
  refine (zz5_none ao c0 _).mono ?_
  rintro e w1 ⟨r, rfl, -, hb1⟩
  cases r with
  | false =>
    go_wp2
    go_ret
    exact ⟨rfl, hb1⟩
  | true =>
    go_wp2_with fail
    refine (within_none ao c0 _).mono ?_
    rintro e w2 ⟨r, rfl, -, hb2⟩
    have hb02 := hb1.trans (hb2.mono hb1.size)
    cases r with
    | false =>
      go_wp2
      go_ret
      exact ⟨rfl, hb02⟩
    | true =>
      go_wp2_with fail
      refine (allDotted_none ao c0 _).mono ?_
      rintro e w3 ⟨r, rfl, hd, hb3⟩
      have hb03 := hb02.trans (hb3.mono hb02.size)
      cases r with
      | false =>
        go_wp2
        go_ret
        exact ⟨rfl, hb03⟩
      | true =>
        go_wp2_with fail
        refine (build_none ao c0 _).mono ?_
        rintro e w4 ⟨vp, rfl, hp, hb4⟩
        go_wp2_with fail
        refine (resources_any vp _ [] (by simp) (fun j hj => by simp at hj) (fun j hj => by simp at hj) hp).mono ?_
        rintro e w5 ⟨vr, rfl, hinv⟩
        obtain ⟨ar, cp, hvr⟩ := empty_of_inv hinv
        rw [hvr]
        have hb5 : Below w.heap.size w w5 := (hb03.trans (hb4.mono hb03.size)).trans (hinv.below.mono (Nat.le_trans hb03.size hb4.size))
        clear hinv hvr hp hb4 hb03
        go_wp2_with (first
          | (at_make; refine wpList_make_full _ rfl (.tmp 34) (.tmp 34) 28 rfl w5.heap.size 9 i9 _ 1 Try.underlying28 hi9 hz0 hz1 .i64 .i64 _ _ 0 rfl rfl rfl rfl (by omega) (by simp [maxLen]) (Nat.le_refl _) ?_; intro w6 hown6 hgr6)
          | (at_make; refine wpList_make_full _ rfl (.tmp 36) (.tmp 36) 28 rfl w6.heap.size 9 i9 _ 1 Try.underlying28 hi9 hz0 hz1 .i64 .i64 _ _ 0 rfl rfl rfl rfl (by omega) (by simp [maxLen]) (Nat.le_refl _) ?_; intro w7 hown7 hgr7))
        have hb7 : Below w.heap.size w w7 := (hb5.grown hgr6 hb5.size (by simp)).grown hgr7 (Nat.le_trans hb5.size hgr6.size) (by simp)
        refine wp_loop_rounds 1 ?_
        rw [rounds_succ]
        go_wp2
        refine wp_loop_rounds 1 ?_
        rw [rounds_succ]
        go_wp2
        go_ret
        exact ⟨rfl, hb7⟩

theorem m3_any (ao : Option Addr) (c0 n : Nat) (w : World) (xs : List E) (hn : xs.length = n) (hm : n ≤ maxLen) (hl : LiesAny w ao xs) (hsh : Short xs) :
    Calls Try.prog 3 #[.slice ao n c0] w fun e w' => e = .returned (.bool true) ∧ Below w.heap.size w w' := by
  by_cases hbig : 4096 < n
  · exact m3_big ao c0 n w xs hn.symm hm hbig hl
  · rcases hl with rfl | ⟨b, off, rfl, hb, hl⟩
    · subst hn; exact m3_none ao c0 w
    · by_cases hz : n = 0
      · subst hz; exact m3_none _ c0 w
      · exact m3_some b off c0 n w xs hn.symm (by omega) (by omega) hb hl hsh
end Go.Proofs.Qxb6628271a
