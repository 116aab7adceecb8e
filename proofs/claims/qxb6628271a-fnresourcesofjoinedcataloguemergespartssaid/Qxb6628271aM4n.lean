import Derived.Test.Qxb6628271aM4
namespace Go.Proofs.Qxb6628271a
open Go.RowKit Go.Maps

set_option maxRecDepth 100000 in
theorem m4_big (ct : Int) (ao : Option Addr) (c0 n : Nat) (w : World) (xs : List E) (hn : n = xs.length) (hm : n ≤ maxLen) (hbig : 4096 < n) (hl : LiesAny w ao xs) :
    Calls Try.prog 4 #[.slice ao n c0, .int .i64 ct] w fun e w' => e = .returned (.bool true) ∧ Below w.heap.size w w' := by
  have hm' : n ≤ 9223372036854775807 := hm
  have HN : Hid (n = xs.length) := hn
  clear hn hm
  go_enter Try.func4, Try.ntmps4
  go_wp2_with fail
  refine (zz11_any ct ao c0 n _ xs HN.out hm' hl).mono ?_
  rintro e w1 ⟨r, rfl, -, hb1⟩
  cases r with
  | false =>
    go_wp2
    go_ret
    exact ⟨rfl, hb1⟩
  | true =>
    go_wp2
    go_ret
    exact ⟨rfl, hb1⟩

set_option maxRecDepth 100000 in
set_option maxHeartbeats 1000000 in
theorem m4_out (ct : Int) (ao : Option Addr) (c0 n : Nat) (w : World) (xs : List E) (hn : n = xs.length) (hm : n ≤ 4096) (hl : LiesAny w ao xs) (hct : ct < 0 ∨ (n : Int) < ct) :
    Calls Try.prog 4 #[.slice ao n c0, .int .i64 ct] w fun e w' => e = .returned (.bool true) ∧ Below w.heap.size w w' := by
  have HN : Hid (n = xs.length) := hn
  clear hn
  go_enter Try.func4, Try.ntmps4
  go_wp2_with fail
  refine (zz11_any ct ao c0 n _ xs HN.out (by omega) hl).mono ?_
  rintro e w1 ⟨r, rfl, -, hb1⟩
  cases r with
  | false =>
    go_wp2
    go_ret
    exact ⟨rfl, hb1⟩
  | true =>
    go_wp2_with fail
    refine (within_any ao c0 n _ xs HN.out hm (hl.below hb1)).mono ?_
    rintro e w2 ⟨r, rfl, -, hb2⟩
    have hb02 := hb1.trans (hb2.mono hb1.size)
    cases r with
    | false =>
      go_wp2
      go_ret
      exact ⟨rfl, hb02⟩
    | true =>
      rcases hct with hct | hct
      · go_wp2_with fail
        go_ret
        exact ⟨rfl, hb02⟩
      · have hct0 : ¬ ct < 0 := by omega
        go_wp2_with fail
        go_ret
        exact ⟨rfl, hb02⟩

theorem slice_none (ao : Option Addr) (c0 : Nat) (h : ao = none → c0 = 0) : ∃ (a1 : Option Addr) (c1 : Nat) (a2 : Option Addr) (c2 : Nat), (∀ w, (Instr.slice 22 (.slice ao 0 c0) none (some (.int .i64 0)) none).run Try.prog w = .ok (.slice a1 0 c1) w) ∧ (∀ w, (Instr.slice 22 (.slice ao 0 c0) (some (.int .i64 0)) none none).run Try.prog w = .ok (.slice a2 0 c2) w) := by
  cases ao with
  | none =>
    have := h rfl
    subst this
    exact ⟨none, 0, none, 0, fun w => by go_simp, fun w => by go_simp⟩
  | some a => exact ⟨some a, c0, some a, c0, fun w => by go_simp, fun w => by go_simp⟩

set_option maxRecDepth 100000 in
set_option maxHeartbeats 1000000 in
theorem m4_none (ao : Option Addr) (c0 : Nat) (w : World) (hz : ao = none → c0 = 0) :
    Calls Try.prog 4 #[.slice ao 0 c0, .int .i64 0] w fun e w' => e = .returned (.bool true) ∧ Below w.heap.size w w' := by
  obtain ⟨i4, hi4, hz40, hz41, hz42⟩ := info_parts Try.info34
  obtain ⟨a1, c1, a2, c2, hs1, hs2⟩ := slice_none ao c0 hz
  go_enter Try.func4, Try.ntmps4
  go_wp2_with fail
  refine (zz11_none _ ao c0 _).mono ?_
  rintro e w1 ⟨r, rfl, -, hb1⟩
  cases r with
  | false =>
    go_wp2
    go_ret
    exact ⟨rfl, hb1⟩
  | true =>
    go_wp2_with fail
    refine (within_none ao c0 _).mono ?_
    rintro e w2 ⟨r, rfl, -, hb2⟩
    have hb02 := hb1.trans (hb2.mono hb1.size)
    cases r with
    | false =>
      go_wp2
      go_ret
      exact ⟨rfl, hb02⟩
    | true =>
      go_wp2_with fail
      refine (allDotted_none ao c0 _).mono ?_
      rintro e w3 ⟨r, rfl, hd, hb3⟩
      have hb03 := hb02.trans (hb3.mono hb02.size)
      cases r with
      | false =>
        go_wp2
        go_ret
        exact ⟨rfl, hb03⟩
      | true =>
        go_wp2_with fail
        refine (build_none ao c0 _).mono ?_
        rintro e w4 ⟨vp, rfl, hp, hb4⟩
        go_wp2_with fail
        refine (resources_any vp _ [] (by simp) (fun j hj => by simp at hj) (fun j hj => by simp at hj) hp).mono ?_
        rintro e w5 ⟨vr, rfl, hinv⟩
        obtain ⟨ar, cr, hvr⟩ := empty_of_inv hinv
        rw [hvr]
        have hb5 : Below w.heap.size w w5 := (hb03.trans (hb4.mono hb03.size)).trans (hinv.below.mono (Nat.le_trans hb03.size hb4.size))
        clear hinv hvr hp hb4 hb03
        go_wp2_with fail
        refine (build_none a1 c1 _).mono ?_
        rintro e w6 ⟨vp6, rfl, hp6, hb6⟩
        go_wp2_with fail
        refine (resources_any vp6 _ [] (by simp) (fun j hj => by simp at hj) (fun j hj => by simp at hj) hp6).mono ?_
        rintro e w7 ⟨vr7, rfl, hinv7⟩
        obtain ⟨ar7, cr7, hvr7⟩ := empty_of_inv hinv7
        rw [hvr7]
        have hb7 : Below w.heap.size w w7 := (hb5.trans (hb6.mono hb5.size)).trans (hinv7.below.mono (Nat.le_trans hb5.size hb6.size))
        clear hinv7 hvr7 hp6 hb6 hb5
        go_wp2_with fail
        refine (build_none a2 c2 _).mono ?_
        rintro e w8 ⟨vp8, rfl, hp8, hb8⟩
        go_wp2_with fail
        refine (resources_any vp8 _ [] (by simp) (fun j hj => by simp at hj) (fun j hj => by simp at hj) hp8).mono ?_
        rintro e w9 ⟨vr9, rfl, hinv9⟩
        obtain ⟨ar9, cr9, hvr9⟩ := empty_of_inv hinv9
        rw [hvr9]
        have hb9 : Below w.heap.size w w9 := (hb7.trans (hb8.mono hb7.size)).trans (hinv9.below.mono (Nat.le_trans hb7.size hb8.size))
        clear hinv9 hvr9 hp8 hb8 hb7 hs1 hs2
        go_wp2_with fail
        refine wp_loop_rounds 1 ?_
        rw [rounds_succ]
        go_wp2_with (first
          | (at_make; refine wpList_make_own _ rfl (.const (.int .i64 0)) (.tmp 131) 24 rfl w9.heap.size 34 i4 _ 2 Try.underlying24 hi4 hz40 hz41 .i64 .i64 _ 0 rfl rfl rfl (by omega) (by simp [maxLen]) (Nat.le_refl _) ?_; intro w10 hown10 hgr10))
        have hb10 : Below w.heap.size w w10 := hb9.grown hgr10 hb9.size (by simp)
        refine wp_loop_rounds 1 ?_
        rw [rounds_succ]
        go_wp2_with fail
        refine wp_loop_rounds 1 ?_
        rw [rounds_succ]
        go_wp2_with (go_at_call 12; refine (same_none _ _ _ _ _).mono ?_; rintro e w16 ⟨rfl, hb16⟩)
        go_ret
        exact ⟨rfl, hb10.trans (hb16.mono hb10.size)⟩

theorem m4_any (ct : Int) (ao : Option Addr) (c0 n : Nat) (w : World) (xs : List E) (hn : xs.length = n) (hc0 : n ≤ c0) (hm : c0 ≤ maxLen) (hl : LiesAny w ao xs) (hsh : Short xs) (hz : ao = none → n = 0 ∧ c0 = 0) :
    Calls Try.prog 4 #[.slice ao n c0, .int .i64 ct] w fun e w' => e = .returned (.bool true) ∧ Below w.heap.size w w' := by
  by_cases hbig : 4096 < n
  · exact m4_big ct ao c0 n w xs hn.symm (Nat.le_trans hc0 hm) hbig hl
  · by_cases hct : ct < 0 ∨ (n : Int) < ct
    · exact m4_out ct ao c0 n w xs hn.symm (by omega) hl hct
    · by_cases h0 : n = 0
      · subst h0
        have hc : ct = 0 := by omega
        subst hc
        exact m4_none ao c0 w (fun h => (hz h).2)
      · obtain ⟨c, hc⟩ := Int.eq_ofNat_of_zero_le (show 0 ≤ ct by omega)
        subst hc
        rcases hl with rfl | ⟨b, off, rfl, hb, hl⟩
        · exact absurd hn.symm h0
        · exact m4_some b off c0 n c w xs hn.symm (by omega) (by omega) hc0 hm (by omega) hb hl hsh
end Go.Proofs.Qxb6628271a
