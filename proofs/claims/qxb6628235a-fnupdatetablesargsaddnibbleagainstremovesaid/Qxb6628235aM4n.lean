import Derived.Test.Qxb6628235aM4
namespace Go.Proofs.Qxb6628235a
open Go.RowKit

set_option maxRecDepth 100000 in
set_option maxHeartbeats 1000000 in
theorem m4_none (ao : Option Addr) (c0 : Nat) (w : World) :
    Calls Try.prog 4 #[.slice ao 0 c0] w fun e w' => e = .returned (.bool true) ∧ Below w.heap.size w w' := by
  obtain ⟨i0, hi, hz0, hz1, hz2⟩ := info_parts Try.info29
  go_enter Try.func4, Try.ntmps4
  go_wp2_with (go_at_call 8; go_in)
  refine wp_loop_rounds 1 ?_
  rw [rounds_succ]
  go_wp2_with (first
    | (at_make; refine wpList_make_full _ rfl (.tmp 56) (.tmp 56) 22 rfl w.heap.size 29 i0 _ 4 Try.underlying22 hi hz0 hz1 .i64 .i64 _ _ 0 rfl rfl rfl rfl (by omega) (by simp [maxLen]) (Nat.le_refl _) ?_; intro w1 hown1 hgr1))
  have hb1 : Below w.heap.size w w1 := (Below.refl _ _).grown hgr1 (Nat.le_refl _) (by simp)
  clear hown1 hgr1
  refine wp_loop_rounds 1 ?_
  rw [rounds_succ]
  go_wp2_with fail
  refine (toUpd_n _ _ 0 _ [] rfl (by omega) (Or.inl rfl)).mono ?_
  rintro e w4 ⟨rfl, hb4, hl4, hs4⟩
  go_wp2_with fail
  refine (args_n _ 0 _ [] rfl (by omega) hl4 hs4).mono ?_
  rintro e w5 ⟨rfl, hb5, hB5⟩
  go_wp2_with fail
  refine (toUpd_n _ _ 0 _ [] rfl (by omega) (Or.inl rfl)).mono ?_
  rintro e w6 ⟨rfl, hb6, hl6, hs6⟩
  go_wp2_with fail
  refine (args_n _ 0 _ [] rfl (by omega) hl6 hs6).mono ?_
  rintro e w7 ⟨rfl, hb7, hB7⟩
  have hw7 : Below w.heap.size w w7 := (((hb1.trans (hb4.mono hb1.size)).trans (hb5.mono (Nat.le_trans hb1.size hb4.size))).trans (hb6.mono (Nat.le_trans hb1.size (Nat.le_trans hb4.size hb5.size)))).trans (hb7.mono (Nat.le_trans hb1.size (Nat.le_trans hb4.size (Nat.le_trans hb5.size hb6.size))))
  go_wp2_with fail
  refine wp_loop_rounds 1 ?_
  rw [rounds_succ]
  go_wp2
  go_ret
  exact ⟨rfl, hw7⟩
end Go.Proofs.Qxb6628235a
