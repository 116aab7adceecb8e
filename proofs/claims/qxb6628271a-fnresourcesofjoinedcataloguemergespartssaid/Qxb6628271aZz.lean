import Derived.Test.Qxb6628271aBase
namespace Go.Proofs.Qxb6628271a
open Go.RowKit

set_option maxHeartbeats 1000000 in
theorem zz11_some (ct : Int) (b off cap n : Nat) (w : World) (xs : List E) (hn : n = xs.length) (hl : Lies w b off xs) (hsm : n ≤ 1048576) :
    Calls Try.prog 11 #[.slice (some ⟨b, off, none⟩) n cap, .int .i64 ct] w fun e w' => Says True w e w' := by
  have HN : Hid (n = xs.length) := hn
  clear hn
  go_enter Try.func11, Try.ntmps11
  go_wp2
  go_loop [5, 6] (fun t i => ∃ (k : Nat) (q : Int), k ≤ n ∧ i = .int .i64 k ∧ t = .int .i64 q) (fun _ i => n - (intOf i).toNat)
  case atStart => exact ⟨0, _, Nat.zero_le _, rfl, rfl⟩
  case round =>
    obtain ⟨k, q, hk, rfl, rfl⟩ := hrel
    by_cases hlt : k < n
    · have e0 := hl.c0 k (by rw [← HN.out]; exact hlt)
      have e1 := hl.c1 k (by rw [← HN.out]; exact hlt)
      generalize xs.getD k U0 = u at *
      go_wp2
      all_goals first
        | (go_ret; exact ⟨false, rfl, fun _ => trivial, Below.refl _ _⟩)
        | (go_round; (case rel => exact ⟨k + 1, _, by omega, by go_num, rfl⟩); (case measure => simp [intOf]; omega))
    · go_wp2
      go_ret
      exact ⟨true, rfl, fun _ => trivial, Below.refl _ _⟩

theorem zz11_big (ct : Int) (ao : Option Addr) (cap n : Nat) (w : World) (hm : n ≤ 9223372036854775807) (hbig : 1048576 < n) :
    Calls Try.prog 11 #[.slice ao n cap, .int .i64 ct] w fun e w' => Says True w e w' := by
  go_enter Try.func11, Try.ntmps11
  go_wp2
  go_ret
  exact ⟨false, rfl, fun _ => trivial, Below.refl _ _⟩

theorem zz11_none (ct : Int) (ao : Option Addr) (cap : Nat) (w : World) : Calls Try.prog 11 #[.slice ao 0 cap, .int .i64 ct] w fun e w' => Says True w e w' := by
  go_enter Try.func11, Try.ntmps11
  go_wp2
  refine wp_loop_rounds 1 ?_
  rw [rounds_succ]
  go_wp2
  go_ret
  exact ⟨true, rfl, fun _ => trivial, Below.refl _ _⟩

theorem zz11_any (ct : Int) (ao : Option Addr) (cap n : Nat) (w : World) (xs : List E) (hn : n = xs.length) (hm : n ≤ 9223372036854775807) (hl : LiesAny w ao xs) :
    Calls Try.prog 11 #[.slice ao n cap, .int .i64 ct] w fun e w' => Says True w e w' := by
  by_cases hb : 1048576 < n
  · exact zz11_big ct ao cap n w hm hb
  · rcases hl with rfl | ⟨b, off, rfl, _, hl⟩
    · subst hn; exact zz11_none ct ao cap w
    · exact zz11_some ct b off cap n w xs hn hl (by omega)
end Go.Proofs.Qxb6628271a
