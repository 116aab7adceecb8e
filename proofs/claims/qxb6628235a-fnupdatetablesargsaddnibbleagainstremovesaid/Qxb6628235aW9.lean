import Derived.Test.Qxb6628235aCon
namespace Go.Proofs.Qxb6628235a
open Go.RowKit

/-- priceRank's answer -/
def rank (p : Int) : Int := if 50 ≤ p ∧ p ≤ 90 ∧ p % 10 = 0 then (p - 50) / 10 else -1

theorem rank_hit (p : Int) (k : Nat) (hk : k < 5) (h : 50 + 10 * (k : Int) = p) : (k : Int) = rank p := by
  unfold rank; rw [if_pos (by omega)]; omega
theorem rank_miss (p : Int) (h : ∀ j : Nat, j < 5 → 50 + 10 * (j : Int) ≠ p) : -1 = rank p := by
  unfold rank
  rw [if_neg]
  rintro ⟨h1, h2, h3⟩
  have := h ((p - 50) / 10).toNat (by omega)
  omega

theorem act_rem (k i p : Int) : U.act ⟨k, i, false, p⟩ = 0 := rfl
theorem rank_range (p : Int) : -1 ≤ rank p ∧ rank p ≤ 4 := by
  unfold rank; split <;> omega
theorem act_rank (k i p : Int) (h : 0 ≤ rank p) : U.act ⟨k, i, true, p⟩ = rank p + 1 := by
  have hp : 50 ≤ p ∧ p ≤ 90 ∧ p % 10 = 0 := by
    apply Classical.byContradiction
    intro hn
    unfold rank at h
    rw [if_neg hn] at h
    omega
  have hr : rank p = (p - 50) / 10 := by unfold rank; rw [if_pos hp]
  have e1 : wrap64 (p - 50) = p - 50 := wrap64_small _ (by omega) (by omega)
  have e2 : (p - 50).tdiv 10 = (p - 50) / 10 := Int.tdiv_eq_ediv_of_nonneg (by omega)
  simp only [U.act, if_true, e1, e2]
  rw [wrap64_small ((p - 50) / 10) (by omega) (by omega), wrap64_small _ (by omega) (by omega), hr]
  omega

set_option maxHeartbeats 400000 in
theorem rank_any (p : Int) (w : World) : Calls Try.prog 9 #[.int .i64 p] w fun e w' => e = .returned (.int .i64 (rank p)) ∧ w' = w := by
  go_enter Try.func9, Try.ntmps9
  go_wp2
  go_loop [3] (fun i => ∃ k : Nat, k ≤ 5 ∧ i = .int .i64 k ∧ Hid (∀ j : Nat, j < k → 50 + 10 * (j : Int) ≠ p)) (fun i => 5 - (intOf i).toNat)
  case atStart => exact ⟨0, by omega, rfl, fun j hj => by omega⟩
  case round =>
    obtain ⟨k, hk, rfl, H⟩ := hrel
    by_cases hlt : k < 5
    · by_cases he : 50 + 10 * (k : Int) = p
      · have hq := rank_hit p k hlt he
        have HQ : Hid ((k : Int) = rank p) := hq
        have ht : (50 + 10 * (k : Int) == p) = true := by simpa using he
        clear hq he
        go_wp2
        go_ret
        exact ⟨congrArg (fun x => Ending.returned (.int .i64 x)) HQ.out, rfl⟩
      · have ht : (50 + 10 * (k : Int) == p) = false := by simpa using he
        have HE : Hid (¬ 50 + 10 * (k : Int) = p) := he
        clear he
        go_wp2
        go_round
        case rel =>
          refine ⟨k + 1, by omega, by go_num, fun j hj => ?_⟩
          by_cases hjk : j = k
          · subst hjk; exact HE.out
          · exact H.out j (by omega)
        case measure => simp [intOf]; omega
    · have hm := rank_miss p (fun j hj => H.out j (by omega))
      have HM : Hid (-1 = rank p) := hm
      clear hm
      go_wp2
      go_ret
      exact ⟨congrArg (fun x => Ending.returned (.int .i64 x)) HM.out, rfl⟩
end Go.Proofs.Qxb6628235a
