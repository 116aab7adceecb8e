import Derived.Test.Qxb6628271aRows
import Derived.Test.Qxb6628271aPlain
import Derived.WalkKit
import Derived.WalkSpells
import Derived.WalkLawsBesides
namespace Go.Proofs.Qxb6628271a
open Go.RowKit

theorem dot_hit (s : ByteArray) (k : Nat) (hk : k < s.size) (h : s[k] = 46) : dotTo s (k + 1) = (k : Int) := by
  have e : s.data.getD k 0 = 46 := by rw [← h]; unfold Array.getD; rw [dif_pos (show k < s.data.size from hk)]; rfl
  unfold dotTo; rw [if_pos e]
theorem dot_miss (s : ByteArray) (k : Nat) (hk : k < s.size) (h : ¬ s[k] = 46) : dotTo s (k + 1) = dotTo s k := by
  have e : s.data.getD k 0 = s[k] := by unfold Array.getD; rw [dif_pos (show k < s.data.size from hk)]; rfl
  rw [dotTo]; rw [if_neg (by rw [e]; exact h)]
theorem byte_ne {b : UInt8} (h : ¬ b = 46) : ((b.toNat : Int) == 46) = false := by
  rw [beq_eq_false_iff_ne]
  intro e
  apply h
  apply UInt8.toNat_inj.1
  show b.toNat = 46
  omega

set_option maxHeartbeats 400000 in
theorem lastDot_any (s : ByteArray) (w : World) (hs : s.size ≤ maxLen) :
    Calls Try.prog 10 #[.string s] w fun e w' => e = .returned (.int .i64 (dot s)) ∧ w' = w := by
  unfold maxLen at hs
  go_enter Try.func10, Try.ntmps10
  go_wp2
  go_loop [3] (fun i => ∃ k : Nat, k ≤ s.size ∧ i = .int .i64 ((k : Int) - 1) ∧ Hid (dot s = dotTo s k)) (fun i => (intOf i + 1).toNat)
  case atStart => exact ⟨s.size, Nat.le_refl _, rfl, rfl⟩
  case round =>
    obtain ⟨k, hk, rfl, H⟩ := hrel
    cases k with
    | zero =>
      have HD : Hid (-1 = dot s) := H.out.symm
      clear H
      go_wp2
      go_ret
      exact ⟨congrArg (fun x => Ending.returned (.int .i64 x)) HD.out, rfl⟩
    | succ k =>
      rw [show ((k + 1 : Nat) : Int) - 1 = (k : Int) by omega]
      have hk' : k < s.size := by omega
      by_cases hd : s[k] = 46
      · have ht : ((s[k].toNat : Int) == 46) = true := by rw [hd]; rfl
        have HD : Hid ((k : Int) = dot s) := by rw [H.out]; exact (dot_hit s k hk' hd).symm
        clear hd H
        go_wp2
        go_ret
        exact ⟨congrArg (fun x => Ending.returned (.int .i64 x)) HD.out, rfl⟩
      · have ht : ((s[k].toNat : Int) == 46) = false := byte_ne hd
        have HD : Hid (dot s = dotTo s k) := by rw [H.out]; exact dot_miss s k hk' hd
        clear hd H
        go_wp2
        go_round
        case rel => exact ⟨k, by omega, by go_num, HD⟩
        case measure => simp [intOf]

set_option maxHeartbeats 400000 in
theorem lastIdx_any (s : ByteArray) (w : World) (hs : s.size ≤ maxLen) :
    Calls Try.prog 15 #[.string s, .int .u8 46] w fun e w' => e = .returned (.int .i64 (dot s)) ∧ w' = w := by
  unfold maxLen at hs
  go_enter Try.func15, Try.ntmps15
  go_wp2
  go_loop [5] (fun i => ∃ k : Nat, k ≤ s.size ∧ i = .int .i64 ((k : Int) - 1) ∧ Hid (dot s = dotTo s k)) (fun i => (intOf i + 1).toNat)
  case atStart => exact ⟨s.size, Nat.le_refl _, rfl, rfl⟩
  case round =>
    obtain ⟨k, hk, rfl, H⟩ := hrel
    cases k with
    | zero =>
      have HD : Hid (-1 = dot s) := H.out.symm
      clear H
      go_wp2
      go_ret
      exact ⟨congrArg (fun x => Ending.returned (.int .i64 x)) HD.out, rfl⟩
    | succ k =>
      rw [show ((k + 1 : Nat) : Int) - 1 = (k : Int) by omega]
      have hk' : k < s.size := by omega
      by_cases hd : s[k] = 46
      · have ht : ((s[k].toNat : Int) == 46) = true := by rw [hd]; rfl
        have HD : Hid ((k : Int) = dot s) := by rw [H.out]; exact (dot_hit s k hk' hd).symm
        clear hd H
        go_wp2
        go_ret
        exact ⟨congrArg (fun x => Ending.returned (.int .i64 x)) HD.out, rfl⟩
      · have ht : ((s[k].toNat : Int) == 46) = false := byte_ne hd
        have HD : Hid (dot s = dotTo s k) := by rw [H.out]; exact dot_miss s k hk' hd
        clear hd H
        go_wp2
        go_round
        case rel => exact ⟨k, by omega, by go_num, HD⟩
        case measure => simp [intOf]

theorem lastIndex_any (s : ByteArray) (w : World) (hs : s.size ≤ maxLen) :
    Calls Try.prog 14 #[.string s, .int .u8 46] w fun e w' => e = .returned (.int .i64 (dot s)) ∧ w' = w := by
  go_enter Try.func14, Try.ntmps14
  go_wp2_with (go_at_call 15; refine (lastIdx_any _ _ hs).mono ?_; rintro e w' ⟨rfl, rfl⟩)
  go_ret
  exact ⟨rfl, rfl⟩
end Go.Proofs.Qxb6628271a
