import Derived.Test.Qxb6628870aEx
namespace Go.Proofs.Qxb6628870a
open Go.RowKit

set_option maxHeartbeats 1000000 in
theorem agrees_walk (s : ByteArray) (hs : s.size ≤ maxLen) (w : World) :
    Calls Try.prog 3 #[.string s] w fun e w' => e = .returned (.bool true) ∧ ∃ q, w' = w.drewN q := by
  have hm : s.size ≤ 9223372036854775807 := hs
  clear hs
  by_cases hbig : 1048576 < s.size
  · go_enter Try.func3, Try.ntmps3
    go_wp2_with (go_at_call 5; go_in)
    go_ret
    exact ⟨rfl, 0, rfl⟩
  · by_cases hsh : s.size ≤ 32
    · have hd : decide ((32 : Int) < (s.size : Int)) = false := by simp; omega
      go_enter Try.func3, Try.ntmps3
      go_wp2_with (first
        | (go_at_call 5; go_in)
        | (go_at_call 6; refine (ends_any _ _).mono ?_; rintro e w' ⟨rfl, rfl⟩; rw [hd])
        | (go_at_call 7; refine (exc_short _ _ hsh).mono ?_; rintro e w' ⟨rfl, rfl⟩))
      go_ret
      exact ⟨rfl, 0, rfl⟩
    · have hd : decide ((32 : Int) < (s.size : Int)) = true := by simp; omega
      have hb1 : (0 : Int) ≤ (s.size : Int) - 9 := by omega
      have hb2 : (s.size : Int) - 9 ≤ (s.size : Int) := by omega
      have hb3 : (20 : Int) ≤ (s.size : Int) := by omega
      have hsz := size_cut s (by omega)
      have HSZ : Hid ((cutS s).size = 32) := hsz
      clear hsz
      go_enter Try.func3, Try.ntmps3
      go_wp2_with (first
        | (go_at_call 5; go_in)
        | (go_at_call 6; refine (ends_any _ _).mono ?_; rintro e w' ⟨rfl, rfl⟩; rw [hd])
        | (go_at_call 7; refine (exc_long _ _ (by omega) (by omega)).mono ?_; rintro e w' ⟨rfl, q, rfl⟩))
      go_quiet (fail)
      rw [show (s.extract 0 20 ++ ({ data := #[46, 46, 46] } : ByteArray) ++ s.extract (s.size - 9) s.size) = cutS s from rfl]
      have hT1 : (cutS s).size ≤ 32 := by rw [HSZ.out]; exact Nat.le_refl _
      have hT2 : 32 ≤ (cutS s).size := by rw [HSZ.out]; exact Nat.le_refl _
      generalize cutS s = T at *
      have ht : (T.toList == T.toList) = true := by simp
      go_wp2_with (first
        | (go_at_call 7; refine (exc_short _ _ hT1).mono ?_; rintro e w' ⟨rfl, rfl⟩))
      go_ret
      exact ⟨rfl, _, rfl⟩
end Go.Proofs.Qxb6628870a
