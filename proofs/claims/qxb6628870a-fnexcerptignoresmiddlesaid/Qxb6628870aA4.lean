import Derived.Test.Qxb6628870aEx
namespace Go.Proofs.Qxb6628870a
open Go.RowKit

set_option maxHeartbeats 1000000 in
theorem mid_big (a m b : ByteArray) (ha : a.size ≤ maxLen) (hm : m.size ≤ maxLen) (hb : b.size ≤ maxLen) (w : World) (hbig : 262144 < a.size ∨ 262144 < m.size ∨ 262144 < b.size ∨ a.size < 20 ∨ b.size < 9) :
    Calls Try.prog 4 #[.string a, .string m, .string b] w fun e w' => e = .returned (.bool true) ∧ ∃ q, w' = w.drewN q := by
  have ha' : a.size ≤ 9223372036854775807 := ha
  have hm' : m.size ≤ 9223372036854775807 := hm
  have hb' : b.size ≤ 9223372036854775807 := hb
  clear ha hm hb
  go_enter Try.func4, Try.ntmps4
  go_wp2_with (go_at_call 8; go_in)
  all_goals go_ret
  all_goals exact ⟨rfl, 0, rfl⟩

set_option maxHeartbeats 1000000 in
theorem mid_short (a m b : ByteArray) (w : World) (ha : a.size ≤ 262144) (hm : m.size ≤ 262144) (hb : b.size ≤ 262144) (ha2 : 20 ≤ a.size) (hb2 : 9 ≤ b.size) (hsum : a.size + m.size + b.size ≤ 32) :
    Calls Try.prog 4 #[.string a, .string m, .string b] w fun e w' => e = .returned (.bool true) ∧ ∃ q, w' = w.drewN q := by
  have hsz : (a ++ m ++ b).size ≤ 32 := by rw [ByteArray.size_append, ByteArray.size_append]; exact hsum
  go_enter Try.func4, Try.ntmps4
  go_wp2_with (first
    | (go_at_call 8; go_in)
    | (go_at_call 7; refine (exc_short _ _ hsz).mono ?_; rintro e w' ⟨rfl, rfl⟩))
  go_ret
  exact ⟨rfl, 0, rfl⟩

set_option maxHeartbeats 1000000 in
theorem mid_long (a m b : ByteArray) (w : World) (ha : a.size ≤ 262144) (hm : m.size ≤ 262144) (hb : b.size ≤ 262144) (ha2 : 20 ≤ a.size) (hb2 : 9 ≤ b.size) (hsum : 32 < a.size + m.size + b.size) :
    Calls Try.prog 4 #[.string a, .string m, .string b] w fun e w' => e = .returned (.bool true) ∧ ∃ q, w' = w.drewN q := by
  have hsz1 : 32 < (a ++ m ++ b).size := by rw [ByteArray.size_append, ByteArray.size_append]; exact hsum
  have hsz2 : (a ++ m ++ b).size ≤ 1048576 := by rw [ByteArray.size_append, ByteArray.size_append]; omega
  have hcm := cut_mid a m b ha2 hb2
  have hX := size_cut (a ++ m ++ b) hsz1
  have HC : Hid (cutS (a ++ m ++ b) = a.extract 0 20 ++ ⟨#[46, 46, 46]⟩ ++ b.extract (b.size - 9) b.size) := hcm
  have HC2 : Hid (cutS (a ++ b) = a.extract 0 20 ++ ⟨#[46, 46, 46]⟩ ++ b.extract (b.size - 9) b.size) := cut_two a b ha2 hb2
  have HX : Hid ((cutS (a ++ m ++ b)).size = 32) := hX
  clear hcm hX
  have hb1 : (0 : Int) ≤ (b.size : Int) - 9 := by omega
  have hb3 : (b.size : Int) - 9 ≤ (b.size : Int) := by omega
  have hb4 : (20 : Int) ≤ (a.size : Int) := by omega
  go_enter Try.func4, Try.ntmps4
  go_wp2_with (first
    | (go_at_call 8; go_in)
    | (go_at_call 7; refine (exc_long _ _ hsz1 hsz2).mono ?_; rintro e w' ⟨rfl, q, rfl⟩))
  go_quiet (fail)
  have HC3 : Hid (cutS (a ++ b) = cutS (a ++ m ++ b)) := HC2.out.trans HC.out.symm
  rw [← HC.out]
  have hT1 : (cutS (a ++ m ++ b)).size ≤ 32 := by rw [HX.out]; exact Nat.le_refl _
  clear HC HC2 HX
  generalize cutS (a ++ m ++ b) = X at *
  have ht : (X.toList == X.toList) = true := by simp
  by_cases hab : 32 < a.size + b.size
  · have hs1 : 32 < (a ++ b).size := by rw [ByteArray.size_append]; exact hab
    have hs2 : (a ++ b).size ≤ 1048576 := by rw [ByteArray.size_append]; omega
    go_wp2_with fail
    refine (exc_short _ _ hT1).mono ?_
    rintro e w' ⟨rfl, rfl⟩
    go_wp2_with fail
    refine (exc_long _ _ hs1 hs2).mono ?_
    rintro e w' ⟨rfl, q2, rfl⟩
    rw [HC3.out]
    go_wp2
    go_ret
    exact ⟨rfl, _, rfl⟩
  · go_wp2_with fail
    refine (exc_short _ _ hT1).mono ?_
    rintro e w' ⟨rfl, rfl⟩
    go_wp2
    go_ret
    exact ⟨rfl, _, rfl⟩
end Go.Proofs.Qxb6628870a
