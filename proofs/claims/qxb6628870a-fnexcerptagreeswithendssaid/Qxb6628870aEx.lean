import Derived.Test.Qxb6628870aRows
import Derived.WalkKit
import Derived.WalkSpells
import Derived.WalkLawsBesides
import Derived.BigQuiet
namespace Go.Proofs.Qxb6628870a
open Go.RowKit

set_option maxHeartbeats 400000 in
theorem ends_any (n : Nat) (w : World) : Calls Try.prog 6 #[.int .i64 n] w fun e w' => e = .returned (.tuple #[.int .i64 20, .int .i64 9, .bool (decide ((32 : Int) < n))]) ∧ w' = w := by
  go_enter Try.func6, Try.ntmps6
  go_wp2
  go_ret3
  exact ⟨rfl, rfl⟩

/-- the excerpt of a long text -/
def cutS (s : ByteArray) : ByteArray := s.extract 0 20 ++ ⟨#[46, 46, 46]⟩ ++ s.extract (s.size - 9) s.size

set_option maxHeartbeats 400000 in
theorem exc_long (s : ByteArray) (w : World) (h1 : 32 < s.size) (h2 : s.size ≤ 1048576) : Calls Try.prog 7 #[.string s] w fun e w' => e = .returned (.string (cutS s)) ∧ ∃ q, w' = w.drewN q := by
  have hb1 : (0 : Int) ≤ (s.size : Int) - 9 := by omega
  have hb2 : (s.size : Int) - 9 ≤ (s.size : Int) := by omega
  have hb3 : (20 : Int) ≤ (s.size : Int) := by omega
  have hd : decide ((32 : Int) < (s.size : Int)) = true := by simp; omega
  go_enter Try.func7, Try.ntmps7
  go_wp2_with (go_at_call 6; refine (ends_any _ _).mono ?_; rintro e w' ⟨rfl, rfl⟩; rw [hd])
  go_quiet (fail)
  go_wp2
  go_ret
  exact ⟨rfl, _, rfl⟩

set_option maxHeartbeats 400000 in
theorem exc_short (s : ByteArray) (w : World) (h1 : s.size ≤ 32) : Calls Try.prog 7 #[.string s] w fun e w' => e = .returned (.string s) ∧ w' = w := by
  have hd : decide ((32 : Int) < (s.size : Int)) = false := by simp; omega
  go_enter Try.func7, Try.ntmps7
  go_wp2_with (go_at_call 6; refine (ends_any _ _).mono ?_; rintro e w' ⟨rfl, rfl⟩; rw [hd])
  go_ret
  exact ⟨rfl, rfl⟩

theorem size_cut (s : ByteArray) (h : 32 < s.size) : (cutS s).size = 32 := by
  unfold cutS
  rw [ByteArray.size_append, ByteArray.size_append, ByteArray.size_extract, ByteArray.size_extract]
  show _ + 3 + _ = 32
  omega

theorem bytes_ext {a b : ByteArray} (h : a.data.toList = b.data.toList) : a = b := by
  have := Array.toList_inj.1 h
  cases a; cases b; simp_all
theorem app_list (a b : ByteArray) : (a ++ b).data.toList = a.data.toList ++ b.data.toList := by
  simp
theorem ext_list (s : ByteArray) (i j : Nat) : (s.extract i j).data.toList = (s.data.toList.drop i).take (j - i) := by
  simp

/-- the first 20 bytes of a, the last 9 of b -/
theorem cut_mid (a m b : ByteArray) (ha : 20 ≤ a.size) (hb : 9 ≤ b.size) : cutS (a ++ m ++ b) = a.extract 0 20 ++ ⟨#[46, 46, 46]⟩ ++ b.extract (b.size - 9) b.size := by
  have la : a.data.toList.length = a.size := by simp
  have lm : m.data.toList.length = m.size := by simp
  have lb : b.data.toList.length = b.size := by simp
  have hs : (a ++ m ++ b).size = a.size + m.size + b.size := by simp [ByteArray.size_append]
  unfold cutS
  rw [hs]
  have e1 : (a ++ m ++ b).extract 0 20 = a.extract 0 20 := by
    apply bytes_ext
    rw [ext_list, ext_list, app_list, app_list, List.drop_zero, List.drop_zero, List.append_assoc, List.take_append_of_le_length (by omega)]
  have e2 : (a ++ m ++ b).extract (a.size + m.size + b.size - 9) (a.size + m.size + b.size) = b.extract (b.size - 9) b.size := by
    apply bytes_ext
    rw [ext_list, ext_list, app_list, app_list]
    have hl : (a.data.toList ++ m.data.toList).length = a.size + m.size := by rw [List.length_append, la, lm]
    rw [show a.size + m.size + b.size - 9 = (a.data.toList ++ m.data.toList).length + (b.size - 9) by rw [hl]; omega, ← List.drop_drop, List.drop_left]
    congr 1
    omega
  rw [e1, e2]
theorem cut_two (a b : ByteArray) (ha : 20 ≤ a.size) (hb : 9 ≤ b.size) : cutS (a ++ b) = a.extract 0 20 ++ ⟨#[46, 46, 46]⟩ ++ b.extract (b.size - 9) b.size := by
  have h := cut_mid a ByteArray.empty b ha hb
  have e : a ++ ByteArray.empty = a := by apply bytes_ext; rw [app_list]; simp
  rwa [e] at h

end Go.Proofs.Qxb6628870a
