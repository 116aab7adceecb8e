import Derived.Test.Qxb6628235aW6
namespace Go.Proofs.Qxb6628235a
open Go.RowKit

theorem i64_small (n : Int) (h0 : 0 ≤ n) (h1 : n < 4294967296) : IntKind.i64.wrap n = n := by rw [IntKind.wrap_i64]; omega

theorem ofInt64_toNat (x : Int) : ((BitVec.ofInt 64 x).toNat : Int) = x % 18446744073709551616 := by
  rw [BitVec.toNat_ofInt]
  have : (0 : Int) ≤ x % 18446744073709551616 := Int.emod_nonneg _ (by decide)
  show ((x % 18446744073709551616).toNat : Int) = _
  omega

theorem i64_and15 (x : Int) : bits .and .i64 x 15 = x % 16 := by
  have h := ofInt64_toNat x
  show IntKind.i64.wrap (((BitVec.ofInt 64 x) &&& (BitVec.ofInt 64 15)).toNat : Int) = _
  rw [BitVec.toNat_and, show (BitVec.ofInt 64 15).toNat = 15 from rfl, nat_mask4]
  rw [i64_small _ (by omega) (by omega)]
  omega

theorem i64_and24 (x : Int) : bits .and .i64 x 16777215 = x % 16777216 := by
  have h := ofInt64_toNat x
  show IntKind.i64.wrap (((BitVec.ofInt 64 x) &&& (BitVec.ofInt 64 16777215)).toNat : Int) = _
  rw [BitVec.toNat_and, show (BitVec.ofInt 64 16777215).toNat = 16777215 from rfl, show (16777215 : Nat) = 2 ^ 24 - 1 from rfl, Nat.and_two_pow_sub_one_eq_mod]
  rw [i64_small _ (by omega) (by omega)]
  omega

theorem hdB_range (k act : Int) : 0 ≤ hdB k act ∧ hdB k act < 256 := by
  unfold hdB
  rw [IntKind.wrap_u8, IntKind.wrap_u8, u8_or _ _ (by omega) (by omega) (by omega) (by omega)]
  have : ((k % 256).toNat ||| (act * 16 % 256).toNat) < 2 ^ 8 := Nat.or_lt_two_pow (by omega) (by omega)
  omega

theorem hdB_low (k act : Int) : hdB k act % 16 = k % 16 := by
  unfold hdB
  rw [IntKind.wrap_u8, IntKind.wrap_u8, u8_or _ _ (by omega) (by omega) (by omega) (by omega)]
  have h : ((k % 256).toNat ||| (act * 16 % 256).toNat) % 2 ^ 4 = (k % 256).toNat % 2 ^ 4 ||| (act * 16 % 256).toNat % 2 ^ 4 := Nat.or_mod_two_pow
  have h2 : (act * 16 % 256).toNat % 2 ^ 4 = 0 := by omega
  rw [h2, Nat.or_zero] at h
  omega

theorem hdB_and (k act : Int) : bits .and .u8 (hdB k act) 15 = k % 16 := by
  rw [u8_and15 _ (hdB_range k act).1 (hdB_range k act).2, hdB_low]

theorem hdB_sum (k act : Int) (h0 : 0 ≤ k) (h1 : k ≤ 15) (h2 : 0 ≤ act) (h3 : act ≤ 15) : hdB k act = k + act * 16 := by
  unfold hdB
  rw [IntKind.wrap_u8, IntKind.wrap_u8, u8_or _ _ (by omega) (by omega) (by omega) (by omega), Nat.or_comm, nat_join 4 _ _ (by omega) (by omega)]
  omega

theorem i64_join (i : Nat) (x y : Int) (h0 : 0 ≤ x) (hx : x % 2 ^ i = 0) (h1 : x < 4294967296) (h2 : 0 ≤ y) (h3 : y < 2 ^ i) (h4 : y < 4294967296) : bits .or .i64 x y = x + y :=
  bits_join .i64 32 (by decide) (fun n a b => i64_small n a b) i x y h0 hx h1 h2 h3 h4

theorem id_join (i : Int) : bits .or .i64 (bits .or .i64 (i / 65536 % 256 * 65536) (i / 256 % 256 * 256)) (i % 256) = i % 16777216 := by
  rw [i64_join 16 (i / 65536 % 256 * 65536) (i / 256 % 256 * 256) (by omega) (by omega) (by omega) (by omega) (by omega) (by omega),
    i64_join 8 _ _ (by omega) (by omega) (by omega) (by omega) (by omega) (by omega)]
  omega

theorem test_id (i : Int) : (bits .or .i64 (bits .or .i64 (i / 65536 % 256 * 65536) (i / 256 % 256 * 256)) (i % 256) != bits .and .i64 i 16777215) = false := by
  rw [id_join, i64_and24]; simp

theorem wrap64_small (n : Int) (h0 : 0 ≤ n) (h1 : n < 4294967296) : wrap64 n = n := IntWalk.wrap64_in n ⟨by omega, by omega⟩

theorem test_kind (k act : Int) : (wrap64 (bits .and .u8 (hdB k act) 15) != bits .and .i64 k 15) = false := by
  rw [hdB_and, wrap64_small _ (by omega) (by omega), i64_and15]; simp

end Go.Proofs.Qxb6628235a
