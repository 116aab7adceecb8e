import Derived.Test.Qxb6628235aCon
import Derived.BigQuiet
namespace Go.Proofs.Qxb6628235a
open Go.RowKit

set_option maxRecDepth 100000 in
set_option maxHeartbeats 1000000 in
theorem m3_small (a0 a1 : Option Addr) (c0 c1 : Nat) (w : World) (xs ys : List U) (hsm : xs.length + ys.length ≤ 32768)
    (hl0 : LiesAny w a0 xs) (hl1 : LiesAny w a1 ys) (hz0 : a0 = none → xs.length = 0 ∧ c0 = 0) (hz1 : a1 = none → ys.length = 0 ∧ c1 = 0) :
    Calls Try.prog 3 #[.slice a0 xs.length c0, .slice a1 ys.length c1] w fun e w' => e = .returned (.bool true) ∧ Below w.heap.size w w' := by
  obtain ⟨n0, hn0⟩ : ∃ n, n = xs.length := ⟨_, rfl⟩
  obtain ⟨n1, hn1⟩ : ∃ n, n = ys.length := ⟨_, rfl⟩
  rw [← hn0] at hsm hz0 ⊢
  rw [← hn1] at hsm hz1 ⊢
  have HN : Hid (n0 = xs.length ∧ n1 = ys.length) := ⟨hn0, hn1⟩
  have HZ : Hid ((a0 = none → n0 = 0 ∧ c0 = 0) ∧ (a1 = none → n1 = 0 ∧ c1 = 0)) := ⟨hz0, hz1⟩
  clear hn0 hn1 hz0 hz1
  obtain ⟨i0, hi, hz0, hz1, hz2⟩ := info_parts Try.info29
  go_enter Try.func3, Try.ntmps3
  go_wp2_with (first
    | (go_at_call 5; go_in)
    | (at_make; refine wpList_make_own _ rfl (.const (.int .i64 0)) (.tmp 32) 22 rfl w.heap.size 29 i0 _ 4 Try.underlying22 hi hz0 hz1 .i64 .i64 _ (n0 + n1) rfl rfl (by omega) (by rw [hz2]; omega) (by simp [maxLen]; omega) (by omega) ?_; intro w1 hown1 hgr1)
    | (at_builtin; refine wpList_append_fits_any _ rfl (.tmp 34) (.tmp 35) 22 rfl w.heap.size 29 i0 4 Try.underlying22 hi hz1 w.heap.size 0 (n0 + n1) [] rfl hown1 a0 n0 c0 (cellsOf xs) rfl (by rw [cellsOf_length, HN.out.1]) HZ.out.1 (cells_of_any (hl0.below ((Below.refl _ _).grown hgr1 (Nat.le_refl _) (by simp)))) (cellsOf_one _) (by omega) ?_; intro w2 hown2 hgr2; rw [Nat.zero_add] at hown2 ⊢)
    | (at_builtin; refine wpList_append_fits_any _ rfl (.tmp 37) (.tmp 38) 22 rfl w.heap.size 29 i0 4 Try.underlying22 hi hz1 w.heap.size n0 (n0 + n1) ([] ++ cellsOf xs) rfl hown2 a1 n1 c1 (cellsOf ys) rfl (by rw [cellsOf_length, HN.out.2]) HZ.out.2 (cells_of_any (hl1.below (((Below.refl _ _).grown hgr1 (Nat.le_refl _) (by simp)).grown hgr2 hgr1.size (by simp)))) (cellsOf_one _) (by omega) ?_; intro w3 hown3 hgr3))
  have hb3 : Below w.heap.size w w3 := (((Below.refl _ _).grown hgr1 (Nat.le_refl _) (by simp)).grown hgr2 hgr1.size (by simp)).grown hgr3 (Nat.le_trans hgr1.size hgr2.size) (by simp)
  rw [List.nil_append, ← cellsOf_append] at hown3
  have hab := lies_of_owned (by rw [List.length_append, ← HN.out.1, ← HN.out.2]) hown3
  have hs3 := (hown3.lt _ rfl).2
  clear hown1 hown2 hown3 hgr1 hgr2 hgr3
  refine (toUpd_n a0 c0 n0 _ xs HN.out.1.symm (by omega) (hl0.below hb3)).mono ?_
  rintro e w4 ⟨rfl, hb4, hl4, hs4⟩
  go_wp2_with fail
  refine (args_n _ n0 _ xs HN.out.1.symm (by omega) hl4 hs4).mono ?_
  rintro e w5 ⟨rfl, hb5, hB5⟩
  go_wp2_with fail
  refine (toUpd_n a1 c1 n1 _ ys HN.out.2.symm (by omega) (((hl1.below hb3).below hb4).below hb5)).mono ?_
  rintro e w6 ⟨rfl, hb6, hl6, hs6⟩
  go_wp2_with fail
  refine (args_n _ n1 _ ys HN.out.2.symm (by omega) hl6 hs6).mono ?_
  rintro e w7 ⟨rfl, hb7, hB7⟩
  have hab7 : Lies w7 w.heap.size 0 (xs ++ ys) := (((hab.below hb4 hs3).below hb5 (Nat.lt_of_lt_of_le hs3 hb4.size)).below hb6 (Nat.lt_of_lt_of_le hs3 (Nat.le_trans hb4.size hb5.size))).below hb7 (Nat.lt_of_lt_of_le hs3 (Nat.le_trans hb4.size (Nat.le_trans hb5.size hb6.size)))
  have hs7 : w.heap.size < w7.heap.size := Nat.lt_of_lt_of_le hs3 (Nat.le_trans hb4.size (Nat.le_trans hb5.size (Nat.le_trans hb6.size hb7.size)))
  have hb37 : Below w.heap.size w w7 := hb3.trans ((((hb4.mono (Nat.le_of_lt hs3)).trans (hb5.mono (Nat.le_trans (Nat.le_of_lt hs3) hb4.size))).trans (hb6.mono (Nat.le_trans (Nat.le_of_lt hs3) (Nat.le_trans hb4.size hb5.size)))).trans (hb7.mono (Nat.le_trans (Nat.le_of_lt hs3) (Nat.le_trans hb4.size (Nat.le_trans hb5.size hb6.size)))))
  have hB5' : Bytes w7 w4.heap.size xs := (hB5.below hb6).below hb7
  generalize w4.heap.size = r1 at *
  clear hl4 hs4 hl6 hs6 hB5 hb4 hb5 hb6 hab hs3 hb3 hb7 hl0 hl1
  go_wp2_with fail
  refine (toUpd_n _ _ (n0 + n1) _ (xs ++ ys) (by rw [List.length_append, HN.out.1, HN.out.2]) (by omega) (Or.inr ⟨_, _, rfl, hs7, hab7⟩)).mono ?_
  rintro e w8 ⟨rfl, hb8, hl8, hs8⟩
  go_wp2_with fail
  refine (args_n _ (n0 + n1) _ (xs ++ ys) (by rw [List.length_append, HN.out.1, HN.out.2]) (by omega) hl8 hs8).mono ?_
  rintro e w9 ⟨rfl, hb9, hB9⟩
  have hab9 : Lies w9 w.heap.size 0 (xs ++ ys) := (hab7.below hb8 hs7).below hb9 (Nat.lt_of_lt_of_le hs7 hb8.size)
  have hs9 : w.heap.size < w9.heap.size := Nat.lt_of_lt_of_le hs7 (Nat.le_trans hb8.size hb9.size)
  have hb39 : Below w.heap.size w w9 := (hb37.trans (hb8.mono (Nat.le_of_lt hs7))).trans (hb9.mono (Nat.le_trans (Nat.le_of_lt hs7) hb8.size))
  have hA9 : Bytes w9 r1 xs := (hB5'.below hb8).below hb9
  have hC9 : Bytes w9 w6.heap.size ys := (hB7.below hb8).below hb9
  generalize w6.heap.size = r2 at *
  generalize w8.heap.size = r3 at *
  clear hl8 hs8 hb8 hb9 hB5' hB7 hb37 hab7 hs7
  go_wp2_with fail
  go_loopw [9] (fun i wr => ∃ k : Nat, k ≤ 4 * n0 ∧ i = .int .i64 k ∧ Below w9.heap.size w9 wr) (fun i _ => 4 * n0 - (intOf i).toNat)
  case atStart => exact ⟨0, Nat.zero_le _, rfl, Below.refl _ _⟩
  case round =>
    obtain ⟨k, hk, rfl, hnx⟩ := hrel
    by_cases hlt : k < 4 * n0
    · obtain ⟨v, hv⟩ : ∃ v, v = (byteInts xs).getD k 0 := ⟨_, rfl⟩
      have d1 : wr.cell? ⟨r1, k, none⟩ = some (.int .u8 v) := by rw [hnx.cell (by exact hA9.lt), hA9.cell k (by rw [← HN.out.1]; exact hlt), hv]
      have d3 : wr.cell? ⟨r3, k, none⟩ = some (.int .u8 v) := by
        rw [hnx.cell (by exact hB9.lt), hB9.cell k (by rw [List.length_append, ← HN.out.1, ← HN.out.2]; omega), hv, byteInts_append, getD_left _ _ _ (by rw [byteInts_length, ← HN.out.1]; exact hlt)]
      clear hv
      go_wp2
      go_region
      all_goals go_wp2
      go_roundw
      case rel => exact ⟨k + 1, by omega, by go_num, hnx.drew⟩
      case measure => simp [intOf]; omega
    · go_wp2_with fail
      clear hlt hk
      go_loopw [10] (fun i wr => ∃ k : Nat, k ≤ 4 * n1 ∧ i = .int .i64 k ∧ Below w9.heap.size w9 wr) (fun i _ => 4 * n1 - (intOf i).toNat)
      case atStart => exact ⟨0, Nat.zero_le _, rfl, hnx⟩
      case round =>
        clear hnx
        obtain ⟨k, hk, rfl, hnx⟩ := hrel
        by_cases hlt : k < 4 * n1
        · obtain ⟨v, hv⟩ : ∃ v, v = (byteInts ys).getD k 0 := ⟨_, rfl⟩
          have d1 : wr.cell? ⟨r2, k, none⟩ = some (.int .u8 v) := by rw [hnx.cell (by exact hC9.lt), hC9.cell k (by rw [← HN.out.2]; exact hlt), hv]
          have d3 : wr.cell? ⟨r3, 4 * n0 + k, none⟩ = some (.int .u8 v) := by
            rw [hnx.cell (by exact hB9.lt), hB9.cell (4 * n0 + k) (by rw [List.length_append, ← HN.out.1, ← HN.out.2]; omega), hv, byteInts_append, getD_right _ _ _ _ (by rw [byteInts_length, ← HN.out.1])]
          clear hv
          go_wp2
          go_region
          all_goals go_wp2
          go_roundw
          case rel => exact ⟨k + 1, by omega, by go_num, hnx.drew⟩
          case measure => simp [intOf]; omega
        · go_wp2_with fail
          clear hlt hk
          go_loopw [11] (fun i wr => ∃ k : Nat, k ≤ n0 + n1 ∧ i = .int .i64 k ∧ Below w9.heap.size w9 wr) (fun i _ => n0 + n1 - (intOf i).toNat)
          case atStart => exact ⟨0, Nat.zero_le _, rfl, hnx⟩
          case round =>
            clear hnx
            obtain ⟨k, hk, rfl, hnx⟩ := hrel
            by_cases hlt : k < n0 + n1
            · have hlen : k < (xs ++ ys).length := by rw [List.length_append, ← HN.out.1, ← HN.out.2]; exact hlt
              have hat := byteInts_at (xs ++ ys) k hlen
              have e0 := hab9.c0 k hlen
              have e1 := hab9.c1 k hlen
              have e2 := hab9.c2 k hlen
              have e3 := hab9.c3 k hlen
              have g0 := hB9.cell (4 * k) (by omega)
              have g1 := hB9.cell (4 * k + 1) (by omega)
              have g2 := hB9.cell (4 * k + 2) (by omega)
              have g3 := hB9.cell (4 * k + 3) (by omega)
              rw [hat.1] at g0
              rw [hat.2.1] at g1
              rw [hat.2.2.1] at g2
              rw [hat.2.2.2] at g3
              rw [Nat.zero_add, ← hnx.cell (by exact hs9)] at e0 e1 e2 e3
              rw [← hnx.cell (by exact hB9.lt)] at g0 g1 g2 g3
              clear hat hlen
              generalize (xs ++ ys).getD k U0 = u at *
              obtain ⟨b0, hb0⟩ : ∃ b, b = hdB u.k u.act := ⟨_, rfl⟩
              rw [← hb0] at g0
              have HB : Hid (b0 = hdB u.k u.act) := hb0
              clear hb0
              have k0 : ∀ o : Obj, (wr.alloc o).cell? ⟨r3, 4 * k, none⟩ = some (.int .u8 b0) := fun o => (World.cell?_alloc_lt _ _ _ (World.block_lt_of_cell? _ _ g0)).trans g0
              have k1 : ∀ o : Obj, (wr.alloc o).cell? ⟨r3, 4 * k + 1, none⟩ = some (.int .u8 (u.i / 65536 % 256)) := fun o => (World.cell?_alloc_lt _ _ _ (World.block_lt_of_cell? _ _ g1)).trans g1
              have k2 : ∀ o : Obj, (wr.alloc o).cell? ⟨r3, 4 * k + 2, none⟩ = some (.int .u8 (u.i / 256 % 256)) := fun o => (World.cell?_alloc_lt _ _ _ (World.block_lt_of_cell? _ _ g2)).trans g2
              have k3 : ∀ o : Obj, (wr.alloc o).cell? ⟨r3, 4 * k + 3, none⟩ = some (.int .u8 (u.i % 256)) := fun o => (World.cell?_alloc_lt _ _ _ (World.block_lt_of_cell? _ _ g3)).trans g3
              clear g0 g1 g2 g3
              have t1 := test_kind u.k u.act
              rw [← HB.out] at t1
              have t2 := test_id u.i
              go_wp2
              go_region
              all_goals go_wp2
              go_region
              all_goals go_wp2
              go_roundw
              case rel => exact ⟨k + 1, by omega, by go_num, ((hnx.alloc hnx.size _).drew).drew⟩
              case measure => simp [intOf]; omega
            · go_wp2
              go_ret
              exact ⟨rfl, hb39.trans (hnx.mono (Nat.le_of_lt hs9))⟩
end Go.Proofs.Qxb6628235a
