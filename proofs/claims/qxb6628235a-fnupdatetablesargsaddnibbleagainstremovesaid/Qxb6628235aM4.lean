import Derived.Test.Qxb6628235aW9
namespace Go.Proofs.Qxb6628235a
open Go.RowKit

set_option maxRecDepth 100000 in
/-- more than the law looks at: it says yes at once -/
theorem m4_big (a0 : Option Addr) (n0 c0 : Nat) (w : World) (hm0 : n0 ≤ maxLen) (hbig : 32768 < n0) :
    Calls Try.prog 4 #[.slice a0 n0 c0] w fun e w' => e = .returned (.bool true) ∧ Below w.heap.size w w' := by
  unfold maxLen at hm0
  go_enter Try.func4, Try.ntmps4
  go_wp2_with (go_in)
  all_goals go_ret
  all_goals exact ⟨rfl, Below.refl _ _⟩

/-- nothing to look at -/
def OkU (u : U) : Prop := 0 ≤ u.k ∧ u.k ≤ 15 ∧ (u.a = true → 0 ≤ rank u.p)
def remU (u : U) : U := ⟨u.k, u.i, false, u.p⟩


theorem stepU {w : World} {base g n k : Nat} {ys : List U} {u : U} {R : List Value} {e : TypeId} (hx : ys.length = n) (hk : k < n) (hR : R.length = (n - k) * 4) (hu : ys.getD k U0 = u)
    (hown : w.ownsRow base e 4 (.slice (some ⟨g, 0, none⟩) n n) n (cellsOf (ys.take k) ++ R)) (o : Obj) :
    ∃ R' : List Value, R'.length = (n - (k + 1)) * 4 ∧
      (((((w.setCell ⟨g, k * 4, none⟩ (.int .i64 u.k)).setCell ⟨g, k * 4 + 1, none⟩ (.int .i64 u.i)).setCell ⟨g, k * 4 + 2, none⟩ (.bool u.a)).setCell ⟨g, k * 4 + 3, none⟩ (.int .i64 u.p)).alloc o).ownsRow base e 4
        (.slice (some ⟨g, 0, none⟩) n n) n (cellsOf (ys.take (k + 1)) ++ R') := by
  have e : u = ys[k] := by rw [← hu]; simp [List.getD, show k < ys.length by omega]
  subst e
  exact step7 hx hk hR hown o

theorem rem_getD (xs : List U) (k : Nat) (h : k < xs.length) : (xs.map remU).getD k U0 = remU (xs.getD k U0) := by
  simp [List.getD, h]

set_option maxRecDepth 100000 in
set_option maxHeartbeats 1000000 in
theorem m4_some (b off c0 : Nat) (w : World) (xs : List U) (hsm : xs.length ≤ 32768) (hlt0 : b < w.heap.size) (hl0 : Lies w b off xs) :
    Calls Try.prog 4 #[.slice (some ⟨b, off, none⟩) xs.length c0] w fun e w' => e = .returned (.bool true) ∧ Below w.heap.size w w' := by
  obtain ⟨n, hn⟩ : ∃ n, n = xs.length := ⟨_, rfl⟩
  rw [← hn] at hsm ⊢
  have HN : Hid (n = xs.length) := hn
  clear hn
  obtain ⟨i0, hi, hz0, hz1, hz2⟩ := info_parts Try.info29
  go_enter Try.func4, Try.ntmps4
  go_wp2_with (go_at_call 8; go_in)
  go_loopw [3] (fun i wr => ∃ k : Nat, k ≤ n ∧ i = .int .i64 k ∧ Below w.heap.size w wr ∧ Hid (∀ j, j < k → OkU (xs.getD j U0))) (fun i _ => n - (intOf i).toNat)
  case atStart => exact ⟨0, Nat.zero_le _, rfl, Below.refl _ _, fun j hj => by omega⟩
  case round =>
    obtain ⟨k, hk, rfl, hnx, HO⟩ := hrel
    by_cases hlt : k < n
    · have e0 := hl0.c0 k (by rw [← HN.out]; exact hlt)
      have e1 := hl0.c1 k (by rw [← HN.out]; exact hlt)
      have e2 := hl0.c2 k (by rw [← HN.out]; exact hlt)
      have e3 := hl0.c3 k (by rw [← HN.out]; exact hlt)
      rw [← hnx.cell (by exact hlt0)] at e0 e1 e2 e3
      obtain ⟨u, hu⟩ : ∃ u, u = xs.getD k U0 := ⟨_, rfl⟩
      rw [← hu] at e0 e1 e2 e3
      have HU : Hid (u = xs.getD k U0) := hu
      clear hu
      have hext : OkU u → Hid (∀ j, j < k + 1 → OkU (xs.getD j U0)) := fun ho j hj => by
        by_cases hjk : j = k
        · subst hjk; rw [← HU.out]; exact ho
        · exact HO.out j (by omega)
      have HX : Hid (OkU u → Hid (∀ j, j < k + 1 → OkU (xs.getD j U0))) := hext
      clear hext
      rcases (show u.k < 0 ∨ (0 ≤ u.k ∧ 15 < u.k) ∨ (0 ≤ u.k ∧ u.k ≤ 15) by omega) with hu | ⟨hu, hu'⟩ | ⟨hu, hu'⟩
      · go_wp2_with (go_at_call 9; refine (rank_any _ _).mono ?_; rintro e w' ⟨rfl, rfl⟩)
        go_ret
        exact ⟨rfl, hnx⟩
      · go_wp2_with (go_at_call 9; refine (rank_any _ _).mono ?_; rintro e w' ⟨rfl, rfl⟩)
        go_ret
        exact ⟨rfl, hnx⟩
      · by_cases ha : u.a = true
        · by_cases hr : rank u.p < 0
          · go_wp2_with (go_at_call 9; refine (rank_any _ _).mono ?_; rintro e w' ⟨rfl, rfl⟩)
            go_ret
            exact ⟨rfl, hnx⟩
          · go_wp2_with (go_at_call 9; refine (rank_any _ _).mono ?_; rintro e w' ⟨rfl, rfl⟩)
            go_roundw
            case rel => (repeat apply Exists.intro); exact ⟨⟨k + 1, by omega, by go_num, hnx, HX.out ⟨hu, hu', fun _ => by omega⟩⟩, rfl⟩
            case measure => simp [intOf]; omega
        · have ha' : u.a = false := by simpa using ha
          clear ha
          go_wp2_with (go_at_call 9; refine (rank_any _ _).mono ?_; rintro e w' ⟨rfl, rfl⟩)
          go_roundw
          case rel => (repeat apply Exists.intro); exact ⟨⟨k + 1, by omega, by go_num, hnx, HX.out ⟨hu, hu', fun h => by rw [ha'] at h; cases h⟩⟩, rfl⟩
          case measure => simp [intOf]; omega
    · have HA : Hid (∀ j, j < n → OkU (xs.getD j U0)) := fun j hj => HO.out j (by omega)
      have hltb := hlt0
      clear HO hlt0
      go_wp2_with (first
        | (at_make; refine wpList_make_full _ rfl (.tmp 56) (.tmp 56) 22 rfl w.heap.size 29 i0 _ 4 Try.underlying22 hi hz0 hz1 .i64 .i64 _ _ n rfl rfl rfl rfl (by rw [hz2]; omega) (by simp [maxLen]; omega) hnx.size ?_; intro w1 hown1 hgr1))
      have hbw : Below w.heap.size w w1 := hnx.grown hgr1 hnx.size (by simp)
      have hbg : Below wr.heap.size wr w1 := (Below.refl _ _).grown hgr1 (Nat.le_refl _) (by simp)
      have hgw := hnx.size
      have hs1 : wr.heap.size < w1.heap.size := (hown1.lt _ rfl).2
      have hl1 : Lies w1 b off xs := hl0.below hbw hltb
      clear hl0 hnx hbg hgr1
      generalize wr.heap.size = g at *
      go_loopw [5] (fun i wx => ∃ k : Nat, k ≤ n ∧ i = .int .i64 k ∧ Below g w1 wx ∧ g < wx.heap.size ∧ ∃ R : List Value, R.length = (n - k) * 4 ∧ wx.ownsRow w.heap.size 29 4 (.slice (some ⟨g, 0, none⟩) n n) n (cellsOf ((xs.map remU).take k) ++ R)) (fun i _ => n - (intOf i).toNat)
      case atStart => exact ⟨0, Nat.zero_le _, rfl, Below.refl _ _, hs1, _, by have := hown1.1; omega, by simpa [cellsOf] using hown1⟩
      case round =>
        obtain ⟨k, hk, rfl, hnx, hsz, R, hR, hown⟩ := hrel
        by_cases hlt : k < n
        · have e0 := hl1.c0 k (by rw [← HN.out]; exact hlt)
          have e1 := hl1.c1 k (by rw [← HN.out]; exact hlt)
          have e2 := hl1.c2 k (by rw [← HN.out]; exact hlt)
          have e3 := hl1.c3 k (by rw [← HN.out]; exact hlt)
          rw [← hnx.cell (by exact Nat.lt_of_lt_of_le hltb hgw)] at e0 e1 e2 e3
          obtain ⟨v0, q0⟩ := owned_some hown (k * 4) (by omega)
          obtain ⟨v1, q1⟩ := owned_some hown (k * 4 + 1) (by omega)
          obtain ⟨v2, q2⟩ := owned_some hown (k * 4 + 2) (by omega)
          obtain ⟨v3, q3⟩ := owned_some hown (k * 4 + 3) (by omega)
          have f0 := hown.frozenAt (k * 4)
          have f1 := hown.frozenAt (k * 4 + 1)
          have f2 := hown.frozenAt (k * 4 + 2)
          have f3 := hown.frozenAt (k * 4 + 3)
          have hst := stepU (by rw [List.length_map, ← HN.out]) hlt hR (rem_getD xs k (by rw [← HN.out]; exact hlt)) hown
          have HS : Hid (∀ o : Obj, _) := hst
          clear hst
          generalize xs.getD k U0 = u at *
          go_wp2
          go_roundw
          case rel => exact ⟨k + 1, by omega, by go_num, ((((hnx.setCell (Nat.le_refl _) _).setCell (Nat.le_refl _) _).setCell (Nat.le_refl _) _).setCell (Nat.le_refl _) _).alloc (by simp; omega) _, by simp; omega, HS.out _⟩
          case measure => simp [intOf]; omega
        · have hkn : k = n := by omega
          subst hkn
          have hR0 : R = [] := List.eq_nil_of_length_eq_zero (by simpa using hR)
          subst hR0
          rw [List.append_nil, List.take_of_length_le (by rw [List.length_map, ← HN.out]; exact Nat.le_refl _)] at hown
          have hlr : Lies wr g 0 (xs.map remU) := lies_of_owned (by rw [List.length_map, ← HN.out]) hown
          have hlx : Lies wr b off xs := ⟨fun j hj => (hnx.cell (by exact Nat.lt_of_lt_of_le hltb hgw)).trans (hl1.c0 j hj), fun j hj => (hnx.cell (by exact Nat.lt_of_lt_of_le hltb hgw)).trans (hl1.c1 j hj), fun j hj => (hnx.cell (by exact Nat.lt_of_lt_of_le hltb hgw)).trans (hl1.c2 j hj), fun j hj => (hnx.cell (by exact Nat.lt_of_lt_of_le hltb hgw)).trans (hl1.c3 j hj)⟩
          have hbr : Below w.heap.size w wr := hbw.trans (hnx.mono hgw)
          clear hl1 hbw hnx hown hR hown1 hs1
          have hgs := Nat.lt_of_lt_of_le hltb hbr.size
          go_wp2_with fail
          refine (toUpd_n _ c0 k _ xs HN.out.symm (by omega) (Or.inr ⟨_, _, rfl, hgs, hlx⟩)).mono ?_
          rintro e w4 ⟨rfl, hb4, hl4, hs4⟩
          go_wp2_with fail
          refine (args_n _ k _ xs HN.out.symm (by omega) hl4 hs4).mono ?_
          rintro e w5 ⟨rfl, hb5, hB5⟩
          have hlr5 : Lies w5 g 0 (xs.map remU) := (hlr.below hb4 hsz).below hb5 (Nat.lt_of_lt_of_le hsz hb4.size)
          have hs5 : g < w5.heap.size := Nat.lt_of_lt_of_le hsz (Nat.le_trans hb4.size hb5.size)
          go_wp2_with fail
          refine (toUpd_n _ k k _ (xs.map remU) (by rw [List.length_map, HN.out]) (by omega) (Or.inr ⟨_, _, rfl, hs5, hlr5⟩)).mono ?_
          rintro e w6 ⟨rfl, hb6, hl6, hs6⟩
          go_wp2_with fail
          refine (args_n _ k _ (xs.map remU) (by rw [List.length_map, HN.out]) (by omega) hl6 hs6).mono ?_
          rintro e w7 ⟨rfl, hb7, hB7⟩
          have hs4b := Nat.lt_of_lt_of_le hgs hb4.size
          have hs5b := Nat.lt_of_lt_of_le hs4b hb5.size
          have hs6b := Nat.lt_of_lt_of_le hs5b hb6.size
          have hx7 : Lies w7 b off xs := (((hlx.below hb4 hgs).below hb5 hs4b).below hb6 hs5b).below hb7 hs6b
          have hs7b := Nat.lt_of_lt_of_le hs6b hb7.size
          have hX7 : Bytes w7 w4.heap.size xs := (hB5.below hb6).below hb7
          have hw7 : Below w.heap.size w w7 := (((hbr.trans (hb4.mono hbr.size)).trans (hb5.mono (Nat.le_trans hbr.size hb4.size))).trans (hb6.mono (Nat.le_trans hbr.size (Nat.le_trans hb4.size hb5.size)))).trans (hb7.mono (Nat.le_trans hbr.size (Nat.le_trans hb4.size (Nat.le_trans hb5.size hb6.size))))
          generalize w4.heap.size = r1 at *
          generalize w6.heap.size = r2 at *
          clear hlx hlr hlr5 hl4 hl6 hB5 hb4 hb5 hb6 hb7 hbr hs4 hs5 hs6 hs4b hs5b hs6b hgs hsz hltb hgw
          go_wp2_with fail
          go_loopw [9] (fun i wx => ∃ j : Nat, j ≤ k ∧ i = .int .i64 j ∧ Below w7.heap.size w7 wx) (fun i _ => k - (intOf i).toNat)
          case atStart => exact ⟨0, Nat.zero_le _, rfl, Below.refl _ _⟩
          case round =>
            obtain ⟨j, hj, rfl, hnx⟩ := hrel
            by_cases hlt : j < k
            · have hlen : j < xs.length := by rw [← HN.out]; exact hlt
              have hlen' : j < (xs.map remU).length := by rw [List.length_map]; exact hlen
              have hat := byteInts_at xs j hlen
              have hat' := byteInts_at (xs.map remU) j hlen'
              rw [rem_getD xs j hlen] at hat'
              have e0 := hx7.c0 j hlen
              have e1 := hx7.c1 j hlen
              have e2 := hx7.c2 j hlen
              have e3 := hx7.c3 j hlen
              have g0 := hX7.cell (4 * j) (by omega)
              have g1 := hX7.cell (4 * j + 1) (by omega)
              have g2 := hX7.cell (4 * j + 2) (by omega)
              have g3 := hX7.cell (4 * j + 3) (by omega)
              have y0 := hB7.cell (4 * j) (by omega)
              have y1 := hB7.cell (4 * j + 1) (by omega)
              have y2 := hB7.cell (4 * j + 2) (by omega)
              have y3 := hB7.cell (4 * j + 3) (by omega)
              rw [hat.1] at g0
              rw [hat.2.1] at g1
              rw [hat.2.2.1] at g2
              rw [hat.2.2.2] at g3
              rw [hat'.1] at y0
              rw [hat'.2.1] at y1
              rw [hat'.2.2.1] at y2
              rw [hat'.2.2.2] at y3
              rw [← hnx.cell (by exact hs7b)] at e0 e1 e2 e3
              rw [← hnx.cell (by exact hX7.lt)] at g0 g1 g2 g3
              rw [← hnx.cell (by exact hB7.lt)] at y0 y1 y2 y3
              clear hat hat' hlen hlen'
              have hok := HA.out j hlt
              generalize xs.getD j U0 = u at *
              obtain ⟨uk, ui, ua, up⟩ := u
              simp only [remU, OkU] at e0 e1 e2 e3 g0 g1 g2 g3 y0 y1 y2 y3 hok
              obtain ⟨hk0, hk1, hrk⟩ := hok
              have HR : Hid (ua = true → 0 ≤ rank up) := hrk
              have cell_al : ∀ {a : Addr} {v : Value}, wr.cell? a = some v → ∀ o : Obj, (wr.alloc o).cell? a = some v := fun h o => (World.cell?_alloc_lt _ _ _ (World.block_lt_of_cell? _ _ h)).trans h
              replace g0 := cell_al g0
              replace g1 := cell_al g1
              replace g2 := cell_al g2
              replace g3 := cell_al g3
              replace y0 := cell_al y0
              replace y1 := cell_al y1
              replace y2 := cell_al y2
              replace y3 := cell_al y3
              clear cell_al hrk
              rw [act_rem, hdB_sum uk 0 hk0 hk1 (by omega) (by omega), Int.zero_mul, Int.add_zero] at y0
              cases ua
              · rw [act_rem, hdB_sum uk 0 hk0 hk1 (by omega) (by omega), Int.zero_mul, Int.add_zero] at g0
                have t2 : (bits .and .u8 uk 15 != uk) = false := by rw [u8_and15 _ (by omega) (by omega)]; simp; omega
                go_wp2
                go_region
                all_goals go_wp2
                go_region
                all_goals go_wp2
                have hu1 : (wr.alloc (.cells #[.int .i64 uk, .int .i64 ui, .bool false, .int .i64 up] 29)).cell? ⟨wr.heap.size, 1, none⟩ = some (.int .i64 ui) := by simp
                have G1 := g1 (.cells #[.int .i64 uk, .int .i64 ui, .bool false, .int .i64 up] 29)
                have G2 := g2 (.cells #[.int .i64 uk, .int .i64 ui, .bool false, .int .i64 up] 29)
                have G3 := g3 (.cells #[.int .i64 uk, .int .i64 ui, .bool false, .int .i64 up] 29)
                have Y1 := y1 (.cells #[.int .i64 uk, .int .i64 ui, .bool false, .int .i64 up] 29)
                have Y2 := y2 (.cells #[.int .i64 uk, .int .i64 ui, .bool false, .int .i64 up] 29)
                have Y3 := y3 (.cells #[.int .i64 uk, .int .i64 ui, .bool false, .int .i64 up] 29)
                have hwr : Below w7.heap.size w7 (wr.alloc (.cells #[.int .i64 uk, .int .i64 ui, .bool false, .int .i64 up] 29)) := hnx.alloc hnx.size _
                clear g0 g1 g2 g3 y0 y1 y2 y3 t2 e0 e1 e2 e3 hnx
                generalize wr.alloc (.cells #[.int .i64 uk, .int .i64 ui, .bool false, .int .i64 up] 29) = W1 at *
                generalize wr.heap.size = ub at *
                go_loopw [13] (fun q wx => ∃ m : Nat, 1 ≤ m ∧ m ≤ 4 ∧ q = .int .i64 m ∧ Below W1.heap.size W1 wx) (fun q _ => 4 - (intOf q).toNat)
                case atStart => exact ⟨1, by omega, by omega, rfl, (Below.refl _ _).drew.drew⟩
                case round =>
                  obtain ⟨m, hm1, hm4, rfl, hbx⟩ := hrel
                  replace hu1 := cell_later hbx hu1
                  replace G1 := cell_later hbx G1
                  replace G2 := cell_later hbx G2
                  replace G3 := cell_later hbx G3
                  replace Y1 := cell_later hbx Y1
                  replace Y2 := cell_later hbx Y2
                  replace Y3 := cell_later hbx Y3
                  by_cases hm : m < 4
                  · obtain ⟨v, d1, d2⟩ : ∃ v, wr.cell? ⟨r1, 4 * j + m, none⟩ = some (.int .u8 v) ∧ wr.cell? ⟨r2, 4 * j + m, none⟩ = some (.int .u8 v) := by
                      rcases (show m = 1 ∨ m = 2 ∨ m = 3 by omega) with rfl | rfl | rfl
                      · exact ⟨_, G1, Y1⟩
                      · exact ⟨_, G2, Y2⟩
                      · exact ⟨_, G3, Y3⟩
                    clear G1 G2 G3 Y1 Y2 Y3 hu1
                    go_wp2
                    go_region
                    all_goals go_wp2
                    go_roundw
                    case rel => exact ⟨m + 1, by omega, by omega, by go_num, hbx.drew⟩
                    case measure => simp [intOf]; omega
                  · have t3 := test_id ui
                    clear Y1 Y2 Y3
                    go_wp2
                    go_region
                    all_goals go_wp2
                    go_roundw
                    case rel => exact ⟨j + 1, by omega, by go_num, (hwr.trans (hbx.mono hwr.size)).drew⟩
                    case measure => simp [intOf]; omega
              · have hr := HR.out rfl
                have hr2 := (rank_range up).2
                rw [act_rank _ _ _ hr, hdB_sum uk _ hk0 hk1 (by omega) (by omega)] at g0
                have t2 : (bits .and .u8 (uk + (rank up + 1) * 16) 15 != uk) = false := by rw [u8_and15 _ (by omega) (by omega)]; simp; omega
                go_wp2_with fail
                go_region
                all_goals go_wp2_with fail
                go_region
                all_goals go_wp2_with (go_at_call 9; refine (rank_any _ _).mono ?_; rintro e w' ⟨rfl, rfl⟩)
                have hu1 : (wr.alloc (.cells #[.int .i64 uk, .int .i64 ui, .bool true, .int .i64 up] 29)).cell? ⟨wr.heap.size, 1, none⟩ = some (.int .i64 ui) := by simp
                have G1 := g1 (.cells #[.int .i64 uk, .int .i64 ui, .bool true, .int .i64 up] 29)
                have G2 := g2 (.cells #[.int .i64 uk, .int .i64 ui, .bool true, .int .i64 up] 29)
                have G3 := g3 (.cells #[.int .i64 uk, .int .i64 ui, .bool true, .int .i64 up] 29)
                have Y1 := y1 (.cells #[.int .i64 uk, .int .i64 ui, .bool true, .int .i64 up] 29)
                have Y2 := y2 (.cells #[.int .i64 uk, .int .i64 ui, .bool true, .int .i64 up] 29)
                have Y3 := y3 (.cells #[.int .i64 uk, .int .i64 ui, .bool true, .int .i64 up] 29)
                have hwr : Below w7.heap.size w7 (wr.alloc (.cells #[.int .i64 uk, .int .i64 ui, .bool true, .int .i64 up] 29)) := hnx.alloc hnx.size _
                clear g0 g1 g2 g3 y0 y1 y2 y3 t2 e0 e1 e2 e3 hnx
                generalize wr.alloc (.cells #[.int .i64 uk, .int .i64 ui, .bool true, .int .i64 up] 29) = W1 at *
                generalize wr.heap.size = ub at *
                go_loopw [13] (fun q wx => ∃ m : Nat, 1 ≤ m ∧ m ≤ 4 ∧ q = .int .i64 m ∧ Below W1.heap.size W1 wx) (fun q _ => 4 - (intOf q).toNat)
                case atStart => exact ⟨1, by omega, by omega, rfl, (Below.refl _ _).drew.drew⟩
                case round =>
                  obtain ⟨m, hm1, hm4, rfl, hbx⟩ := hrel
                  replace hu1 := cell_later hbx hu1
                  replace G1 := cell_later hbx G1
                  replace G2 := cell_later hbx G2
                  replace G3 := cell_later hbx G3
                  replace Y1 := cell_later hbx Y1
                  replace Y2 := cell_later hbx Y2
                  replace Y3 := cell_later hbx Y3
                  by_cases hm : m < 4
                  · obtain ⟨v, d1, d2⟩ : ∃ v, wr.cell? ⟨r1, 4 * j + m, none⟩ = some (.int .u8 v) ∧ wr.cell? ⟨r2, 4 * j + m, none⟩ = some (.int .u8 v) := by
                      rcases (show m = 1 ∨ m = 2 ∨ m = 3 by omega) with rfl | rfl | rfl
                      · exact ⟨_, G1, Y1⟩
                      · exact ⟨_, G2, Y2⟩
                      · exact ⟨_, G3, Y3⟩
                    clear G1 G2 G3 Y1 Y2 Y3 hu1
                    go_wp2
                    go_region
                    all_goals go_wp2
                    go_roundw
                    case rel => exact ⟨m + 1, by omega, by omega, by go_num, hbx.drew⟩
                    case measure => simp [intOf]; omega
                  · have t3 := test_id ui
                    clear Y1 Y2 Y3
                    go_wp2
                    go_region
                    all_goals go_wp2
                    go_roundw
                    case rel => exact ⟨j + 1, by omega, by go_num, (hwr.trans (hbx.mono hwr.size)).drew⟩
                    case measure => simp [intOf]; omega
            · go_wp2
              go_ret
              exact ⟨rfl, hw7.trans (hnx.mono hw7.size)⟩
end Go.Proofs.Qxb6628235a
