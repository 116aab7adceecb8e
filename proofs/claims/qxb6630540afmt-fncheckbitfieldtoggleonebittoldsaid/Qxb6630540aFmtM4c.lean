import Derived.Test.Qxb6630540aFmtM4
namespace Go.Proofs.Qxb6630540aFmt
open Go.RowKit Go.Extern.Stop Go.Stop Go.Extern

set_option maxRecDepth 100000 in
set_option maxHeartbeats 1000000 in
theorem tog_bad1 (F : Interp) (a : Addr) (len cap : Nat) (f : Nat → Int) (n p : Int) (w : World) (hF : F.answers w.tape) (h : len ≤ 1048576) (h0 : 0 ≤ n) (h1 : n < 9223372036854775808)
    (hcell : ∀ j, j < len → w.cell? (a.add j) = some (.int .u8 (f j))) (hf : ∀ j, 0 ≤ f j ∧ f j < 256)
    (hp0 : 0 ≤ p) (hp1 : p < 8 * (len : Int)) (hs0 : 8 * (len : Int) < n) :
    Calls Tryf.prog 4 #[.slice (some a) len cap, .int .i64 n, .int .i64 p] w fun e w' => e = .returned (.bool true) ∧ Below w.heap.size w w' := by
  have h' : (len : Int) ≤ 1048576 := by omega
  obtain ⟨i5, hi5⟩ : ∃ i5, Tryf.prog.info? 5 = some i5 := ⟨_, rfl⟩
  have hz5 : (Tryf.prog.info? 5).map (·.size) = some 1 := by kernel_rfl
  have hz0 : i5.zero = some (.int .u8 0) := by
    have e : (Tryf.prog.info? 5).bind (·.zero) = some (.int .u8 0) := by kernel_rfl
    rw [hi5] at e; exact e
  have hz1 : i5.size = 1 := by rw [hi5] at hz5; exact Option.some.inj hz5
  have hz2 : i5.bytes = 1 := by
    have e : (Tryf.prog.info? 5).map (·.bytes) = some 1 := by kernel_rfl
    rw [hi5] at e; exact Option.some.inj e
  have HF : Hid (F.answers w.tape) := hF
  have HC : Hid (∀ j, j < len → w.cell? (a.add j) = some (.int .u8 (f j))) := hcell
  have Hf : Hid (∀ j, 0 ≤ f j ∧ f j < 256) := hf
  obtain ⟨cs, Hcs⟩ : ∃ cs, Hid (cs = bcells f len) := ⟨_, rfl⟩
  have Hn : Hid (cs.length = len) := by rw [Hcs.out]; exact bcells_length f len
  have Hone : Hid (∀ v ∈ cs, v.oneCell' = true) := by
    rw [Hcs.out]; intro v hv
    obtain ⟨j, _, rfl⟩ := List.mem_map.1 hv
    rfl
  have Hsrc : Hid (∀ j v, cs[j]? = some v → w.cell? (a.add j) = some v) := by
    intro j v hj
    rw [Hcs.out] at hj
    obtain ⟨hj1, rfl⟩ := bcells_get' _ _ _ _ hj
    exact hcell j hj1
  clear hcell hf hF
  go_enter Tryf.func4, Tryf.ntmps4
  go_wp2_with (first
    | (go_at_call 7; refine (zz4_small _ _ _ _ _ _ h).mono ?_; rintro e w' ⟨rfl, rfl⟩)
    | (at_make; refine wpList_make_full _ rfl (.tmp 31) (.tmp 31) 22 rfl w.heap.size 5 i5 _ 1 Tryf.underlying22 hi5 hz0 hz1 .i64 .i64 _ _ len rfl rfl rfl rfl (by rw [hz2]; omega) (by simp [maxLen]; omega) (Nat.le_refl _) ?_; intro w1 hown1 hgr1
       have hb1 : Below w.heap.size w w1 := (Below.refl _ _).grown hgr1 (Nat.le_refl _) (by simp)
       have Ho1 := hide hown1
       clear hown1 hgr1))
  obtain ⟨w2, hrun, hb2, ho2⟩ := copy_own (cap := cap) (cs := cs) Ho1.out hb1 (Nat.le_refl _) Hn.out (fun j v hj => cell_later hb1 (Hsrc.out j v hj)) Hone.out (by simp [maxLen]; omega)
  rw [hrun]
  have Ho2 := hide ho2
  clear Ho1 hb1 hrun ho2 Hsrc Hone HC
  clear w1
  go_wp2_with (first
    | (at_make; refine wpList_make_full _ rfl (.tmp 48) (.tmp 48) 22 rfl w.heap.size 5 i5 _ 1 Tryf.underlying22 hi5 hz0 hz1 .i64 .i64 _ _ len rfl rfl rfl rfl (by rw [hz2]; omega) (by simp [maxLen]; omega) hb2.size ?_; intro w3 hown3 hgr3))
  have hb3 : Below w2.heap.size w2 w3 := (Below.refl _ _).grown hgr3 (Nat.le_refl _) (by simp)
  have ho3 := Ho2.out.kept hgr3 (Or.inr (by simp [Value.ownBlock]))
  have Hb3 : Hid (∀ j, j < len → w3.cell? ⟨w.heap.size, j, none⟩ = some (.int .u8 (f j))) := by
    intro j hj
    rw [ho3.cellAt j (by omega), Hcs.out]
    exact bcells_get f len j hj
  have hgg : w.heap.size < w2.heap.size := (Ho2.out.lt _ rfl).2
  have hbw : Below w.heap.size w w3 := hb2.trans (hb3.mono hb2.size)
  have Ho4 := hide hown3
  have hg3 : w2.heap.size < w3.heap.size := (hown3.lt _ rfl).2
  have Hw : Hid (w.heap.size ≤ w2.heap.size) := hb2.size
  clear ho3 Ho2 hgr3 hown3 hb2 hb3 Hcs Hn
  generalize w2.heap.size = g1 at *
  clear w2
  go_loopw [10] (fun i wr => ∃ k : Nat, k ≤ len ∧ i = .int .i64 k ∧ Below g1 w3 wr ∧ ∃ R, wr.ownsRow w.heap.size 5 1 (.slice (some ⟨g1, 0, none⟩) len len) len R ∧ Hid (∀ j, j < k → R[j]? = some (.int .u8 (f j)))) (fun i _ => len - (intOf i).toNat)
  case atStart => exact ⟨0, Nat.zero_le _, rfl, Below.refl _ _, _, Ho4.out, fun j hj => absurd hj (Nat.not_lt_zero _)⟩
  case round =>
    obtain ⟨k, hk, rfl, hnx, R, hown, HR⟩ := hrel
    by_cases hlt : k < len
    · have e0 := Hb3.out k hlt
      rw [← hnx.cell (by exact hgg)] at e0
      obtain ⟨v1, q1⟩ : ∃ v, wr.cell? ⟨g1, k, none⟩ = some v := by
        rw [hown.cellAt k (by omega)]
        have := hown.1
        exact ⟨_, List.getElem?_eq_getElem (by omega)⟩
      have f1 := hown.frozenAt k
      have HS := hide (hown.stored k (.int .u8 (f k)))
      have HR2 : Hid (∀ j, j < k + 1 → (R.set k (.int .u8 (f k)))[j]? = some (.int .u8 (f j))) := by
        intro j hj
        have hl := hown.1
        by_cases hjk : j = k
        · subst hjk
          rw [List.getElem?_set_self (by omega)]
        · rw [List.getElem?_set_ne (by omega)]
          exact HR.out j (by omega)
      clear hown HR
      obtain ⟨c, Hc⟩ : ∃ c, Hid (f k = c) := ⟨_, rfl⟩
      rw [Hc.out] at e0 HS HR2
      go_wp2
      go_roundw
      case rel => exact ⟨k + 1, by omega, by go_num, hnx.setCell (Nat.le_refl _) _, _, HS.out.1, HR2.out⟩
      case measure => simp [intOf]; omega
    · have hkn : len = k := by omega
      subst hkn
      clear hlt hk
      obtain ⟨m, Hm⟩ : ∃ m : Nat, Hid ((m : Int) = p / 8) := ⟨(p / 8).toNat, show _ = _ by omega⟩
      obtain ⟨r, Hr⟩ : ∃ r : Nat, Hid ((r : Int) = p % 8) := ⟨(p % 8).toNat, show _ = _ by omega⟩
      have hml : m < len := by have := Hm.out; omega
      have hmlI : (m : Int) < (len : Int) := by omega
      have hr8 : r < 8 := by have := Hr.out; omega
      have hp8 : p.tmod 8 = (r : Int) := by rw [Int.tmod_eq_emod_of_nonneg hp0, Hr.out]
      have hpd : p.tdiv 8 = (m : Int) := by rw [Int.tdiv_eq_ediv_of_nonneg hp0, Hm.out]
      have e1 : wr.cell? ⟨g1, m, none⟩ = some (.int .u8 (f m)) := by
        rw [hown.cellAt m (by omega)]
        exact HR.out m hml
      have f1 := hown.frozenAt m
      obtain ⟨Y, hY⟩ : ∃ Y, bits .xor .u8 (f m) (128 / 2 ^ r) = Y := ⟨_, rfl⟩
      have HS := hide (hown.stored m (.int .u8 Y)).1
      have hbs : Below w.heap.size w (wr.setCell ⟨g1, m, none⟩ (.int .u8 Y)) := hbw.trans ((hnx.setCell (Nat.le_refl _) _).mono Hw.out)
      have Hk : Hid (∀ j, j < len → (wr.setCell ⟨g1, m, none⟩ (.int .u8 Y)).cell? ⟨w.heap.size, j, none⟩ = some (.int .u8 (f j))) := fun j hj => by
        rw [(hnx.setCell (Nat.le_refl _) _).cell (by exact hgg)]
        exact Hb3.out j hj
      have hne : ¬ (len : Int) = bfb n := fun hx => by
        have := (bfb_iff len n h0 h1 h).1 hx.symm
        omega
      have Hne := hide hne
      clear hown HR Hb3 Ho4 hbw hnx hg3 hne HS Hk
      go_wp2_with fail
      generalize wr.setCell ⟨g1, m, none⟩ (.int .u8 Y) = W at *
      refine (check_size F _ len len n _ (by rw [hbs.tape]; exact HF.out) Hne.out).mono ?_
      rintro e w4 ⟨⟨k1, rfl⟩, hb4⟩
      go_wp2_with fail
      refine (check_size F _ len len n _ (by rw [hb4.tape, hbs.tape]; exact HF.out) Hne.out).mono ?_
      rintro e w5 ⟨⟨k2, rfl⟩, hb5⟩
      have hend : Below w.heap.size w w5 := (hbs.trans (hb4.mono hbs.size)).trans (hb5.mono (Nat.le_trans hbs.size hb4.size))
      by_cases hpn : p < n
      · go_wp2
        go_ret
        exact ⟨rfl, hend⟩
      · exfalso; omega

set_option maxRecDepth 100000 in
set_option maxHeartbeats 1000000 in
theorem tog_bad2 (F : Interp) (a : Addr) (len cap : Nat) (f : Nat → Int) (n p : Int) (w : World) (hF : F.answers w.tape) (h : len ≤ 1048576) (h0 : 0 ≤ n) (h1 : n < 9223372036854775808)
    (hcell : ∀ j, j < len → w.cell? (a.add j) = some (.int .u8 (f j))) (hf : ∀ j, 0 ≤ f j ∧ f j < 256)
    (hp0 : 0 ≤ p) (hp1 : p < 8 * (len : Int)) (hs0 : n ≤ 8 * (len : Int)) (hs1 : 8 ≤ 8 * (len : Int) - n) :
    Calls Tryf.prog 4 #[.slice (some a) len cap, .int .i64 n, .int .i64 p] w fun e w' => e = .returned (.bool true) ∧ Below w.heap.size w w' := by
  have h' : (len : Int) ≤ 1048576 := by omega
  obtain ⟨i5, hi5⟩ : ∃ i5, Tryf.prog.info? 5 = some i5 := ⟨_, rfl⟩
  have hz5 : (Tryf.prog.info? 5).map (·.size) = some 1 := by kernel_rfl
  have hz0 : i5.zero = some (.int .u8 0) := by
    have e : (Tryf.prog.info? 5).bind (·.zero) = some (.int .u8 0) := by kernel_rfl
    rw [hi5] at e; exact e
  have hz1 : i5.size = 1 := by rw [hi5] at hz5; exact Option.some.inj hz5
  have hz2 : i5.bytes = 1 := by
    have e : (Tryf.prog.info? 5).map (·.bytes) = some 1 := by kernel_rfl
    rw [hi5] at e; exact Option.some.inj e
  have HF : Hid (F.answers w.tape) := hF
  have HC : Hid (∀ j, j < len → w.cell? (a.add j) = some (.int .u8 (f j))) := hcell
  have Hf : Hid (∀ j, 0 ≤ f j ∧ f j < 256) := hf
  obtain ⟨cs, Hcs⟩ : ∃ cs, Hid (cs = bcells f len) := ⟨_, rfl⟩
  have Hn : Hid (cs.length = len) := by rw [Hcs.out]; exact bcells_length f len
  have Hone : Hid (∀ v ∈ cs, v.oneCell' = true) := by
    rw [Hcs.out]; intro v hv
    obtain ⟨j, _, rfl⟩ := List.mem_map.1 hv
    rfl
  have Hsrc : Hid (∀ j v, cs[j]? = some v → w.cell? (a.add j) = some v) := by
    intro j v hj
    rw [Hcs.out] at hj
    obtain ⟨hj1, rfl⟩ := bcells_get' _ _ _ _ hj
    exact hcell j hj1
  clear hcell hf hF
  go_enter Tryf.func4, Tryf.ntmps4
  go_wp2_with (first
    | (go_at_call 7; refine (zz4_small _ _ _ _ _ _ h).mono ?_; rintro e w' ⟨rfl, rfl⟩)
    | (at_make; refine wpList_make_full _ rfl (.tmp 31) (.tmp 31) 22 rfl w.heap.size 5 i5 _ 1 Tryf.underlying22 hi5 hz0 hz1 .i64 .i64 _ _ len rfl rfl rfl rfl (by rw [hz2]; omega) (by simp [maxLen]; omega) (Nat.le_refl _) ?_; intro w1 hown1 hgr1
       have hb1 : Below w.heap.size w w1 := (Below.refl _ _).grown hgr1 (Nat.le_refl _) (by simp)
       have Ho1 := hide hown1
       clear hown1 hgr1))
  obtain ⟨w2, hrun, hb2, ho2⟩ := copy_own (cap := cap) (cs := cs) Ho1.out hb1 (Nat.le_refl _) Hn.out (fun j v hj => cell_later hb1 (Hsrc.out j v hj)) Hone.out (by simp [maxLen]; omega)
  rw [hrun]
  have Ho2 := hide ho2
  clear Ho1 hb1 hrun ho2 Hsrc Hone HC
  clear w1
  go_wp2_with (first
    | (at_make; refine wpList_make_full _ rfl (.tmp 48) (.tmp 48) 22 rfl w.heap.size 5 i5 _ 1 Tryf.underlying22 hi5 hz0 hz1 .i64 .i64 _ _ len rfl rfl rfl rfl (by rw [hz2]; omega) (by simp [maxLen]; omega) hb2.size ?_; intro w3 hown3 hgr3))
  have hb3 : Below w2.heap.size w2 w3 := (Below.refl _ _).grown hgr3 (Nat.le_refl _) (by simp)
  have ho3 := Ho2.out.kept hgr3 (Or.inr (by simp [Value.ownBlock]))
  have Hb3 : Hid (∀ j, j < len → w3.cell? ⟨w.heap.size, j, none⟩ = some (.int .u8 (f j))) := by
    intro j hj
    rw [ho3.cellAt j (by omega), Hcs.out]
    exact bcells_get f len j hj
  have hgg : w.heap.size < w2.heap.size := (Ho2.out.lt _ rfl).2
  have hbw : Below w.heap.size w w3 := hb2.trans (hb3.mono hb2.size)
  have Ho4 := hide hown3
  have hg3 : w2.heap.size < w3.heap.size := (hown3.lt _ rfl).2
  have Hw : Hid (w.heap.size ≤ w2.heap.size) := hb2.size
  clear ho3 Ho2 hgr3 hown3 hb2 hb3 Hcs Hn
  generalize w2.heap.size = g1 at *
  clear w2
  go_loopw [10] (fun i wr => ∃ k : Nat, k ≤ len ∧ i = .int .i64 k ∧ Below g1 w3 wr ∧ ∃ R, wr.ownsRow w.heap.size 5 1 (.slice (some ⟨g1, 0, none⟩) len len) len R ∧ Hid (∀ j, j < k → R[j]? = some (.int .u8 (f j)))) (fun i _ => len - (intOf i).toNat)
  case atStart => exact ⟨0, Nat.zero_le _, rfl, Below.refl _ _, _, Ho4.out, fun j hj => absurd hj (Nat.not_lt_zero _)⟩
  case round =>
    obtain ⟨k, hk, rfl, hnx, R, hown, HR⟩ := hrel
    by_cases hlt : k < len
    · have e0 := Hb3.out k hlt
      rw [← hnx.cell (by exact hgg)] at e0
      obtain ⟨v1, q1⟩ : ∃ v, wr.cell? ⟨g1, k, none⟩ = some v := by
        rw [hown.cellAt k (by omega)]
        have := hown.1
        exact ⟨_, List.getElem?_eq_getElem (by omega)⟩
      have f1 := hown.frozenAt k
      have HS := hide (hown.stored k (.int .u8 (f k)))
      have HR2 : Hid (∀ j, j < k + 1 → (R.set k (.int .u8 (f k)))[j]? = some (.int .u8 (f j))) := by
        intro j hj
        have hl := hown.1
        by_cases hjk : j = k
        · subst hjk
          rw [List.getElem?_set_self (by omega)]
        · rw [List.getElem?_set_ne (by omega)]
          exact HR.out j (by omega)
      clear hown HR
      obtain ⟨c, Hc⟩ : ∃ c, Hid (f k = c) := ⟨_, rfl⟩
      rw [Hc.out] at e0 HS HR2
      go_wp2
      go_roundw
      case rel => exact ⟨k + 1, by omega, by go_num, hnx.setCell (Nat.le_refl _) _, _, HS.out.1, HR2.out⟩
      case measure => simp [intOf]; omega
    · have hkn : len = k := by omega
      subst hkn
      clear hlt hk
      obtain ⟨m, Hm⟩ : ∃ m : Nat, Hid ((m : Int) = p / 8) := ⟨(p / 8).toNat, show _ = _ by omega⟩
      obtain ⟨r, Hr⟩ : ∃ r : Nat, Hid ((r : Int) = p % 8) := ⟨(p % 8).toNat, show _ = _ by omega⟩
      have hml : m < len := by have := Hm.out; omega
      have hmlI : (m : Int) < (len : Int) := by omega
      have hr8 : r < 8 := by have := Hr.out; omega
      have hp8 : p.tmod 8 = (r : Int) := by rw [Int.tmod_eq_emod_of_nonneg hp0, Hr.out]
      have hpd : p.tdiv 8 = (m : Int) := by rw [Int.tdiv_eq_ediv_of_nonneg hp0, Hm.out]
      have e1 : wr.cell? ⟨g1, m, none⟩ = some (.int .u8 (f m)) := by
        rw [hown.cellAt m (by omega)]
        exact HR.out m hml
      have f1 := hown.frozenAt m
      obtain ⟨Y, hY⟩ : ∃ Y, bits .xor .u8 (f m) (128 / 2 ^ r) = Y := ⟨_, rfl⟩
      have HS := hide (hown.stored m (.int .u8 Y)).1
      have hbs : Below w.heap.size w (wr.setCell ⟨g1, m, none⟩ (.int .u8 Y)) := hbw.trans ((hnx.setCell (Nat.le_refl _) _).mono Hw.out)
      have Hk : Hid (∀ j, j < len → (wr.setCell ⟨g1, m, none⟩ (.int .u8 Y)).cell? ⟨w.heap.size, j, none⟩ = some (.int .u8 (f j))) := fun j hj => by
        rw [(hnx.setCell (Nat.le_refl _) _).cell (by exact hgg)]
        exact Hb3.out j hj
      have hne : ¬ (len : Int) = bfb n := fun hx => by
        have := (bfb_iff len n h0 h1 h).1 hx.symm
        omega
      have Hne := hide hne
      clear hown HR Hb3 Ho4 hbw hnx hg3 hne HS Hk
      go_wp2_with fail
      generalize wr.setCell ⟨g1, m, none⟩ (.int .u8 Y) = W at *
      refine (check_size F _ len len n _ (by rw [hbs.tape]; exact HF.out) Hne.out).mono ?_
      rintro e w4 ⟨⟨k1, rfl⟩, hb4⟩
      go_wp2_with fail
      refine (check_size F _ len len n _ (by rw [hb4.tape, hbs.tape]; exact HF.out) Hne.out).mono ?_
      rintro e w5 ⟨⟨k2, rfl⟩, hb5⟩
      have hend : Below w.heap.size w w5 := (hbs.trans (hb4.mono hbs.size)).trans (hb5.mono (Nat.le_trans hbs.size hb4.size))
      by_cases hpn : p < n
      · go_wp2
        go_ret
        exact ⟨rfl, hend⟩
      · go_wp2
        go_ret
        exact ⟨rfl, hend⟩

end Go.Proofs.Qxb6630540aFmt
