import Derived.Test.Qxb6630540aFmtM4
namespace Go.Proofs.Qxb6630540aFmt
open Go.RowKit Go.Extern.Stop Go.Stop Go.Extern

set_option maxRecDepth 100000 in
set_option maxHeartbeats 1000000 in
theorem tog_good (F : Interp) (a : Addr) (len cap : Nat) (f : Nat → Int) (n p : Int) (w : World) (hF : F.answers w.tape) (h : len ≤ 1048576) (h0 : 0 ≤ n) (h1 : n < 9223372036854775808)
    (hcell : ∀ j, j < len → w.cell? (a.add j) = some (.int .u8 (f j))) (hf : ∀ j, 0 ≤ f j ∧ f j < 256)
    (hp0 : 0 ≤ p) (hp1 : p < 8 * (len : Int)) (hs0 : n ≤ 8 * (len : Int)) (hs1 : 8 * (len : Int) - n < 8) :
    Calls Tryf.prog 4 #[.slice (some a) len cap, .int .i64 n, .int .i64 p] w fun e w' => e = .returned (.bool true) ∧ Below w.heap.size w w' := by
  have h' : (len : Int) ≤ 1048576 := by omega
  obtain ⟨i5, hi5⟩ : ∃ i5, Tryf.prog.info? 5 = some i5 := ⟨_, rfl⟩
  have hz5 : (Tryf.prog.info? 5).map (·.size) = some 1 := by kernel_rfl
  have hz0 : i5.zero = some (.int .u8 0) := by
    have e : (Tryf.prog.info? 5).bind (·.zero) = some (.int .u8 0) := by kernel_rfl
    rw [hi5] at e; exact e
  have hz1 : i5.size = 1 := by rw [hi5] at hz5; exact Option.some.inj hz5
  have hz2 : i5.bytes = 1 := by
    have e : (Tryf.prog.info? 5).map (·.bytes) = some 1 := by kernel_rfl
    rw [hi5] at e; exact Option.some.inj e
  have HF : Hid (F.answers w.tape) := hF
  have HC : Hid (∀ j, j < len → w.cell? (a.add j) = some (.int .u8 (f j))) := hcell
  have Hf : Hid (∀ j, 0 ≤ f j ∧ f j < 256) := hf
  obtain ⟨cs, Hcs⟩ : ∃ cs, Hid (cs = bcells f len) := ⟨_, rfl⟩
  have Hn : Hid (cs.length = len) := by rw [Hcs.out]; exact bcells_length f len
  have Hone : Hid (∀ v ∈ cs, v.oneCell' = true) := by
    rw [Hcs.out]; intro v hv
    obtain ⟨j, _, rfl⟩ := List.mem_map.1 hv
    rfl
  have Hsrc : Hid (∀ j v, cs[j]? = some v → w.cell? (a.add j) = some v) := by
    intro j v hj
    rw [Hcs.out] at hj
    obtain ⟨hj1, rfl⟩ := bcells_get' _ _ _ _ hj
    exact hcell j hj1
  clear hcell hf hF
  go_enter Tryf.func4, Tryf.ntmps4
  go_wp2_with (first
    | (go_at_call 7; refine (zz4_small _ _ _ _ _ _ h).mono ?_; rintro e w' ⟨rfl, rfl⟩)
    | (at_make; refine wpList_make_full _ rfl (.tmp 31) (.tmp 31) 22 rfl w.heap.size 5 i5 _ 1 Tryf.underlying22 hi5 hz0 hz1 .i64 .i64 _ _ len rfl rfl rfl rfl (by rw [hz2]; omega) (by simp [maxLen]; omega) (Nat.le_refl _) ?_; intro w1 hown1 hgr1
       have hb1 : Below w.heap.size w w1 := (Below.refl _ _).grown hgr1 (Nat.le_refl _) (by simp)
       have Ho1 := hide hown1
       clear hown1 hgr1))
  obtain ⟨w2, hrun, hb2, ho2⟩ := copy_own (cap := cap) (cs := cs) Ho1.out hb1 (Nat.le_refl _) Hn.out (fun j v hj => cell_later hb1 (Hsrc.out j v hj)) Hone.out (by simp [maxLen]; omega)
  rw [hrun]
  have Ho2 := hide ho2
  clear Ho1 hb1 hrun ho2 Hsrc Hone HC
  clear w1
  go_wp2_with (first
    | (at_make; refine wpList_make_full _ rfl (.tmp 48) (.tmp 48) 22 rfl w.heap.size 5 i5 _ 1 Tryf.underlying22 hi5 hz0 hz1 .i64 .i64 _ _ len rfl rfl rfl rfl (by rw [hz2]; omega) (by simp [maxLen]; omega) hb2.size ?_; intro w3 hown3 hgr3))
  have hb3 : Below w2.heap.size w2 w3 := (Below.refl _ _).grown hgr3 (Nat.le_refl _) (by simp)
  have ho3 := Ho2.out.kept hgr3 (Or.inr (by simp [Value.ownBlock]))
  have Hb3 : Hid (∀ j, j < len → w3.cell? ⟨w.heap.size, j, none⟩ = some (.int .u8 (f j))) := by
    intro j hj
    rw [ho3.cellAt j (by omega), Hcs.out]
    exact bcells_get f len j hj
  have hgg : w.heap.size < w2.heap.size := (Ho2.out.lt _ rfl).2
  have hbw : Below w.heap.size w w3 := hb2.trans (hb3.mono hb2.size)
  have Ho4 := hide hown3
  have hg3 : w2.heap.size < w3.heap.size := (hown3.lt _ rfl).2
  have Hw : Hid (w.heap.size ≤ w2.heap.size) := hb2.size
  clear ho3 Ho2 hgr3 hown3 hb2 hb3 Hcs Hn
  generalize w2.heap.size = g1 at *
  clear w2
  go_loopw [10] (fun i wr => ∃ k : Nat, k ≤ len ∧ i = .int .i64 k ∧ Below g1 w3 wr ∧ ∃ R, wr.ownsRow w.heap.size 5 1 (.slice (some ⟨g1, 0, none⟩) len len) len R ∧ Hid (∀ j, j < k → R[j]? = some (.int .u8 (f j)))) (fun i _ => len - (intOf i).toNat)
  case atStart => exact ⟨0, Nat.zero_le _, rfl, Below.refl _ _, _, Ho4.out, fun j hj => absurd hj (Nat.not_lt_zero _)⟩
  case round =>
    obtain ⟨k, hk, rfl, hnx, R, hown, HR⟩ := hrel
    by_cases hlt : k < len
    · have e0 := Hb3.out k hlt
      rw [← hnx.cell (by exact hgg)] at e0
      obtain ⟨v1, q1⟩ : ∃ v, wr.cell? ⟨g1, k, none⟩ = some v := by
        rw [hown.cellAt k (by omega)]
        have := hown.1
        exact ⟨_, List.getElem?_eq_getElem (by omega)⟩
      have f1 := hown.frozenAt k
      have HS := hide (hown.stored k (.int .u8 (f k)))
      have HR2 : Hid (∀ j, j < k + 1 → (R.set k (.int .u8 (f k)))[j]? = some (.int .u8 (f j))) := by
        intro j hj
        have hl := hown.1
        by_cases hjk : j = k
        · subst hjk
          rw [List.getElem?_set_self (by omega)]
        · rw [List.getElem?_set_ne (by omega)]
          exact HR.out j (by omega)
      clear hown HR
      obtain ⟨c, Hc⟩ : ∃ c, Hid (f k = c) := ⟨_, rfl⟩
      rw [Hc.out] at e0 HS HR2
      go_wp2
      go_roundw
      case rel => exact ⟨k + 1, by omega, by go_num, hnx.setCell (Nat.le_refl _) _, _, HS.out.1, HR2.out⟩
      case measure => simp [intOf]; omega
    · have hkn : len = k := by omega
      subst hkn
      clear hlt hk
      obtain ⟨m, Hm⟩ : ∃ m : Nat, Hid ((m : Int) = p / 8) := ⟨(p / 8).toNat, show _ = _ by omega⟩
      obtain ⟨r, Hr⟩ : ∃ r : Nat, Hid ((r : Int) = p % 8) := ⟨(p % 8).toNat, show _ = _ by omega⟩
      have hml : m < len := by have := Hm.out; omega
      have hmlI : (m : Int) < (len : Int) := by omega
      have hr8 : r < 8 := by have := Hr.out; omega
      have hp8 : p.tmod 8 = (r : Int) := by rw [Int.tmod_eq_emod_of_nonneg hp0, Hr.out]
      have hpd : p.tdiv 8 = (m : Int) := by rw [Int.tdiv_eq_ediv_of_nonneg hp0, Hm.out]
      have e1 : wr.cell? ⟨g1, m, none⟩ = some (.int .u8 (f m)) := by
        rw [hown.cellAt m (by omega)]
        exact HR.out m hml
      have f1 := hown.frozenAt m
      obtain ⟨Y, hY⟩ : ∃ Y, bits .xor .u8 (f m) (128 / 2 ^ r) = Y := ⟨_, rfl⟩
      have HS := hide (hown.stored m (.int .u8 Y)).1
      have hbs : Below w.heap.size w (wr.setCell ⟨g1, m, none⟩ (.int .u8 Y)) := hbw.trans ((hnx.setCell (Nat.le_refl _) _).mono Hw.out)
      have Hk : Hid (∀ j, j < len → (wr.setCell ⟨g1, m, none⟩ (.int .u8 Y)).cell? ⟨w.heap.size, j, none⟩ = some (.int .u8 (f j))) := fun j hj => by
        rw [(hnx.setCell (Nat.le_refl _) _).cell (by exact hgg)]
        exact Hb3.out j hj
      obtain ⟨m1, Hm1⟩ : ∃ m1, Hid (m1 = len - 1) := ⟨_, rfl⟩
      obtain ⟨S0, HS0⟩ : ∃ S0 : Nat, Hid ((S0 : Int) = 8 * (len : Int) - n) := ⟨(8 * (len : Int) - n).toNat, show _ = _ by omega⟩
      obtain ⟨q, Hq⟩ : ∃ q : Nat, Hid ((q : Int) = 8 * (len : Int) - 1 - p) := ⟨(8 * (len : Int) - 1 - p).toNat, show _ = _ by omega⟩
      have hS8 : S0 < 8 := by have := HS0.out; omega
      have hlp : 0 < len := by omega
      have hm1l : m1 < len := by have := Hm1.out; omega
      have HLc : Hid ((wr.setCell ⟨g1, m, none⟩ (.int .u8 Y)).cell? ⟨g1, m1, none⟩ = some (.int .u8 (if m = m1 then Y else f m1))) := by
        have hl := hown.1
        show _ = _
        rw [HS.out.cellAt m1 (by omega)]
        by_cases hmm : m = m1
        · subst hmm
          rw [if_pos rfl, List.getElem?_set_self (by omega)]
        · rw [if_neg hmm, List.getElem?_set_ne hmm]
          exact HR.out m1 hm1l
      have HLb := hide (Hk.out m1 hm1l)
      have hgW : g1 < (wr.setCell ⟨g1, m, none⟩ (.int .u8 Y)).heap.size := Nat.lt_of_lt_of_le hg3 (hnx.setCell (Nat.le_refl _) _).size
      clear hown HR Hb3 Ho4 hbw hnx hg3 HS Hk
      go_wp2
      generalize wr.setCell ⟨g1, m, none⟩ (.int .u8 Y) = W at *
      clear e1 f1
      have HY := hide hY
      clear hY
      go_loopw [12, 13] (fun o i wx => ∃ (S : Nat) (I : Int) (b : Bool), S ≤ S0 ∧ i = .int .i64 I ∧ Hid (I = 8 * (len : Int) - S) ∧ o = .bool b ∧ Below W.heap.size W wx ∧ Hid (oth S (f m1) q b = oth S0 (f m1) q true)) (fun _ i _ => (8 * (len : Int) - intOf i).toNat)
      case atStart => exact ⟨S0, n, true, Nat.le_refl _, rfl, show _ = _ by have := HS0.out; omega, rfl, Below.refl _ _, rfl⟩
      case round =>
        obtain ⟨S, I, b, hS, rfl, HI, rfl, hnx, HB⟩ := hrel
        cases S with
        | zero =>
          have hI : I = 8 * (len : Int) := by have := HI.out; omega
          subst hI
          have HA := hide (acc_tog len S0 m m1 r q n p f Y b h0 h1 h hp0 hp1 HS0.out hS8 Hm1.out Hm.out Hr.out Hq.out Hf.out HY.out HB.out)
          clear HB
          go_wp2_with fail
          refine (check_c F (some ⟨w.heap.size, 0, none⟩) len len n (f m1) _ (by rw [hnx.tape, hbs.tape]; exact HF.out) h0 h1 h (fun hp => ⟨_, rfl, by
            have e := HLb.out
            rw [← hnx.cell (by exact Nat.lt_trans hgg hgW), Hm1.out] at e
            rw [addr_add0, Hm1.out]; exact e⟩)).mono ?_
          rintro e w4 ⟨⟨v1, rfl, hv1⟩, hb4⟩
          go_wp2_with fail
          refine (check_c F (some ⟨g1, 0, none⟩) len len n (if m = m1 then Y else f m1) _ (by rw [hb4.tape, hnx.tape, hbs.tape]; exact HF.out) h0 h1 h (fun hp => ⟨_, rfl, by
            have e := HLc.out
            rw [← hnx.cell (by exact hgW), ← hb4.cell (by exact Nat.lt_of_lt_of_le hgW hnx.size)] at e
            rw [addr_add0, ← Hm1.out]; exact e⟩)).mono ?_
          rintro e w5 ⟨⟨v2, rfl, hv2⟩, hb5⟩
          have hend : Below w.heap.size w w5 := ((hbs.trans (hnx.mono hbs.size)).trans (hb4.mono (Nat.le_trans hbs.size hnx.size))).trans (hb5.mono (Nat.le_trans (Nat.le_trans hbs.size hnx.size) hb4.size))
          have ha := HA.out
          clear HA
          generalize acc len n (f m1) = A1 at *
          generalize acc len n (if m = m1 then Y else f m1) = A2 at *
          by_cases hpn : p < n
          · have hx := ha.1 hpn
            clear ha
            subst hx
            rcases hv1 with ⟨rfl, rfl⟩ | ⟨rfl, k1, rfl⟩
            · rcases hv2 with ⟨_, rfl⟩ | ⟨hx, _⟩
              · go_wp2
                go_ret
                exact ⟨rfl, hend⟩
              · cases hx
            · rcases hv2 with ⟨hx, _⟩ | ⟨_, k2, rfl⟩
              · cases hx
              · go_wp2
                go_ret
                exact ⟨rfl, hend⟩
          · obtain ⟨hx, hy⟩ := ha.2 (by omega)
            clear ha
            rcases hv1 with ⟨rfl, rfl⟩ | ⟨rfl, k1, rfl⟩
            · rcases hv2 with ⟨rfl, rfl⟩ | ⟨rfl, k2, rfl⟩
              · cases hx
              · have hb : b = true := by rw [← hy]; rfl
                subst hb
                clear hx hy
                go_wp2
                go_ret
                exact ⟨rfl, hend⟩
            · rcases hv2 with ⟨rfl, rfl⟩ | ⟨rfl, k2, rfl⟩
              · have hb : b = true := by rw [← hy]; rfl
                subst hb
                clear hx hy
                go_wp2
                go_ret
                exact ⟨rfl, hend⟩
              · have hb : b = false := by rw [← hy]; rfl
                subst hb
                clear hx hy
                go_wp2
                go_ret
                exact ⟨rfl, hend⟩
        | succ T =>
          have hlt : I < 8 * (len : Int) := by have := HI.out; omega
          have hI0 : 0 ≤ I := by have := HI.out; omega
          have e := HB.out
          by_cases hTq : T = q
          · have hIp : I = p := by have := HI.out; have := Hq.out; omega
            subst hIp
            rw [oth, if_pos hTq] at e
            have HE := hide e
            clear e
            go_wp2
            refine ⟨⟨T, I + 1, b, by omega, rfl, show _ = _ by have := HI.out; omega, rfl, ?_, HE.out⟩, by simp [intOf]; omega⟩
            exact hnx
          · have hIp : ¬ I = p := by have := HI.out; have := Hq.out; omega
            obtain ⟨qq, Hqq⟩ : ∃ qq, Hid (qq = 7 - T) := ⟨_, rfl⟩
            have hqq8 : qq < 8 := by have := Hqq.out; omega
            have h8 : I.tmod 8 = (qq : Int) := by
              rw [Int.tmod_eq_emod_of_nonneg hI0]
              have := HI.out; have := Hqq.out; omega
            have hd8 : I.tdiv 8 = (m1 : Int) := by
              rw [Int.tdiv_eq_ediv_of_nonneg hI0]
              have := HI.out; have := Hm1.out; omega
            have hm1I : (m1 : Int) < (len : Int) := by omega
            have hc0 : wr.cell? ⟨w.heap.size, m1, none⟩ = some (.int .u8 (f m1)) := (hnx.cell (by exact Nat.lt_trans hgg hgW)).trans HLb.out
            rw [oth, if_neg hTq, ← Hqq.out] at e
            by_cases hz : bits .and .u8 (f m1) (128 / 2 ^ qq) = 0
            · rw [if_pos hz] at e
              have HE := hide e
              clear e
              go_wp2
              refine ⟨⟨T, I + 1, b, by omega, rfl, show _ = _ by have := HI.out; omega, rfl, ?_, HE.out⟩, by simp [intOf]; omega⟩
              exact hnx
            · rw [if_neg hz] at e
              have HE := hide e
              clear e
              have hIp2 : (I != p) = true := by simp [hIp]
              have hz2 : (bits .and .u8 (f m1) (128 / 2 ^ qq) != 0) = true := by simp [hz]
              go_wp2
              refine ⟨⟨T, I + 1, false, by omega, rfl, show _ = _ by have := HI.out; omega, rfl, ?_, HE.out⟩, by simp [intOf]; omega⟩
              exact hnx

end Go.Proofs.Qxb6630540aFmt
