import Derived.Test.Qxb6630540aFmtPlain
namespace Go.Proofs.Qxb6630540aFmt
open Go.RowKit Go.Extern.Stop Go.Stop Go.Extern

theorem hide {p : Prop} (h : p) : Hid p := h

theorem zz3_small (p : Option Addr) (len cap : Nat) (n : Int) (w : World) (h : len ≤ 1048576) :
    Calls Tryf.prog 5 #[.slice p len cap, .int .i64 n] w fun e w' => e = .returned (.bool true) ∧ w = w' := by
  have h' : (len : Int) ≤ 1048576 := by omega
  go_enter Tryf.func5, Tryf.ntmps5
  go_wp2
  go_ret
  exact ⟨rfl, rfl⟩

theorem zz3_big (p : Option Addr) (len cap : Nat) (n : Int) (w : World) (h : ¬ len ≤ 1048576) :
    Calls Tryf.prog 5 #[.slice p len cap, .int .i64 n] w fun e w' => e = .returned (.bool false) ∧ w = w' := by
  have h' : 1048576 < (len : Int) := by omega
  go_enter Tryf.func5, Tryf.ntmps5
  go_wp2
  go_ret
  exact ⟨rfl, rfl⟩

theorem spec_big (p : Option Addr) (len cap : Nat) (n : Int) (w : World) (h : ¬ len ≤ 1048576) :
    Calls Tryf.prog 3 #[.slice p len cap, .int .i64 n] w fun e w' => e = .returned (.bool true) ∧ w = w' := by
  go_enter Tryf.func3, Tryf.ntmps3
  go_wp2_with (go_at_call 5; refine (zz3_big _ _ _ _ _ h).mono ?_; rintro e w' ⟨rfl, rfl⟩)
  go_ret
  exact ⟨rfl, rfl⟩

theorem spec_neg (p : Option Addr) (len cap : Nat) (n : Int) (w : World) (h : len ≤ 1048576) (hn : n < 0) :
    Calls Tryf.prog 3 #[.slice p len cap, .int .i64 n] w fun e w' => e = .returned (.bool true) ∧ w = w' := by
  have h' : (len : Int) ≤ 1048576 := by omega
  go_enter Tryf.func3, Tryf.ntmps3
  go_wp2_with (go_at_call 5; refine (zz3_small _ _ _ _ _ h).mono ?_; rintro e w' ⟨rfl, rfl⟩)
  go_ret
  exact ⟨rfl, rfl⟩

/-- The bytes as cells. -/
def bcells (f : Nat → Int) (len : Nat) : List Value := (List.range len).map fun j => .int .u8 (f j)
theorem bcells_length (f : Nat → Int) (len : Nat) : (bcells f len).length = len := by simp [bcells]
theorem bcells_get (f : Nat → Int) (len j : Nat) (h : j < len) : (bcells f len)[j]? = some (.int .u8 (f j)) := by simp [bcells, h]
theorem bcells_get' (f : Nat → Int) (len j : Nat) (v : Value) (h : (bcells f len)[j]? = some v) : j < len ∧ v = .int .u8 (f j) := by
  have hj : j < len := by
    have := (List.getElem?_eq_some_iff.1 h).1
    rwa [bcells_length] at this
  rw [bcells_get f len j hj] at h
  exact ⟨hj, (Option.some.inj h).symm⟩

theorem addr_add0 (g k : Nat) : (⟨g, 0, none⟩ : Addr).add k = ⟨g, k, none⟩ := by
  simp only [Addr.add]; split <;> simp_all

theorem copy_own {w0 w : World} {B g len cap : Nat} {a : Addr} {xs cs : List Value} (hown : w.ownsRow B 5 1 (.slice (some ⟨g, 0, none⟩) len len) len xs) (hb : Below B w0 w) (hBg : B ≤ g) (hn : cs.length = len)
    (hsrc : ∀ j v, cs[j]? = some v → w.cell? (a.add j) = some v) (hone : ∀ v ∈ cs, v.oneCell' = true) (hm : len ≤ maxLen) :
    ∃ w2, (Builtin.copy_ #[22, 22] 3 #[.slice (some ⟨g, 0, none⟩) len len, .slice (some a) len cap]).run Tryf.prog w = .ok (goInt (len : Int)) w2 ∧ Below B w0 w2 ∧ w2.ownsRow B 5 1 (.slice (some ⟨g, 0, none⟩) len len) len cs := by
  have hg := own_row hown
  have hl := hown.1
  have hz5 : (Tryf.prog.info? 5).map (·.size) = some 1 := by kernel_rfl
  have hrun := run_copy_row (P := Tryf.prog) w 22 22 3 5 g 0 len len a len cap xs.toArray 5 cs Tryf.underlying22 hz5 hg (by rw [hn]; exact (Nat.min_self _).symm) hsrc (by rw [hn, List.size_toArray, hl]; omega) hone
  have e : (xs.toArray.toList.take 0 ++ cs ++ xs.toArray.toList.drop (0 + cs.length)) = cs := by
    have e : xs.toArray.toList.drop (0 + cs.length) = [] := List.drop_eq_nil_of_le (by simp; omega)
    rw [e]; simp
  rw [e, hn] at hrun
  exact ⟨_, hrun, below_setRow hb hBg _, row_own hBg hn hm (setRow_heap w g _ _ 5 _ hg)⟩

theorem acc_spec (len S0 : Nat) (n L C : Int) (b : Bool) (h0 : 0 ≤ n) (h1 : n < 9223372036854775808) (h : len ≤ 1048576) (hS : (S0 : Int) = 8 * (len : Int) - n) (hS8 : S0 < 8) (hL0 : 0 ≤ L) (hL1 : L < 256) (hfin : (C, b) = fin S0 L false) :
    acc len n L = !b ∧ acc len n C = true := by
  have hb : bfb n = (len : Int) := (bfb_iff len n h0 h1 h).2 ⟨by omega, by omega⟩
  have ht : n.tmod 8 = n % 8 := Int.tmod_eq_emod_of_nonneg h0
  cases S0 with
  | zero =>
    have h8 : n.tmod 8 = 0 := by omega
    simp only [fin, Prod.mk.injEq] at hfin
    obtain ⟨rfl, rfl⟩ := hfin
    simp [acc, hb, h8]
  | succ T =>
    have h8 : n.tmod 8 = ((8 - (T + 1) : Nat) : Int) := by omega
    have hne : ¬ n.tmod 8 = 0 := by omega
    have e : (n.tmod 8).toNat = 8 - (T + 1) := by rw [h8]; simp
    have c := fin_clear (T + 1) hS8 L hL0 hL1
    have d := fin_set (T + 1) hS8 L hL0 hL1
    rw [← hfin] at c d
    simp only [acc, hb, hne, e, decide_true, decide_false, Bool.true_and, Bool.false_or]
    refine ⟨?_, by simpa using c⟩
    rw [show b = _ from d, Bool.not_not]

set_option maxRecDepth 100000 in
set_option maxHeartbeats 1000000 in
theorem spec_good (F : Interp) (a : Addr) (len cap : Nat) (f : Nat → Int) (n : Int) (w : World) (hF : F.answers w.tape) (h : len ≤ 1048576) (h0 : 0 ≤ n) (h1 : n < 9223372036854775808)
    (hcell : ∀ j, j < len → w.cell? (a.add j) = some (.int .u8 (f j))) (hf : ∀ j, 0 ≤ f j ∧ f j < 256)
    (hs0 : n ≤ 8 * (len : Int)) (hs1 : 8 * (len : Int) - n < 8) :
    Calls Tryf.prog 3 #[.slice (some a) len cap, .int .i64 n] w fun e w' => e = .returned (.bool true) ∧ Below w.heap.size w w' := by
  have h' : (len : Int) ≤ 1048576 := by omega
  obtain ⟨i5, hi5⟩ : ∃ i5, Tryf.prog.info? 5 = some i5 := ⟨_, rfl⟩
  have hz5 : (Tryf.prog.info? 5).map (·.size) = some 1 := by kernel_rfl
  have hz0 : i5.zero = some (.int .u8 0) := by
    have e : (Tryf.prog.info? 5).bind (·.zero) = some (.int .u8 0) := by kernel_rfl
    rw [hi5] at e; exact e
  have hz1 : i5.size = 1 := by rw [hi5] at hz5; exact Option.some.inj hz5
  have hz2 : i5.bytes = 1 := by
    have e : (Tryf.prog.info? 5).map (·.bytes) = some 1 := by kernel_rfl
    rw [hi5] at e; exact Option.some.inj e
  have HF : Hid (F.answers w.tape) := hF
  have HC : Hid (∀ j, j < len → w.cell? (a.add j) = some (.int .u8 (f j))) := hcell
  have Hf : Hid (∀ j, 0 ≤ f j ∧ f j < 256) := hf
  obtain ⟨cs, Hcs⟩ : ∃ cs, Hid (cs = bcells f len) := ⟨_, rfl⟩
  have Hn : Hid (cs.length = len) := by rw [Hcs.out]; exact bcells_length f len
  have Hone : Hid (∀ v ∈ cs, v.oneCell' = true) := by
    rw [Hcs.out]; intro v hv
    obtain ⟨j, _, rfl⟩ := List.mem_map.1 hv
    rfl
  have Hsrc : Hid (∀ j v, cs[j]? = some v → w.cell? (a.add j) = some v) := by
    intro j v hj
    rw [Hcs.out] at hj
    obtain ⟨hj1, rfl⟩ := bcells_get' _ _ _ _ hj
    exact hcell j hj1
  clear hcell hf hF
  go_enter Tryf.func3, Tryf.ntmps3
  go_wp2_with (first
    | (go_at_call 5; refine (zz3_small _ _ _ _ _ h).mono ?_; rintro e w' ⟨rfl, rfl⟩)
    | (at_make; refine wpList_make_full _ rfl (.tmp 27) (.tmp 27) 22 rfl w.heap.size 5 i5 _ 1 Tryf.underlying22 hi5 hz0 hz1 .i64 .i64 _ _ len rfl rfl rfl rfl (by rw [hz2]; omega) (by simp [maxLen]; omega) (Nat.le_refl _) ?_; intro w1 hown1 hgr1
       have hb1 : Below w.heap.size w w1 := (Below.refl _ _).grown hgr1 (Nat.le_refl _) (by simp)
       have Ho1 := hide hown1
       clear hown1 hgr1))
  obtain ⟨w2, hrun, hb2, ho2⟩ := copy_own (cap := cap) (cs := cs) Ho1.out hb1 (Nat.le_refl _) Hn.out (fun j v hj => cell_later hb1 (Hsrc.out j v hj)) Hone.out (by simp [maxLen]; omega)
  rw [hrun]
  have Ho2 := hide ho2
  clear Ho1 hb1 hrun ho2 Hsrc Hone HC
  clear w1
  go_wp2_with (first
    | (at_make; refine wpList_make_full _ rfl (.tmp 46) (.tmp 46) 22 rfl w.heap.size 5 i5 _ 1 Tryf.underlying22 hi5 hz0 hz1 .i64 .i64 _ _ len rfl rfl rfl rfl (by rw [hz2]; omega) (by simp [maxLen]; omega) hb2.size ?_; intro w3 hown3 hgr3))
  have hb3 : Below w2.heap.size w2 w3 := (Below.refl _ _).grown hgr3 (Nat.le_refl _) (by simp)
  have ho3 := Ho2.out.kept hgr3 (Or.inr (by simp [Value.ownBlock]))
  have Hb3 : Hid (∀ j, j < len → w3.cell? ⟨w.heap.size, j, none⟩ = some (.int .u8 (f j))) := by
    intro j hj
    rw [ho3.cellAt j (by omega), Hcs.out]
    exact bcells_get f len j hj
  have hgg : w.heap.size < w2.heap.size := (Ho2.out.lt _ rfl).2
  have hbw : Below w.heap.size w w3 := hb2.trans (hb3.mono hb2.size)
  have Ho4 := hide hown3
  have hg3 : w2.heap.size < w3.heap.size := (hown3.lt _ rfl).2
  have Hw : Hid (w.heap.size ≤ w2.heap.size) := hb2.size
  clear ho3 Ho2 hgr3 hown3 hb2 hb3 Hcs Hn
  generalize w2.heap.size = g1 at *
  clear w2
  go_loopw [9] (fun i wr => ∃ k : Nat, k ≤ len ∧ i = .int .i64 k ∧ Below g1 w3 wr ∧ ∃ R, wr.ownsRow w.heap.size 5 1 (.slice (some ⟨g1, 0, none⟩) len len) len R ∧ Hid (∀ j, j < k → R[j]? = some (.int .u8 (f j)))) (fun i _ => len - (intOf i).toNat)
  case atStart => exact ⟨0, Nat.zero_le _, rfl, Below.refl _ _, _, Ho4.out, fun j hj => absurd hj (Nat.not_lt_zero _)⟩
  case round =>
    obtain ⟨k, hk, rfl, hnx, R, hown, HR⟩ := hrel
    by_cases hlt : k < len
    · have e0 := Hb3.out k hlt
      rw [← hnx.cell (by exact hgg)] at e0
      obtain ⟨v1, q1⟩ : ∃ v, wr.cell? ⟨g1, k, none⟩ = some v := by
        rw [hown.cellAt k (by omega)]
        have := hown.1
        exact ⟨_, List.getElem?_eq_getElem (by omega)⟩
      have f1 := hown.frozenAt k
      have HS := hide (hown.stored k (.int .u8 (f k)))
      have HR2 : Hid (∀ j, j < k + 1 → (R.set k (.int .u8 (f k)))[j]? = some (.int .u8 (f j))) := by
        intro j hj
        have hl := hown.1
        by_cases hjk : j = k
        · subst hjk
          rw [List.getElem?_set_self (by omega)]
        · rw [List.getElem?_set_ne (by omega)]
          exact HR.out j (by omega)
      clear hown HR
      obtain ⟨c, Hc⟩ : ∃ c, Hid (f k = c) := ⟨_, rfl⟩
      rw [Hc.out] at e0 HS HR2
      go_wp2
      go_roundw
      case rel => exact ⟨k + 1, by omega, by go_num, hnx.setCell (Nat.le_refl _) _, _, HS.out.1, HR2.out⟩
      case measure => simp [intOf]; omega
    · have hkn : len = k := by omega
      subst hkn
      clear hlt hk
      obtain ⟨m1, Hm1⟩ : ∃ m1, Hid (m1 = len - 1) := ⟨_, rfl⟩
      obtain ⟨S0, HS0⟩ : ∃ S0 : Nat, Hid ((S0 : Int) = 8 * (len : Int) - n) := ⟨(8 * (len : Int) - n).toNat, show _ = _ by omega⟩
      have hS8 : S0 < 8 := by have := HS0.out; omega
      have HLb : Hid (0 < len → wr.cell? ⟨w.heap.size, m1, none⟩ = some (.int .u8 (f m1))) := fun hp => by
        rw [hnx.cell (by exact hgg)]
        exact Hb3.out m1 (by rw [Hm1.out]; omega)
      have HLc : Hid (0 < len → wr.cell? ⟨g1, m1, none⟩ = some (.int .u8 (f m1)) ∧ wr.frozen? ⟨g1, m1, none⟩ = false) := fun hp => by
        refine ⟨?_, hown.frozenAt m1⟩
        rw [hown.cellAt m1 (by rw [Hm1.out]; omega)]
        exact HR.out m1 (by rw [Hm1.out]; omega)
      have hbr : Below w.heap.size w wr := hbw.trans (hnx.mono Hw.out)
      have hgr : g1 < wr.heap.size := Nat.lt_of_lt_of_le hg3 hnx.size
      clear hown HR Hb3 Ho4 hbw hnx hg3
      go_wp2
      go_loopw [10, 11] (fun s i wx => ∃ (S : Nat) (I C : Int) (b : Bool), S ≤ S0 ∧ i = .int .i64 I ∧ Hid (I = 8 * (len : Int) - S) ∧ s = .bool b ∧ Below g1 wr wx ∧ Hid (0 < len → wx.cell? ⟨g1, m1, none⟩ = some (.int .u8 C) ∧ wx.frozen? ⟨g1, m1, none⟩ = false) ∧ Hid (fin S C b = fin S0 (f m1) false)) (fun _ i _ => (8 * (len : Int) - intOf i).toNat)
      case atStart => exact ⟨S0, n, f m1, false, Nat.le_refl _, rfl, show _ = _ by have := HS0.out; omega, rfl, Below.refl _ _, HLc.out, rfl⟩
      case round =>
        obtain ⟨S, I, C, b, hS, rfl, HI, rfl, hnx, HC, HB⟩ := hrel
        cases S with
        | zero =>
          have hI : I = 8 * (len : Int) := by have := HI.out; omega
          subst hI
          have hfin : (C, b) = fin S0 (f m1) false := HB.out
          obtain ⟨ha1, ha2⟩ := acc_spec len S0 n (f m1) C b h0 h1 h HS0.out hS8 (Hf.out m1).1 (Hf.out m1).2 hfin
          have HA1 := hide ha1
          have HA2 := hide ha2
          clear ha1 ha2 hfin HB
          go_wp2_with fail
          refine (check_c F (some ⟨w.heap.size, 0, none⟩) len len n (f m1) _ (by rw [hnx.tape, hbr.tape]; exact HF.out) h0 h1 h (fun hp => ⟨_, rfl, by
            have e := HLb.out hp
            rw [← hnx.cell (by exact hgg), Hm1.out] at e
            rw [addr_add0, Hm1.out]; exact e⟩)).mono ?_
          rintro e w4 ⟨⟨v1, rfl, hv1⟩, hb4⟩
          rw [HA1.out] at hv1
          go_wp2_with fail
          refine (check_c F (some ⟨g1, 0, none⟩) len len n C _ (by rw [hb4.tape, hnx.tape, hbr.tape]; exact HF.out) h0 h1 h (fun hp => ⟨_, rfl, by
            have e := (HC.out hp).1
            rw [← hb4.cell (by exact Nat.lt_of_lt_of_le hgr hnx.size), Hm1.out] at e
            rw [addr_add0]; exact e⟩)).mono ?_
          rintro e w5 ⟨⟨v2, rfl, hv2⟩, hb5⟩
          rw [HA2.out] at hv2
          have hend : Below w.heap.size w w5 := ((hbr.trans (hnx.mono Hw.out)).trans (hb4.mono (Nat.le_trans hbr.size hnx.size))).trans (hb5.mono (Nat.le_trans (Nat.le_trans hbr.size hnx.size) hb4.size))
          rcases hv2 with ⟨_, rfl⟩ | ⟨hx, _⟩
          · rcases hv1 with ⟨hb, rfl⟩ | ⟨hb, k, rfl⟩
            · have hb' : b = false := by simpa using hb
              subst hb'
              go_wp2
              go_ret
              exact ⟨rfl, hend⟩
            · have hb' : b = true := by simpa using hb
              subst hb'
              go_wp2
              go_ret
              exact ⟨rfl, hend⟩
          · cases hx
        | succ T =>
          have hlt : I < 8 * (len : Int) := by have := HI.out; omega
          have hlp : 0 < len := by have := HS0.out; omega
          have hI0 : 0 ≤ I := by have := HI.out; omega
          obtain ⟨q, Hq⟩ : ∃ q, Hid (q = 7 - T) := ⟨_, rfl⟩
          have hq7 : q < 8 := by have := Hq.out; omega
          have h8 : I.tmod 8 = (q : Int) := by
            rw [Int.tmod_eq_emod_of_nonneg hI0]
            have := HI.out; have := Hq.out; omega
          have hd8 : I.tdiv 8 = (m1 : Int) := by
            rw [Int.tdiv_eq_ediv_of_nonneg hI0]
            have := HI.out; have := Hm1.out; omega
          have hm1l : m1 < len := by have := Hm1.out; omega
          have hm1I : (m1 : Int) < (len : Int) := by omega
          obtain ⟨hc0, hf0⟩ := HC.out hlp
          by_cases hz : bits .and .u8 C (128 / 2 ^ q) = 0
          · go_wp2
            refine ⟨⟨T, I + 1, C, b, by omega, rfl, show _ = _ by have := HI.out; omega, rfl, hnx, HC.out, ?_⟩, by simp [intOf]; omega⟩
            have e := HB.out
            rw [fin, ← Hq.out, if_pos hz] at e
            exact e
          · go_wp2
            refine ⟨⟨T, I + 1, bits .andNot .u8 C (128 / 2 ^ q), true, by omega, rfl, show _ = _ by have := HI.out; omega, rfl, hnx.setCell (Nat.le_refl _) _, fun _ => ⟨World.cell?_setCell_same _ _ _ hc0, by rw [World.frozen?_setCell]; exact hf0⟩, ?_⟩, by simp [intOf]; omega⟩
            have e := HB.out
            rw [fin, ← Hq.out, if_neg hz] at e
            exact e

end Go.Proofs.Qxb6630540aFmt
