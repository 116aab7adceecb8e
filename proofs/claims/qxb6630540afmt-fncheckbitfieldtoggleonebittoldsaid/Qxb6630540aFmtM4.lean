import Derived.Test.Qxb6630540aFmtM3
namespace Go.Proofs.Qxb6630540aFmt
open Go.RowKit Go.Extern.Stop Go.Stop Go.Extern

theorem zz4_small (q : Option Addr) (len cap : Nat) (n p : Int) (w : World) (h : len ≤ 1048576) :
    Calls Tryf.prog 7 #[.slice q len cap, .int .i64 n, .int .i64 p] w fun e w' => e = .returned (.bool true) ∧ w = w' := by
  have h' : (len : Int) ≤ 1048576 := by omega
  go_enter Tryf.func7, Tryf.ntmps7
  go_wp2
  go_ret
  exact ⟨rfl, rfl⟩

theorem zz4_big (q : Option Addr) (len cap : Nat) (n p : Int) (w : World) (h : ¬ len ≤ 1048576) :
    Calls Tryf.prog 7 #[.slice q len cap, .int .i64 n, .int .i64 p] w fun e w' => e = .returned (.bool false) ∧ w = w' := by
  have h' : 1048576 < (len : Int) := by omega
  go_enter Tryf.func7, Tryf.ntmps7
  go_wp2
  go_ret
  exact ⟨rfl, rfl⟩

theorem tog_big (q : Option Addr) (len cap : Nat) (n p : Int) (w : World) (h : ¬ len ≤ 1048576) :
    Calls Tryf.prog 4 #[.slice q len cap, .int .i64 n, .int .i64 p] w fun e w' => e = .returned (.bool true) ∧ w = w' := by
  go_enter Tryf.func4, Tryf.ntmps4
  go_wp2_with (go_at_call 7; refine (zz4_big _ _ _ _ _ _ h).mono ?_; rintro e w' ⟨rfl, rfl⟩)
  go_ret
  exact ⟨rfl, rfl⟩

theorem tog_neg (q : Option Addr) (len cap : Nat) (n p : Int) (w : World) (h : len ≤ 1048576) (hn : n < 0) :
    Calls Tryf.prog 4 #[.slice q len cap, .int .i64 n, .int .i64 p] w fun e w' => e = .returned (.bool true) ∧ w = w' := by
  have h' : (len : Int) ≤ 1048576 := by omega
  go_enter Tryf.func4, Tryf.ntmps4
  go_wp2_with (go_at_call 7; refine (zz4_small _ _ _ _ _ _ h).mono ?_; rintro e w' ⟨rfl, rfl⟩)
  go_ret
  exact ⟨rfl, rfl⟩

set_option maxHeartbeats 1000000 in
theorem tog_nil (n p : Int) (w : World) (h0 : 0 ≤ n) :
    Calls Tryf.prog 4 #[.slice none 0 0, .int .i64 n, .int .i64 p] w fun e w' => e = .returned (.bool true) ∧ w = w' := by
  by_cases hp : p < 0
  · go_enter Tryf.func4, Tryf.ntmps4
    go_wp2_with (go_at_call 7; refine (zz4_small _ _ _ _ _ _ (by omega)).mono ?_; rintro e w' ⟨rfl, rfl⟩)
    go_ret
    exact ⟨rfl, rfl⟩
  · have hp2 : (0 : Int) ≤ p := by omega
    go_enter Tryf.func4, Tryf.ntmps4
    go_wp2_with (go_at_call 7; refine (zz4_small _ _ _ _ _ _ (by omega)).mono ?_; rintro e w' ⟨rfl, rfl⟩)
    go_ret
    exact ⟨rfl, rfl⟩

theorem acc_tog (len S0 m m1 r q : Nat) (n p : Int) (f : Nat → Int) (Y : Int) (b : Bool) (h0 : 0 ≤ n) (h1 : n < 9223372036854775808) (h : len ≤ 1048576) (hp0 : 0 ≤ p) (hp1 : p < 8 * (len : Int))
    (hS : (S0 : Int) = 8 * (len : Int) - n) (hS8 : S0 < 8) (hm1 : m1 = len - 1) (hm : (m : Int) = p / 8) (hr : (r : Int) = p % 8) (hq : (q : Int) = 8 * (len : Int) - 1 - p) (hf : ∀ j, 0 ≤ f j ∧ f j < 256)
    (hY : bits .xor .u8 (f m) (128 / 2 ^ r) = Y) (hB : b = oth S0 (f m1) q true) :
    (p < n → acc len n (f m1) = acc len n (if m = m1 then Y else f m1)) ∧
    (¬ p < n → (acc len n (f m1) && acc len n (if m = m1 then Y else f m1)) = false ∧ (acc len n (f m1) != acc len n (if m = m1 then Y else f m1)) = b) := by
  have hb : bfb n = (len : Int) := (bfb_iff len n h0 h1 h).2 ⟨by omega, by omega⟩
  have ht : n.tmod 8 = n % 8 := Int.tmod_eq_emod_of_nonneg h0
  obtain ⟨l, hl⟩ := Int.eq_ofNat_of_zero_le (hf m1).1
  have hl2 : l < 256 := by have := (hf m1).2; omega
  constructor
  · intro hpn
    by_cases hmm : m = m1
    · subst hmm
      rw [if_pos rfl]
      have hq8 : q < 8 := by omega
      have hqr : r = 7 - q := by omega
      cases S0 with
      | zero =>
        have h8 : n.tmod 8 = 0 := by omega
        simp [acc, hb, h8]
      | succ T =>
        have hne : ¬ n.tmod 8 = 0 := by omega
        have e : (n.tmod 8).toNat = 8 - (T + 1) := by omega
        have c := flip_fact ⟨T + 1, hS8⟩ ⟨q, hq8⟩ ⟨l, hl2⟩ (by show T + 1 ≤ q; omega)
        simp only at c
        rw [← hY, hqr, show f m = (l : Int) from hl]
        simp only [acc, e]
        rw [c]
    · rw [if_neg hmm]
  · intro hpn
    have hmm : m = m1 := by omega
    subst hmm
    rw [if_pos rfl]
    have hq8 : q < S0 := by omega
    have hqr : r = 7 - q := by omega
    have hne : ¬ n.tmod 8 = 0 := by omega
    have e : (n.tmod 8).toNat = 8 - S0 := by omega
    have c := oth_fact ⟨S0, hS8⟩ ⟨q, by omega⟩ ⟨l, hl2⟩ hq8
    simp only at c
    have a1 : acc len n (f m) = decide (bits .and .u8 (l : Int) (255 / 2 ^ (8 - S0)) = 0) := by
      rw [show f m = (l : Int) from hl]
      simp only [acc, hb, hne, e, decide_true, decide_false, Bool.true_and, Bool.false_or]
    have a2 : acc len n Y = decide (bits .and .u8 (bits .xor .u8 (l : Int) (128 / 2 ^ (7 - q))) (255 / 2 ^ (8 - S0)) = 0) := by
      rw [← hY, hqr, show f m = (l : Int) from hl]
      simp only [acc, hb, hne, e, decide_true, decide_false, Bool.true_and, Bool.false_or]
    rw [a1, a2, hB, show f m = (l : Int) from hl]
    exact c

set_option maxRecDepth 100000 in
set_option maxHeartbeats 1000000 in
theorem tog_out1 (F : Interp) (a : Addr) (len cap : Nat) (f : Nat → Int) (n p : Int) (w : World) (hF : F.answers w.tape) (h : len ≤ 1048576) (h0 : 0 ≤ n) (h1 : n < 9223372036854775808)
    (hcell : ∀ j, j < len → w.cell? (a.add j) = some (.int .u8 (f j))) (hf : ∀ j, 0 ≤ f j ∧ f j < 256)
    (hp : p < 0) :
    Calls Tryf.prog 4 #[.slice (some a) len cap, .int .i64 n, .int .i64 p] w fun e w' => e = .returned (.bool true) ∧ Below w.heap.size w w' := by
  have h' : (len : Int) ≤ 1048576 := by omega
  obtain ⟨i5, hi5⟩ : ∃ i5, Tryf.prog.info? 5 = some i5 := ⟨_, rfl⟩
  have hz5 : (Tryf.prog.info? 5).map (·.size) = some 1 := by kernel_rfl
  have hz0 : i5.zero = some (.int .u8 0) := by
    have e : (Tryf.prog.info? 5).bind (·.zero) = some (.int .u8 0) := by kernel_rfl
    rw [hi5] at e; exact e
  have hz1 : i5.size = 1 := by rw [hi5] at hz5; exact Option.some.inj hz5
  have hz2 : i5.bytes = 1 := by
    have e : (Tryf.prog.info? 5).map (·.bytes) = some 1 := by kernel_rfl
    rw [hi5] at e; exact Option.some.inj e
  have HF : Hid (F.answers w.tape) := hF
  have HC : Hid (∀ j, j < len → w.cell? (a.add j) = some (.int .u8 (f j))) := hcell
  have Hf : Hid (∀ j, 0 ≤ f j ∧ f j < 256) := hf
  obtain ⟨cs, Hcs⟩ : ∃ cs, Hid (cs = bcells f len) := ⟨_, rfl⟩
  have Hn : Hid (cs.length = len) := by rw [Hcs.out]; exact bcells_length f len
  have Hone : Hid (∀ v ∈ cs, v.oneCell' = true) := by
    rw [Hcs.out]; intro v hv
    obtain ⟨j, _, rfl⟩ := List.mem_map.1 hv
    rfl
  have Hsrc : Hid (∀ j v, cs[j]? = some v → w.cell? (a.add j) = some v) := by
    intro j v hj
    rw [Hcs.out] at hj
    obtain ⟨hj1, rfl⟩ := bcells_get' _ _ _ _ hj
    exact hcell j hj1
  clear hcell hf hF
  go_enter Tryf.func4, Tryf.ntmps4
  go_wp2_with (first
    | (go_at_call 7; refine (zz4_small _ _ _ _ _ _ h).mono ?_; rintro e w' ⟨rfl, rfl⟩)
    | (at_make; refine wpList_make_full _ rfl (.tmp 31) (.tmp 31) 22 rfl w.heap.size 5 i5 _ 1 Tryf.underlying22 hi5 hz0 hz1 .i64 .i64 _ _ len rfl rfl rfl rfl (by rw [hz2]; omega) (by simp [maxLen]; omega) (Nat.le_refl _) ?_; intro w1 hown1 hgr1
       have hb1 : Below w.heap.size w w1 := (Below.refl _ _).grown hgr1 (Nat.le_refl _) (by simp)
       have Ho1 := hide hown1
       clear hown1 hgr1))
  obtain ⟨w2, hrun, hb2, ho2⟩ := copy_own (cap := cap) (cs := cs) Ho1.out hb1 (Nat.le_refl _) Hn.out (fun j v hj => cell_later hb1 (Hsrc.out j v hj)) Hone.out (by simp [maxLen]; omega)
  rw [hrun]
  have Ho2 := hide ho2
  clear Ho1 hb1 hrun ho2 Hsrc Hone HC
  clear w1
  clear Ho2 Hcs Hn
  go_wp2
  go_ret
  exact ⟨rfl, hb2⟩

set_option maxRecDepth 100000 in
set_option maxHeartbeats 1000000 in
theorem tog_out2 (F : Interp) (a : Addr) (len cap : Nat) (f : Nat → Int) (n p : Int) (w : World) (hF : F.answers w.tape) (h : len ≤ 1048576) (h0 : 0 ≤ n) (h1 : n < 9223372036854775808)
    (hcell : ∀ j, j < len → w.cell? (a.add j) = some (.int .u8 (f j))) (hf : ∀ j, 0 ≤ f j ∧ f j < 256)
    (hp0 : 0 ≤ p) (hp : 8 * (len : Int) ≤ p) :
    Calls Tryf.prog 4 #[.slice (some a) len cap, .int .i64 n, .int .i64 p] w fun e w' => e = .returned (.bool true) ∧ Below w.heap.size w w' := by
  have h' : (len : Int) ≤ 1048576 := by omega
  obtain ⟨i5, hi5⟩ : ∃ i5, Tryf.prog.info? 5 = some i5 := ⟨_, rfl⟩
  have hz5 : (Tryf.prog.info? 5).map (·.size) = some 1 := by kernel_rfl
  have hz0 : i5.zero = some (.int .u8 0) := by
    have e : (Tryf.prog.info? 5).bind (·.zero) = some (.int .u8 0) := by kernel_rfl
    rw [hi5] at e; exact e
  have hz1 : i5.size = 1 := by rw [hi5] at hz5; exact Option.some.inj hz5
  have hz2 : i5.bytes = 1 := by
    have e : (Tryf.prog.info? 5).map (·.bytes) = some 1 := by kernel_rfl
    rw [hi5] at e; exact Option.some.inj e
  have HF : Hid (F.answers w.tape) := hF
  have HC : Hid (∀ j, j < len → w.cell? (a.add j) = some (.int .u8 (f j))) := hcell
  have Hf : Hid (∀ j, 0 ≤ f j ∧ f j < 256) := hf
  obtain ⟨cs, Hcs⟩ : ∃ cs, Hid (cs = bcells f len) := ⟨_, rfl⟩
  have Hn : Hid (cs.length = len) := by rw [Hcs.out]; exact bcells_length f len
  have Hone : Hid (∀ v ∈ cs, v.oneCell' = true) := by
    rw [Hcs.out]; intro v hv
    obtain ⟨j, _, rfl⟩ := List.mem_map.1 hv
    rfl
  have Hsrc : Hid (∀ j v, cs[j]? = some v → w.cell? (a.add j) = some v) := by
    intro j v hj
    rw [Hcs.out] at hj
    obtain ⟨hj1, rfl⟩ := bcells_get' _ _ _ _ hj
    exact hcell j hj1
  clear hcell hf hF
  go_enter Tryf.func4, Tryf.ntmps4
  go_wp2_with (first
    | (go_at_call 7; refine (zz4_small _ _ _ _ _ _ h).mono ?_; rintro e w' ⟨rfl, rfl⟩)
    | (at_make; refine wpList_make_full _ rfl (.tmp 31) (.tmp 31) 22 rfl w.heap.size 5 i5 _ 1 Tryf.underlying22 hi5 hz0 hz1 .i64 .i64 _ _ len rfl rfl rfl rfl (by rw [hz2]; omega) (by simp [maxLen]; omega) (Nat.le_refl _) ?_; intro w1 hown1 hgr1
       have hb1 : Below w.heap.size w w1 := (Below.refl _ _).grown hgr1 (Nat.le_refl _) (by simp)
       have Ho1 := hide hown1
       clear hown1 hgr1))
  obtain ⟨w2, hrun, hb2, ho2⟩ := copy_own (cap := cap) (cs := cs) Ho1.out hb1 (Nat.le_refl _) Hn.out (fun j v hj => cell_later hb1 (Hsrc.out j v hj)) Hone.out (by simp [maxLen]; omega)
  rw [hrun]
  have Ho2 := hide ho2
  clear Ho1 hb1 hrun ho2 Hsrc Hone HC
  clear w1
  clear Ho2 Hcs Hn
  go_wp2
  go_ret
  exact ⟨rfl, hb2⟩

end Go.Proofs.Qxb6630540aFmt
