import Derived.Test.Qxb6628271aRes
import Derived.Test.Qxb6628271aRead
namespace Go.Proofs.Qxb6628271a
open Go.RowKit Go.Maps

theorem Try.info9 : (Try.prog.info? 9).map (fun i => (i.zero, i.size, i.bytes)) = some (some (.string ByteArray.empty), 1, 16) := by kernel_rfl

/-- a row of strings -/
structure Strs (w : World) (b : Nat) (n : Nat) (f : Nat → ByteArray) : Prop where
  lt : b < w.heap.size
  cell : ∀ j, j < n → w.cell? ⟨b, j, none⟩ = some (.string (f j))

theorem Strs.below {w w' : World} {b n : Nat} {f : Nat → ByteArray} (h : Strs w b n f) (hb : Below w.heap.size w w') : Strs w' b n f :=
  ⟨Nat.lt_of_lt_of_le h.lt hb.size, fun j hj => (hb.cell (by exact h.lt)).trans (h.cell j hj)⟩

theorem strs_step {w : World} {base e g n k : Nat} {f : Nat → ByteArray} {R : List Value} (hk : k < n) (hR : R.length = n - k)
    (hown : w.ownsRow base e 1 (.slice (some ⟨g, 0, none⟩) n n) n ((List.range k).map (fun j => .string (f j)) ++ R)) :
    ∃ R' : List Value, R'.length = n - (k + 1) ∧ (w.setCell ⟨g, k, none⟩ (.string (f k))).ownsRow base e 1 (.slice (some ⟨g, 0, none⟩) n n) n ((List.range (k + 1)).map (fun j => .string (f j)) ++ R') := by
  match R, hR with
  | [], hR => simp at hR; omega
  | z :: R', hR =>
    refine ⟨R', by simp at hR; omega, ?_⟩
    have h1 := (hown.stored k (.string (f k))).1
    have e1 : ((List.range k).map (fun j => (.string (f j) : Value)) ++ z :: R').set k (.string (f k)) = (List.range (k + 1)).map (fun j => .string (f j)) ++ R' := by
      rw [List.set_append_right _ _ (by simp), List.range_succ]
      simp
    rw [e1] at h1
    exact h1

theorem strs_of {w : World} {base e g n : Nat} {f : Nat → ByteArray} (h : w.ownsRow base e 1 (.slice (some ⟨g, 0, none⟩) n n) n ((List.range n).map (fun j => .string (f j)))) : Strs w g n f := by
  refine ⟨(h.lt g rfl).2, fun j hj => ?_⟩
  rw [h.cellAt j (by omega)]
  simp [hj]

theorem str_eq {a b : ByteArray} (h : a = b) : (a.toList == b.toList) = true := by subst h; simp
theorem str_ne {a b : ByteArray} (h : ¬ a = b) : (a.toList == b.toList) = false := by
  rw [beq_eq_false_iff_ne]
  intro e
  rw [ByteArray.toList_eq, ByteArray.toList_eq] at e
  have := Array.toList_inj.1 e
  exact h (by cases a; cases b; simp_all)

/-- the two rows of strings while they are filled -/
structure Two (w wr : World) (rb ab n k : Nat) (xs : List E) : Prop where
  below : Below w.heap.size w wr
  r : ∃ R : List Value, R.length = n - k ∧ wr.ownsRow w.heap.size 9 1 (.slice (some ⟨rb, 0, none⟩) n n) n ((List.range k).map (fun j => .string (xs.getD j U0).res) ++ R)
  a : ∃ R : List Value, R.length = n - k ∧ wr.ownsRow w.heap.size 9 1 (.slice (some ⟨ab, 0, none⟩) n n) n ((List.range k).map (fun j => .string (xs.getD j U0).act) ++ R)
  ne : rb < ab

theorem two_start {w wr : World} {rb ab n base : Nat} {xs : List E} {l1 l2 : List Value} (hb : Below w.heap.size w wr) (h1 : wr.ownsRow w.heap.size 9 1 (.slice (some ⟨rb, 0, none⟩) n n) n l1) (h2 : wr.ownsRow base 9 1 (.slice (some ⟨ab, 0, none⟩) n n) n l2) (hne : rb < ab) :
    Two w wr rb ab n 0 xs := by
  have hbase : w.heap.size ≤ ab := Nat.le_trans (h1.lt rb rfl).1 (Nat.le_of_lt hne)
  refine ⟨hb, ⟨l1, by have := h1.1; omega, by simpa using h1⟩, ⟨l2, by have := h2.1; omega, ?_⟩, hne⟩
  refine ⟨by simpa using h2.1, ?_⟩
  rcases h2.2 with ⟨e, _⟩ | ⟨g, cap, cur, e, _, hg, rest⟩
  · simp at e
  · simp at e
    obtain ⟨rfl, rfl⟩ := e
    exact .inr ⟨ab, n, cur, rfl, hbase, hg, by simpa using rest⟩

theorem Two.cells {w wr : World} {rb ab n k : Nat} {xs : List E} (h : Two w wr rb ab n k xs) (hk : k < n) :
    ((∃ v, wr.cell? ⟨rb, k, none⟩ = some v) ∧ wr.frozen? ⟨rb, k, none⟩ = false) ∧ ((∃ v, wr.cell? ⟨ab, k, none⟩ = some v) ∧ wr.frozen? ⟨ab, k, none⟩ = false) := by
  obtain ⟨R1, _, h1⟩ := h.r
  obtain ⟨R2, _, h2⟩ := h.a
  exact ⟨⟨owned_some h1 k (by omega), h1.frozenAt k⟩, ⟨owned_some h2 k (by omega), h2.frozenAt k⟩⟩

theorem Two.step {w wr : World} {rb ab n k : Nat} {xs : List E} (h : Two w wr rb ab n k xs) (hk : k < n) :
    Two w ((wr.setCell ⟨rb, k, none⟩ (.string (xs.getD k U0).res)).setCell ⟨ab, k, none⟩ (.string (xs.getD k U0).act)) rb ab n (k + 1) xs := by
  obtain ⟨R1, l1, h1⟩ := h.r
  obtain ⟨R2, l2, h2⟩ := h.a
  have hne := h.ne
  obtain ⟨R1', l1', h1'⟩ := strs_step (f := fun j => (xs.getD j U0).res) hk l1 h1
  have h2m := ownsRow_setCell_other h2 (a := ⟨rb, k, none⟩) (by simp [Value.ownBlock]; omega) (.string (xs.getD k U0).res)
  obtain ⟨R2', l2', h2'⟩ := strs_step (f := fun j => (xs.getD j U0).act) hk l2 h2m
  refine ⟨(h.below.setCell (h1.lt rb rfl).1 _).setCell (h2.lt ab rfl).1 _, ⟨R1', l1', ?_⟩, ⟨R2', l2', h2'⟩, hne⟩
  exact ownsRow_setCell_other h1' (a := ⟨ab, k, none⟩) (by simp [Value.ownBlock]; omega) _

theorem Two.done {w wr : World} {rb ab n : Nat} {xs : List E} (h : Two w wr rb ab n n xs) : Strs wr rb n (fun j => (xs.getD j U0).res) ∧ Strs wr ab n (fun j => (xs.getD j U0).act) := by
  obtain ⟨R1, l1, h1⟩ := h.r
  obtain ⟨R2, l2, h2⟩ := h.a
  have e1 : R1 = [] := List.eq_nil_of_length_eq_zero (by omega)
  have e2 : R2 = [] := List.eq_nil_of_length_eq_zero (by omega)
  subst e1 e2
  rw [List.append_nil] at h1 h2
  exact ⟨strs_of h1, strs_of h2⟩

set_option maxRecDepth 100000 in
set_option maxHeartbeats 2000000 in
theorem m3_some (b off c0 n : Nat) (w : World) (xs : List E) (hn : n = xs.length) (hm : n ≤ 4096) (hpos : 0 < n) (hlb : b < w.heap.size) (hl : Lies w b off xs) (hsh : Short xs) :
    Calls Try.prog 3 #[.slice (some ⟨b, off, none⟩) n c0] w fun e w' => e = .returned (.bool true) ∧ Below w.heap.size w w' := by
  have HN : Hid (n = xs.length) := hn
  clear hn
  obtain ⟨i9, hi9, hz0, hz1, hz2⟩ := info_parts Try.info9
  go_enter Try.func3, Try.ntmps3
  go_wp2_with fail
  refine (zz5_some b off c0 n _ xs HN.out hl (by omega)).mono ?_
  rintro e w1 ⟨r, rfl, -, hb1⟩
  cases r with
  | false =>
    go_wp2
    go_ret
    exact ⟨rfl, hb1⟩
  | true =>
    go_wp2_with fail
    refine (within_some b off c0 n _ xs HN.out hm (hl.below hb1 hlb)).mono ?_
    rintro e w2 ⟨r, rfl, -, hb2⟩
    cases r with
    | false =>
      go_wp2
      go_ret
      exact ⟨rfl, hb1.trans (hb2.mono hb1.size)⟩
    | true =>
      have hl2 : Lies w2 b off xs := (hl.below hb1 hlb).below hb2 (Nat.lt_of_lt_of_le hlb hb1.size)
      have hb02 := hb1.trans (hb2.mono hb1.size)
      go_wp2_with fail
      refine (allDotted_some b off c0 n _ xs HN.out hm hsh hl2).mono ?_
      rintro e w3 ⟨r, rfl, hd, hb3⟩
      have hb03 := hb02.trans (hb3.mono hb02.size)
      cases r with
      | false =>
        go_wp2
        go_ret
        exact ⟨rfl, hb03⟩
      | true =>
        have hdt : Dotted xs := hd rfl
        have hl3 : Lies w3 b off xs := hl.below hb03 hlb
        have hlb3 := Nat.lt_of_lt_of_le hlb hb03.size
        clear hd hb1 hb2 hb3 hl2 hb02
        go_wp2_with fail
        refine (build_some b off c0 n _ xs HN.out hm hlb3 hl3).mono ?_
        rintro e w4 ⟨vp, rfl, hp, hb4⟩
        go_wp2_with fail
        refine (resources_any vp _ xs (by rw [← HN.out]; exact hm) hsh hdt hp).mono ?_
        rintro e w5 ⟨vr, rfl, hinv⟩
        obtain ⟨gv, cp, B, C, hvr, hrd⟩ := read_of_inv hinv (by intro h; rw [h] at HN; have := HN.out; simp at this; omega)
        rw [hvr]
        have hb5 : Below w.heap.size w w5 := (hb03.trans (hb4.mono hb03.size)).trans (hinv.below.mono (Nat.le_trans hb03.size hb4.size))
        have hl5 : Lies w5 b off xs := hl.below hb5 hlb
        have hlb5 := Nat.lt_of_lt_of_le hlb hb5.size
        clear hinv hvr hp hb4 hb03 hl3 hlb3
        obtain ⟨m, hmf⟩ : ∃ m, m = (firsts xs).length := ⟨_, rfl⟩
        rw [← hmf]
        have hmn : m ≤ 4096 := by have := firsts_le xs; rw [← HN.out, ← hmf] at this; omega
        have HF : Hid (m = (firsts xs).length) := hmf
        clear hmf
        go_wp2_with (first
          | (at_make; refine wpList_make_full _ rfl (.tmp 34) (.tmp 34) 28 rfl w5.heap.size 9 i9 _ 1 Try.underlying28 hi9 hz0 hz1 .i64 .i64 _ _ n rfl rfl rfl rfl (by rw [hz2]; omega) (by simp [maxLen]; omega) (Nat.le_refl _) ?_; intro w6 hown6 hgr6)
          | (at_make; refine wpList_make_full _ rfl (.tmp 36) (.tmp 36) 28 rfl w6.heap.size 9 i9 _ 1 Try.underlying28 hi9 hz0 hz1 .i64 .i64 _ _ n rfl rfl rfl rfl (by rw [hz2]; omega) (by simp [maxLen]; omega) (Nat.le_refl _) ?_; intro w7 hown7 hgr7))
        have hs6 := (hown6.lt _ rfl).2
        have hb67 : Below w5.heap.size w5 w7 := ((Below.refl _ _).grown hgr6 (Nat.le_refl _) (by simp)).grown hgr7 hgr6.size (by simp)
        have hS : Two w5 w7 w5.heap.size w6.heap.size n 0 xs := two_start hb67 (hown6.kept hgr7 (.inr (by simp [Value.ownBlock]))) hown7 hs6
        clear hown6 hown7 hgr6 hgr7 hb67
        generalize w6.heap.size = ab at *
        go_loopw [7] (fun i wr => ∃ k : Nat, k ≤ n ∧ i = .int .i64 k ∧ Two w5 wr w5.heap.size ab n k xs) (fun i _ => n - (intOf i).toNat)
        case atStart => exact ⟨0, Nat.zero_le _, rfl, hS⟩
        case round =>
          clear hS
          obtain ⟨k, hk, rfl, hT⟩ := hrel
          by_cases hlt : k < n
          · have hnx := hT.below
            have e0 := (hnx.cell (p := ⟨b, off + k * 2, none⟩) hlb5).trans (hl5.c0 k (by rw [← HN.out]; exact hlt))
            have hs0 := (hsh k (by rw [← HN.out]; exact hlt)).1
            have hd0 := hdt k (by rw [← HN.out]; exact hlt)
            obtain ⟨x1, x2⟩ := hT.cells hlt
            obtain ⟨v1, y1⟩ := x1.1
            obtain ⟨v2, y2⟩ := x2.1
            have f1 := x1.2
            have f2 := x2.2
            have hne := hT.ne
            have HST : Hid (Two w5 ((wr.setCell ⟨w5.heap.size, k, none⟩ (.string (xs.getD k U0).res)).setCell ⟨ab, k, none⟩ (.string (xs.getD k U0).act)) w5.heap.size ab n (k + 1) xs) := hT.step hlt
            clear x1 x2 hT hnx
            generalize xs.getD k U0 = p at *
            obtain ⟨d, hd⟩ := Int.eq_ofNat_of_zero_le hd0
            have hdlt : d < p.name.size := by have := (dot_range p.name).2; rw [hd] at this; exact Int.ofNat_lt.1 this
            have hsz0 : p.name.size ≤ 9223372036854775807 := hs0
            have er : p.res = p.name.extract 0 d := by unfold E.res; rw [hd]; rfl
            have ea : p.act = p.name.extract (d + 1) p.name.size := by unfold E.act; rw [hd]; rfl
            rw [er, ea] at HST
            have HD : Hid (dot p.name = (d : Int)) := hd
            clear hd er ea hd0
            go_wp2_with (go_at_call 10; refine (lastDot_any _ _ hs0).mono ?_; rintro e w' ⟨rfl, rfl⟩; rw [HD.out])
            go_roundw
            case rel => exact ⟨k + 1, by omega, by go_num, HST⟩
            case measure => simp [intOf]; omega
          · have hkn : k = n := by omega
            subst hkn
            obtain ⟨hR, hA⟩ := hT.done
            have hnx := hT.below
            have hW : Below w.heap.size w wr := hb5.trans (hnx.mono hb5.size)
            have hrd' : Reads wr gv B C xs := hrd.below hnx
            have hl6 : Lies wr b off xs := hl5.below hnx hlb5
            have hlb6 := Nat.lt_of_lt_of_le hlb5 hnx.size
            clear hT hnx hrd hl5 hlb5 hl
            generalize w5.heap.size = rb at *
            obtain ⟨W, rfl⟩ : ∃ W, W = wr := ⟨_, rfl⟩
            obtain ⟨rs, hrs⟩ : ∃ rs : Nat → ByteArray, rs = fun j => (xs.getD j U0).res := ⟨_, rfl⟩
            rw [← hrs] at hR
            have HRS : Hid (∀ j, rs j = (xs.getD j U0).res) := fun j => by rw [hrs]
            clear hrs
            go_wp2_with fail
            go_loopw [9, 10] (fun kk ii wx => ∃ i : Nat, i ≤ k ∧ ii = .int .i64 i ∧ kk = .int .i64 (fst xs i) ∧ Below W.heap.size W wx) (fun _ ii _ => k - (intOf ii).toNat)
            case atStart => exact ⟨0, Nat.zero_le _, rfl, rfl, Below.refl _ _⟩
            case round =>
              obtain ⟨i, hi, rfl, rfl, hbx⟩ := hrel
              by_cases hik : i < k
              · have hfl := fst_le xs i
                rw [← HF.out] at hfl
                go_wp2_with fail
                go_loopw [11, 12] (fun fb jj wx => ∃ j : Nat, j ≤ i ∧ jj = .int .i64 j ∧ fb = .bool true ∧ Hid (∀ q, q < j → rs q ≠ rs i) ∧ Below W.heap.size W wx) (fun _ jj _ => i - (intOf jj).toNat)
                case atStart => exact ⟨0, Nat.zero_le _, rfl, rfl, fun q hq => by omega, hbx⟩
                case round =>
                  clear hbx
                  obtain ⟨j, hj, rfl, rfl, HQ, hbx⟩ := hrel
                  by_cases hji : j < i
                  · have c1 := (hbx.cell (p := ⟨rb, j, none⟩) hR.lt).trans (hR.cell j (by omega))
                    have c2 := (hbx.cell (p := ⟨rb, i, none⟩) hR.lt).trans (hR.cell i hik)
                    by_cases he : rs j = rs i
                    · have ht := str_eq he
                      have HE : Hid (fst xs (i + 1) = fst xs i) := fst_old (by rw [← HN.out]; exact hik) hji (by rw [← HRS.out, ← HRS.out]; exact he)
                      clear he
                      go_wp2
                      go_region
                      all_goals go_wp2
                      go_roundw
                      case rel => exact ⟨i + 1, by omega, by go_num, by rw [HE.out], hbx.drew⟩
                      case measure => simp [intOf]; omega
                    · have ht := str_ne he
                      have HE : Hid (∀ q, q < j + 1 → rs q ≠ rs i) := fun q hq => by
                        by_cases hqj : q = j
                        · subst hqj; exact he
                        · exact HQ.out q (by omega)
                      clear he
                      go_wp2
                      go_region
                      all_goals go_wp2
                      go_roundw
                      case rel => exact ⟨j + 1, by omega, by go_num, rfl, HE, hbx.drew⟩
                      case measure => simp [intOf]; omega
                  · have hnew : ∀ q, q < i → (xs.getD q U0).res ≠ (xs.getD i U0).res := fun q hq => by
                      rw [← HRS.out, ← HRS.out]; exact HQ.out q (by omega)
                    have hnm := nm_new (by rw [← HN.out]; exact hik) hnew
                    have hfn := fst_new (by rw [← HN.out]; exact hik) hnew
                    have hcz := cnt_zero (xs := xs) (r := rs i) (i := i) (by rw [← HN.out]; omega) (fun q hq => by rw [← HRS.out]; exact HQ.out q (by omega))
                    rw [← HRS.out] at hnm
                    have g0 := (hbx.cell (p := ⟨gv, fst xs i * 2, none⟩) hrd'.lt).trans (hrd'.name _ hnm.1)
                    have g1 := (hbx.cell (p := ⟨gv, fst xs i * 2 + 1, none⟩) hrd'.lt).trans (hrd'.list _ hnm.1)
                    have hP0 := fun j => hrd'.p0 (fst xs i) j hnm.1
                    have hP1 := fun j => hrd'.p1 (fst xs i) j hnm.1
                    have hP2 := fun j => hrd'.p2 (fst xs i) j hnm.1
                    have hPl := hrd'.ilt (fst xs i) hnm.1
                    rw [hnm.2] at g0 g1 hP0 hP1 hP2
                    have hKm : fst xs i < m := by rw [HF.out]; exact hnm.1
                    have c2 := (hbx.cell (p := ⟨rb, i, none⟩) hR.lt).trans (hR.cell i hik)
                    have HC : Hid (cnt xs (rs i) i = 0 ∧ fst xs (i + 1) = fst xs i + 1) := ⟨hcz, hfn⟩
                    have HPP : Hid ((∀ j, j < (under xs (rs i)).length → W.cell? ⟨B (fst xs i), j * 3, none⟩ = some (.string ((under xs (rs i)).getD j U0).name)) ∧ (∀ j, j < (under xs (rs i)).length → W.cell? ⟨B (fst xs i), j * 3 + 1, none⟩ = some (.string ((under xs (rs i)).getD j U0).act)) ∧ (∀ j, j < (under xs (rs i)).length → W.cell? ⟨B (fst xs i), j * 3 + 2, none⟩ = some (.string ((under xs (rs i)).getD j U0).desc))) := ⟨hP0, hP1, hP2⟩
                    obtain ⟨L, hL⟩ : ∃ L, L = (under xs (rs i)).length := ⟨_, rfl⟩
                    rw [← hL] at g1
                    have hLn : L ≤ 4096 := by have := cnt_le xs (rs i) xs.length; rw [cnt_all, ← hL, ← HN.out] at this; omega
                    have HL : Hid (L = (under xs (rs i)).length) := hL
                    have c2' : ∀ o : Obj, (wr.alloc o).cell? ⟨rb, i, none⟩ = some (.string (rs i)) := fun o => (World.cell?_alloc_lt _ _ _ (World.block_lt_of_cell? _ _ c2)).trans c2
                    clear hnew hnm hfn hcz hP0 hP1 hP2 HQ hL c2
                    generalize C (fst xs i) = cK at *
                    generalize B (fst xs i) = bK at *
                    generalize hKK : fst xs i = K at *
                    have HK : Hid (fst xs i = K) := hKK
                    clear hKK
                    go_wp2_with fail
                    go_region
                    all_goals go_wp2_with fail
                    have hu1 : (wr.alloc (.cells #[.string (rs i), .slice (some ⟨bK, 0, none⟩) L cK] 34)).cell? ⟨wr.heap.size, 1, none⟩ = some (.slice (some ⟨bK, 0, none⟩) L cK) := by simp
                    have hbW1 : Below W.heap.size W (wr.alloc (.cells #[.string (rs i), .slice (some ⟨bK, 0, none⟩) L cK] 34)) := hbx.alloc hbx.size _
                    clear g0 g1 c2' hbx
                    generalize wr.alloc (.cells #[.string (rs i), .slice (some ⟨bK, 0, none⟩) L cK] 34) = W1 at *
                    generalize wr.heap.size = ub at *
                    go_loopw [14, 15] (fun mm jj wy => ∃ j : Nat, i ≤ j ∧ j ≤ k ∧ jj = .int .i64 j ∧ mm = .int .i64 (cnt xs (rs i) j) ∧ Below W1.heap.size W1 wy) (fun _ jj _ => k - (intOf jj).toNat)
                    case atStart => exact ⟨i, Nat.le_refl _, by omega, rfl, by rw [HC.out.1]; rfl, (Below.refl _ _).drew⟩
                    case round =>
                      clear hji hj
                      obtain ⟨j, hij, hj, rfl, rfl, hby⟩ := hrel
                      have hWy : Below W.heap.size W wr := hbW1.trans (hby.mono hbW1.size)
                      have u1 := cell_later hby hu1
                      have hcl := cnt_le xs (rs i) j
                      rw [← HN.out] at hcl
                      by_cases hjk : j < k
                      · have c1 := (hWy.cell (p := ⟨rb, j, none⟩) hR.lt).trans (hR.cell j hjk)
                        have c2 := (hWy.cell (p := ⟨rb, i, none⟩) hR.lt).trans (hR.cell i hik)
                        by_cases he : rs j = rs i
                        · have hat := cnt_at (xs := xs) (r := rs i) (j := j) (by rw [← HN.out]; exact hjk) (by rw [← HRS.out]; exact he)
                          have hx := cnt_hit (xs := xs) (r := rs i) (j := j) (by rw [← HN.out]; exact hjk) (by rw [← HRS.out]; exact he)
                          have p0 := (hWy.cell (p := ⟨bK, cnt xs (rs i) j * 3, none⟩) hPl).trans (HPP.out.1 _ hat.1)
                          have p1 := (hWy.cell (p := ⟨bK, cnt xs (rs i) j * 3 + 1, none⟩) hPl).trans (HPP.out.2.1 _ hat.1)
                          have p2 := (hWy.cell (p := ⟨bK, cnt xs (rs i) j * 3 + 2, none⟩) hPl).trans (HPP.out.2.2 _ hat.1)
                          rw [hat.2] at p0 p1 p2
                          have d0 := (hWy.cell (p := ⟨b, off + j * 2, none⟩) hlb6).trans (hl6.c0 j (by rw [← HN.out]; exact hjk))
                          have d1 := (hWy.cell (p := ⟨b, off + j * 2 + 1, none⟩) hlb6).trans (hl6.c1 j (by rw [← HN.out]; exact hjk))
                          have a1 := (hWy.cell (p := ⟨ab, j, none⟩) hA.lt).trans (hA.cell j hjk)
                          have hqL : cnt xs (rs i) j < L := by rw [HL.out]; exact hat.1
                          have ht := str_eq he
                          have HXX : Hid (cnt xs (rs i) (j + 1) = cnt xs (rs i) j + 1) := hx
                          clear he hat hx
                          generalize xs.getD j U0 = pj at *
                          have d0' : ∀ o : Obj, (wr.alloc o).cell? ⟨b, off + j * 2, none⟩ = some (.string pj.name) := fun o => (World.cell?_alloc_lt _ _ _ (World.block_lt_of_cell? _ _ d0)).trans d0
                          have d1' : ∀ o : Obj, (wr.alloc o).cell? ⟨b, off + j * 2 + 1, none⟩ = some (.string pj.desc) := fun o => (World.cell?_alloc_lt _ _ _ (World.block_lt_of_cell? _ _ d1)).trans d1
                          have a1' : ∀ o : Obj, (wr.alloc o).cell? ⟨ab, j, none⟩ = some (.string pj.act) := fun o => (World.cell?_alloc_lt _ _ _ (World.block_lt_of_cell? _ _ a1)).trans a1
                          generalize hqq : cnt xs (rs i) j = q at *
                          have HQQ : Hid (cnt xs (rs i) j = q) := hqq
                          clear hqq d0 d1 a1
                          go_wp2
                          go_region
                          all_goals go_wp2
                          go_region
                          all_goals go_wp2
                          go_roundw
                          case rel => exact ⟨j + 1, by omega, by omega, by go_num, by rw [HXX.out]; go_num, (hby.alloc hby.size _).drew.drew⟩
                          case measure => simp [intOf]; omega
                        · have ht := str_ne he
                          have HXX : Hid (cnt xs (rs i) (j + 1) = cnt xs (rs i) j) := cnt_miss (by rw [← HN.out]; exact hjk) (by rw [← HRS.out]; exact he)
                          clear he
                          go_wp2
                          go_region
                          all_goals go_wp2
                          go_roundw
                          case rel => exact ⟨j + 1, by omega, by omega, by go_num, by rw [HXX.out], hby.drew⟩
                          case measure => simp [intOf]; omega
                      · have HLL : Hid (cnt xs (rs i) j = L) := by
                          have : j = xs.length := by rw [← HN.out]; omega
                          show cnt xs (rs i) j = L
                          rw [this, cnt_all, HL.out]
                        rw [HLL.out]
                        go_wp2
                        go_roundw
                        case rel => exact ⟨i + 1, by omega, by go_num, by rw [HC.out.2]; go_num, hWy⟩
                        case measure => simp [intOf]; omega
              · have HE : Hid (fst xs i = m) := by
                  have : i = xs.length := by rw [← HN.out]; omega
                  show fst xs i = m
                  rw [this, fst_all, HF.out]
                rw [HE.out]
                go_wp2
                go_ret
                exact ⟨rfl, hW.trans (hbx.mono hW.size)⟩
end Go.Proofs.Qxb6628271a
