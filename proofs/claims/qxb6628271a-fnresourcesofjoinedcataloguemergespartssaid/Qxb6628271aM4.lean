import Derived.Test.Qxb6628271aRes
import Derived.Test.Qxb6628271aExp
import Derived.Test.Qxb6628271aZz
namespace Go.Proofs.Qxb6628271a
open Go.RowKit Go.Maps

theorem groups_le (xs : List E) : (groups xs).length ≤ xs.length := by rw [groups_length]; exact firsts_le xs

theorem groups_pos {xs : List E} (h : 0 < xs.length) : 0 < (groups xs).length := by
  rw [groups_length]
  cases xs with
  | nil => simp at h
  | cons p xs =>
    apply List.length_pos_of_mem (a := p.res)
    rw [mem_firsts]
    exact ⟨p, by simp, rfl⟩

theorem byte_at (s : ByteArray) (k : Nat) (hk : k < s.size) (h : s.data.getD k 0 = 46) : s[k] = 46 := by
  rw [← h]; unfold Array.getD; rw [dif_pos (show k < s.data.size from hk)]; rfl

theorem exp_step {S : List T} {lf rt : List E} {i : Nat} {v : Value} {x : ByteArray} (hx : nm lf i = x) (hi : i < (firsts lf).length) (hg : grp S = ((firsts lf).take i).map fun x => (x, under lf x ++ under rt x)) :
    grp (S ++ [⟨x, under lf x ++ under rt x, v⟩]) = ((firsts lf).take (i + 1)).map fun x => (x, under lf x ++ under rt x) := by
  subst hx
  rw [take_firsts lf i hi, List.map_append, ← hg]
  simp [grp]

theorem exp_step2 {S : List T} {lf rt : List E} {j : Nat} {v : Value} {y : ByteArray} {A : List (ByteArray × List E)} (hy : nm rt j = y) (hj : j < (firsts rt).length) (h : ∀ i, i < (firsts lf).length → nm lf i ≠ y) (hg : grp S = A ++ (lacks lf ((firsts rt).take j)).map fun x => (x, under rt x)) :
    grp (S ++ [⟨y, under rt y, v⟩]) = A ++ (lacks lf ((firsts rt).take (j + 1))).map fun x => (x, under rt x) := by
  subst hy
  rw [lacks_new hj h, List.map_append, ← List.append_assoc, ← hg]
  simp [grp]

theorem under_le (xs : List E) (r : ByteArray) : (under xs r).length ≤ xs.length := List.length_filter_le _ _

theorem exp_push {w w' : World} {base eb cap b c k i : Nat} {S : List T} {r : ByteArray} {ps : List E} {o : Obj} (hk : k = ps.length) (hi : S.length = i) (h : Exp w base eb cap S)
    (hown : w'.ownsRow base 34 2 (.slice (some ⟨eb, 0, none⟩) (i + 1) cap) (i + 1) (outCells S ++ [.string r, .slice (some ⟨b, 0, none⟩) k c])) (hg : (w.alloc o).grownBy w' (some eb)) (hne : b ≠ eb) (hq : QRow w b ps) :
    Exp w' base eb cap (S ++ [⟨r, ps, .slice (some ⟨b, 0, none⟩) ps.length c⟩]) := by
  subst hk hi
  have hb : Below w.heap.size w (w.alloc o) := (Below.refl _ _).alloc (Nat.le_refl _) _
  exact (h.below hb).push hown hg hne (hq.below hb)

theorem slice_from (b off n c0 c : Nat) (hc : c ≤ n) (hnc : n ≤ c0) : ∃ ao : Option Addr, (∀ w, (Instr.slice 22 (.slice (some ⟨b, off, none⟩) n c0) (some (.int .i64 (c : Int))) none none).run Try.prog w = .ok (.slice ao (n - c) (c0 - c)) w) ∧ (c < n → ao = some ⟨b, off + c * 2, none⟩) := by
  by_cases hcc : c0 = c
  · refine ⟨some ⟨b, off, none⟩, fun w => ?_, fun h => by omega⟩
    have h1 : (0 : Int) ≤ (c : Int) := by omega
    have h2 : (c : Int) ≤ (n : Int) := by omega
    have h3 : n = c := by omega
    go_simp
  · refine ⟨some ⟨b, off + c * 2, none⟩, fun w => ?_, fun h => rfl⟩
    have h1 : (0 : Int) ≤ (c : Int) := by omega
    have h2 : (c : Int) ≤ (n : Int) := by omega
    go_simp

theorem drop_lies {w : World} {b off c n : Nat} {ao : Option Addr} {xs : List E} (hn : n = xs.length) (h : Lies w b off xs) (hb : b < w.heap.size) (hao : c < n → ao = some ⟨b, off + c * 2, none⟩) : LiesAny w ao (xs.drop c) := by
  by_cases hc : c < n
  · exact .inr ⟨b, off + c * 2, hao hc, hb, h.drop c⟩
  · exact .inl (List.drop_eq_nil_of_le (by omega))

set_option maxRecDepth 100000 in
set_option maxHeartbeats 4000000 in
theorem m4_some (b off c0 n c : Nat) (w : World) (xs : List E) (hn : n = xs.length) (hm : n ≤ 4096) (hpos : 0 < n) (hnc : n ≤ c0) (hcm : c0 ≤ maxLen) (hc : c ≤ n) (hlb : b < w.heap.size) (hl : Lies w b off xs) (hsh : Short xs) :
    Calls Try.prog 4 #[.slice (some ⟨b, off, none⟩) n c0, .int .i64 c] w fun e w' => e = .returned (.bool true) ∧ Below w.heap.size w w' := by
  have HN : Hid (n = xs.length) := hn
  have hcm' : c0 ≤ 9223372036854775807 := hcm
  clear hn hcm
  obtain ⟨i4, hi4, hz40, hz41, hz42⟩ := info_parts Try.info34
  obtain ⟨i6, hi6, hz60, hz61, hz62⟩ := info_parts Try.info36
  obtain ⟨aoD, hsl, haoD⟩ := slice_from b off n c0 c hc hnc
  have HAO : Hid (c < n → aoD = some ⟨b, off + c * 2, none⟩) := haoD
  clear haoD
  go_enter Try.func4, Try.ntmps4
  go_wp2_with fail
  refine (zz11_some _ b off c0 n _ xs HN.out hl (by omega)).mono ?_
  rintro e w1 ⟨r, rfl, -, hb1⟩
  cases r with
  | false =>
    go_wp2
    go_ret
    exact ⟨rfl, hb1⟩
  | true =>
    go_wp2_with fail
    refine (within_some b off c0 n _ xs HN.out hm (hl.below hb1 hlb)).mono ?_
    rintro e w2 ⟨r, rfl, -, hb2⟩
    have hb02 := hb1.trans (hb2.mono hb1.size)
    cases r with
    | false =>
      go_wp2
      go_ret
      exact ⟨rfl, hb02⟩
    | true =>
      have hl2 : Lies w2 b off xs := hl.below hb02 hlb
      go_wp2_with fail
      refine (allDotted_some b off c0 n _ xs HN.out hm hsh hl2).mono ?_
      rintro e w3 ⟨r, rfl, hd, hb3⟩
      have hb03 := hb02.trans (hb3.mono hb02.size)
      cases r with
      | false =>
        go_wp2
        go_ret
        exact ⟨rfl, hb03⟩
      | true =>
        have hdt : Dotted xs := hd rfl
        have hl3 : Lies w3 b off xs := hl.below hb03 hlb
        have hlb3 := Nat.lt_of_lt_of_le hlb hb03.size
        clear hd hb1 hb2 hb3 hl2 hb02
        go_wp2_with fail
        refine (build_some b off c0 n _ xs HN.out hm hlb3 hl3).mono ?_
        rintro e w4 ⟨vp, rfl, hp, hb4⟩
        go_wp2_with fail
        refine (resources_any vp _ xs (by rw [← HN.out]; exact hm) hsh hdt hp).mono ?_
        rintro e w5 ⟨va, rfl, hinv⟩
        obtain ⟨aoA, cA, gA, BA, CA, hva, hsA, hrA⟩ := rg_of_inv hinv
        rw [hva]
        have hb5 : Below w.heap.size w w5 := (hb03.trans (hb4.mono hb03.size)).trans (hinv.below.mono (Nat.le_trans hb03.size hb4.size))
        have hl5 : Lies w5 b off xs := hl.below hb5 hlb
        have hlb5 := Nat.lt_of_lt_of_le hlb hb5.size
        clear hinv hva hp hb4 hb03 hl3 hlb3
        go_wp2_with fail
        refine (build_some b off c0 c _ (xs.take c) (by rw [List.length_take, ← HN.out]; omega) (by omega) hlb5 (hl5.take c)).mono ?_
        rintro e w6 ⟨vp6, rfl, hp6, hb6⟩
        go_wp2_with fail
        refine (resources_any vp6 _ (xs.take c) (by rw [List.length_take]; omega) (hsh.take c) (hdt.take c) hp6).mono ?_
        rintro e w7 ⟨vl, rfl, hinv7⟩
        obtain ⟨aoL, cL, gL, BL, CL, hvl, hsL, hrL⟩ := rg_of_inv hinv7
        rw [hvl]
        have hb7 : Below w.heap.size w w7 := (hb5.trans (hb6.mono hb5.size)).trans (hinv7.below.mono (Nat.le_trans hb5.size hb6.size))
        have hrA7 : RG w7 gA BA CA (groups xs) := (hrA.below hb6).below hinv7.below
        have hl7 : Lies w7 b off xs := hl.below hb7 hlb
        have hlb7 := Nat.lt_of_lt_of_le hlb hb7.size
        clear hinv7 hvl hp6 hb6 hb5 hl5 hlb5 hrA
        go_wp2_with fail
        refine (build_any aoD (c0 - c) (n - c) _ (xs.drop c) (by rw [List.length_drop, ← HN.out]) (by omega) (drop_lies HN.out hl7 hlb7 HAO.out)).mono ?_
        rintro e w8 ⟨vp8, rfl, hp8, hb8⟩
        go_wp2_with fail
        refine (resources_any vp8 _ (xs.drop c) (by rw [List.length_drop, ← HN.out]; omega) (hsh.drop c) (hdt.drop c) hp8).mono ?_
        rintro e w9 ⟨vr, rfl, hinv9⟩
        obtain ⟨aoR, cR, gR, BR, CR, hvr, hsR, hrR⟩ := rg_of_inv hinv9
        rw [hvr]
        have hb9 : Below w.heap.size w w9 := (hb7.trans (hb8.mono hb7.size)).trans (hinv9.below.mono (Nat.le_trans hb7.size hb8.size))
        have hrA9 : RG w9 gA BA CA (groups xs) := (hrA7.below hb8).below hinv9.below
        have hrL9 : RG w9 gL BL CL (groups (xs.take c)) := (hrL.below hb8).below hinv9.below
        clear hinv9 hvr hp8 hb8 hb7 hl7 hlb7 hrA7 hrL hl HAO hsl
        have hmA := groups_le xs
        have hmL := groups_le (xs.take c)
        have hmR := groups_le (xs.drop c)
        rw [List.length_take] at hmL
        rw [List.length_drop] at hmR
        rw [← HN.out] at hmA hmL hmR
        obtain ⟨mA, hA⟩ : ∃ m, m = (groups xs).length := ⟨_, rfl⟩
        obtain ⟨mL, hL⟩ : ∃ m, m = (groups (xs.take c)).length := ⟨_, rfl⟩
        obtain ⟨mR, hR⟩ : ∃ m, m = (groups (xs.drop c)).length := ⟨_, rfl⟩
        rw [← hA] at hmA hsA ⊢
        rw [← hL] at hmL hsL ⊢
        rw [← hR] at hmR hsR ⊢
        have HMs : Hid (mA = (groups xs).length ∧ mL = (groups (xs.take c)).length ∧ mR = (groups (xs.drop c)).length) := ⟨hA, hL, hR⟩
        have HSs : Hid ((0 < mA → aoA = some ⟨gA, 0, none⟩) ∧ (0 < mL → aoL = some ⟨gL, 0, none⟩) ∧ (0 < mR → aoR = some ⟨gR, 0, none⟩)) := ⟨hsA, hsL, hsR⟩
        have hmL' : mL ≤ 4096 := by omega
        have hmR' : mR ≤ 4096 := by omega
        clear hA hL hR hsA hsL hsR hmL hmR
        have hlr : xs.take c ++ xs.drop c = xs := List.take_append_drop c xs
        have hlen1 : (xs.take c).length ≤ 4096 := by rw [List.length_take]; omega
        have hlen2 : (xs.drop c).length ≤ 4096 := by rw [List.length_drop, ← HN.out]; omega
        generalize xs.take c = lf at *
        generalize xs.drop c = rt at *
        have HLR : Hid (lf ++ rt = xs) := hlr
        clear hlr
        have hA0 : aoA = some ⟨gA, 0, none⟩ := HSs.out.1 (by rw [HMs.out.1]; exact groups_pos (by rw [← HN.out]; exact hpos))
        subst hA0
        go_wp2_with fail
        go_loopw [8, 9] (fun cc ii wx => ∃ i : Nat, i ≤ mA ∧ ii = .int .i64 i ∧ cc = .int .i64 (tot xs i) ∧ Below w9.heap.size w9 wx) (fun _ ii _ => mA - (intOf ii).toNat)
        case atStart => exact ⟨0, Nat.zero_le _, rfl, rfl, Below.refl _ _⟩
        case round =>
          obtain ⟨i, hi, rfl, rfl, hbx⟩ := hrel
          by_cases him : i < mA
          · have hiG : i < (groups xs).length := by rw [← HMs.out.1]; exact him
            have hiF : i < (firsts xs).length := by rw [← groups_length]; exact hiG
            have a0 := (hbx.cell (p := ⟨gA, i * 2, none⟩) (hrA9.lt i hiG)).trans (hrA9.name i hiG)
            have hlist := hrA9.list i hiG
            have hrow := rg_row hrA9 hiG
            rw [groups_getD hiG] at a0 hlist hrow
            simp only at a0 hlist hrow
            have htl := tot_le xs (i + 1) (by omega)
            have hts : tot xs (i + 1) = tot xs i + (under xs (nm xs i)).length := rfl
            rw [hts, ← HN.out] at htl
            obtain ⟨l, hll⟩ : ∃ l, l = (under xs (nm xs i)).length := ⟨_, rfl⟩
            rw [← hll] at htl hlist hts
            have HL : Hid (l = (under xs (nm xs i)).length ∧ tot xs (i + 1) = tot xs i + l) := ⟨hll, hts⟩
            have HLI : Hid (w9.cell? ⟨gA, i * 2 + 1, none⟩ = some (.slice (some ⟨BA i, 0, none⟩) l (CA i))) := hlist
            have hgA := hrA9.lt i hiG
            have hU : ∀ j, j < l → ((under xs (nm xs i)).getD j U0).res = nm xs i ∧ 0 ≤ dot ((under xs (nm xs i)).getD j U0).name ∧ ((under xs (nm xs i)).getD j U0).name.size ≤ maxLen := fun j hj => by
              obtain ⟨h1, q, hq, he⟩ := under_at (xs := xs) (r := nm xs i) (j := j) (by rw [← hll]; exact hj)
              rw [← he]
              exact ⟨by rw [he]; exact h1, hdt q hq, (hsh q hq).1⟩
            have HU : Hid (∀ j, j < l → ((under xs (nm xs i)).getD j U0).res = nm xs i ∧ 0 ≤ dot ((under xs (nm xs i)).getD j U0).name ∧ ((under xs (nm xs i)).getD j U0).name.size ≤ maxLen) := hU
            have HA0 : Hid (w9.cell? ⟨gA, i * 2, none⟩ = some (.string (nm xs i))) := (hbx.cell (p := ⟨gA, i * 2, none⟩) hgA).symm.trans a0
            clear hlist hll hts hU hiG hiF
            generalize CA i = cAi at *
            generalize BA i = bAi at *
            generalize hup : under xs (nm xs i) = up at *
            generalize nm xs i = x at *
            generalize htt : tot xs i = tq at *
            have HTT : Hid (tot xs i = tq) := htt
            clear hup htt
            go_wp2_with fail
            go_loopw [8, 11] (fun cc jj wy => ∃ j : Nat, j ≤ l ∧ jj = .int .i64 j ∧ cc = .int .i64 ((tq + j : Nat) : Int) ∧ Below w9.heap.size w9 wy) (fun _ jj _ => l - (intOf jj).toNat)
            case atStart => exact ⟨0, Nat.zero_le _, rfl, rfl, hbx⟩
            case round =>
              clear a0 hbx
              obtain ⟨j, hj, rfl, rfl, hby⟩ := hrel
              have a1 := (hby.cell (p := ⟨gA, i * 2 + 1, none⟩) hgA).trans HLI.out
              by_cases hjl : j < l
              · obtain ⟨u1, u2, u3⟩ := HU.out j hjl
                have p0 := (hby.cell (p := ⟨bAi, j * 3, none⟩) hrow.lt).trans (hrow.p0 j (by rw [← HL.out.1]; exact hjl))
                have p1 := (hby.cell (p := ⟨bAi, j * 3 + 1, none⟩) hrow.lt).trans (hrow.p1 j (by rw [← HL.out.1]; exact hjl))
                have p2 := (hby.cell (p := ⟨bAi, j * 3 + 2, none⟩) hrow.lt).trans (hrow.p2 j (by rw [← HL.out.1]; exact hjl))
                have z0 := (hby.cell (p := ⟨gA, i * 2, none⟩) hgA).trans HA0.out
                generalize up.getD j U0 = p at *
                obtain ⟨n1, n2, n3, n4, n5⟩ := name_parts p u2
                rw [u1] at n1 n2 n3 n4 n5
                have hmx : p.name.size ≤ 9223372036854775807 := u3
                have hle : p.name.size ≤ x.size + 1 + p.act.size := by omega
                have hge : x.size + 1 + p.act.size ≤ p.name.size := by omega
                have t1 : ((p.name.extract 0 x.size).toList == x.toList) = true := streq n2
                have t2 : ((p.name[x.size].toNat : Int) != 46) = false := by rw [byte_at p.name x.size n3 n4]; rfl
                have t3 : ((p.name.extract (x.size + 1) p.name.size).toList == p.act.toList) = true := streq n5
                have z0' : ∀ o : Obj, (wr.alloc o).cell? ⟨gA, i * 2, none⟩ = some (.string x) := fun o => (World.cell?_alloc_lt _ _ _ (World.block_lt_of_cell? _ _ z0)).trans z0
                clear n1 n2 n4 n5 u1 u2 u3 z0
                go_wp2_with fail
                go_region
                all_goals go_wp2_with fail
                go_roundw
                case rel => exact ⟨j + 1, by omega, by go_num, by go_num, (hby.alloc hby.size _).drew⟩
                case measure => simp [intOf]; omega
              · go_wp2
                go_roundw
                case rel => exact ⟨i + 1, by omega, by go_num, by rw [HL.out.2, show j = l by omega], hby⟩
                case measure => simp [intOf]; omega
          · have HE : Hid (tot xs i = n) := by
              have e : i = (firsts xs).length := by rw [← groups_length, ← HMs.out.1]; omega
              show tot xs i = n
              rw [e, tot_all, HN.out]
            rw [HE.out]
            obtain ⟨W, hWW⟩ : ∃ W, W = wr := ⟨_, rfl⟩
            subst hWW
            have hrA := hrA9.below hbx
            have hrL := hrL9.below hbx
            have hrR' := hrR.below hbx
            have hbW : Below w.heap.size w W := hb9.trans (hbx.mono hb9.size)
            clear hrA9 hrL9 hrR hb9 hbx HE
            go_wp2_with (first
              | (at_make; refine wpList_make_own _ rfl (.const (.int .i64 0)) (.tmp 131) 24 rfl W.heap.size 34 i4 _ 2 Try.underlying24 hi4 hz40 hz41 .i64 .i64 _ (mL + mR) rfl rfl (by omega) (by rw [hz42]; omega) (by simp [maxLen]; omega) (Nat.le_refl _) ?_; intro w10 hown10 hgr10))
            have hb10 : Below W.heap.size W w10 := (Below.refl _ _).grown hgr10 (Nat.le_refl _) (by simp)
            have hexp0 : Exp w10 W.heap.size W.heap.size (mL + mR) [] := ⟨hown10, fun t ht => by simp at ht⟩
            clear hown10 hgr10
            go_loopw [13, 14] (fun ev ii wx => ∃ i : Nat, i ≤ mL ∧ ii = .int .i64 i ∧ ev = .slice (some ⟨W.heap.size, 0, none⟩) i (mL + mR) ∧ Below W.heap.size W wx ∧ ∃ S : List T, Exp wx W.heap.size W.heap.size (mL + mR) S ∧ S.length = i ∧ grp S = ((firsts lf).take i).map fun x => (x, under lf x ++ under rt x)) (fun _ ii _ => mL - (intOf ii).toNat)
            case atStart => exact ⟨0, Nat.zero_le _, rfl, rfl, hb10, [], hexp0, rfl, by simp [grp]⟩
            case round =>
              clear hexp0 hb10
              obtain ⟨i, hi, rfl, rfl, hbx, S, hexp, hSl, hSg⟩ := hrel
              by_cases him : i < mL
              · have hs0 : aoL = some ⟨gL, 0, none⟩ := HSs.out.2.1 (by omega)
                subst hs0
                have hiG : i < (groups lf).length := by rw [← HMs.out.2.1]; exact him
                have hiF : i < (firsts lf).length := by rw [← groups_length]; exact hiG
                have g0 := hrL.name i hiG
                have g1 := hrL.list i hiG
                have hrow := rg_row hrL hiG
                have hgL := hrL.lt i hiG
                rw [groups_getD hiG] at g0 g1 hrow
                simp only at g0 g1 hrow
                obtain ⟨x, hx⟩ : ∃ x, x = nm lf i := ⟨_, rfl⟩
                rw [← hx] at g0 g1 hrow
                obtain ⟨lL, hlL⟩ : ∃ lL, lL = (under lf x).length := ⟨_, rfl⟩
                have hlL4 : lL ≤ 4096 := by have := under_le lf x; omega
                rw [← hlL] at g1
                have HX : Hid (nm lf i = x ∧ i < (firsts lf).length ∧ lL = (under lf x).length) := ⟨hx.symm, hiF, hlL⟩
                have HG0 : Hid (W.cell? ⟨gL, i * 2, none⟩ = some (.string x)) := g0
                have HG1 : Hid (W.cell? ⟨gL, i * 2 + 1, none⟩ = some (.slice (some ⟨BL i, 0, none⟩) lL (CL i))) := g1
                have HS : Hid (S.length = i ∧ grp S = ((firsts lf).take i).map fun x => (x, under lf x ++ under rt x)) := ⟨hSl, hSg⟩
                have hebx : W.heap.size < wr.heap.size := (hexp.outer.lt _ rfl).2
                clear hx hlL hSl hSg hiG hiF g0 g1
                generalize CL i = cLi at *
                generalize BL i = bLi at *
                obtain ⟨W3, hW3⟩ : ∃ W3, W3 = wr := ⟨_, rfl⟩
                subst hW3
                have g1 := (hbx.cell (p := ⟨gL, i * 2 + 1, none⟩) hgL).trans HG1.out
                go_wp2_with (first
                  | (at_make; refine wpList_make_own _ rfl (.const (.int .i64 0)) (.tmp 144) 32 rfl W3.heap.size 36 i6 _ 3 Try.underlying32 hi6 hz60 hz61 .i64 .i64 _ lL rfl rfl rfl (by rw [hz62]; omega) (by simp [maxLen]; omega) (Nat.le_refl _) ?_; intro w11 hown11 hgr11; have hb11 : Below W3.heap.size W3 w11 := (Below.refl _ _).grown hgr11 (Nat.le_refl _) (by simp); have g1' := cell_later hb11 g1)
                  | (at_builtin; refine wpList_append_fits _ rfl (.tmp 146) (.tmp 151) 32 rfl W3.heap.size 36 i6 3 Try.underlying32 hi6 hz61 W3.heap.size 0 lL [] rfl hown11 ⟨bLi, 0, none⟩ lL cLi (qsCells (under lf x)) rfl (by rw [qsCells_length, HX.out.2.2]) (((hrow.below hbx).below hb11).cells) (qsCells_one _) (by omega) ?_; intro w12 hown12 hgr12; rw [Nat.zero_add] at hown12 ⊢))
                have hb12 : Below W3.heap.size W3 w12 := hb11.grown hgr12 hb11.size (by simp)
                rw [List.nil_append] at hown12
                clear hown11 hgr11 hb11 g1' hgr12 g1
                go_wp2_with fail
                go_loopw [15, 16] (fun pv jj wy => ∃ (j pb cp k : Nat), j ≤ mR ∧ jj = .int .i64 j ∧ pv = .slice (some ⟨pb, 0, none⟩) k cp ∧ k ≤ 8192 ∧ Hid (k = (under lf x ++ mt rt x j).length) ∧ Below W3.heap.size W3 wy ∧ wy.ownsRow W3.heap.size 36 3 (.slice (some ⟨pb, 0, none⟩) k cp) k (qsCells (under lf x ++ mt rt x j))) (fun _ jj _ => mR - (intOf jj).toNat)
                case atStart => exact ⟨0, W3.heap.size, lL, lL, Nat.zero_le _, rfl, rfl, by omega, (by show lL = _; rw [mt_zero, List.append_nil]; exact HX.out.2.2), hb12, by rw [mt_zero, List.append_nil]; exact hown12⟩
                case round =>
                  clear hown12 hb12
                  obtain ⟨j, pb, cp, k, hj, rfl, rfl, hk8, HKL, hby, hownp⟩ := hrel
                  have hWy : Below W.heap.size W wr := hbx.trans (hby.mono hbx.size)
                  have g0 := (hWy.cell (p := ⟨gL, i * 2, none⟩) hgL).trans HG0.out
                  by_cases hjm : j < mR
                  · have hs1 : aoR = some ⟨gR, 0, none⟩ := HSs.out.2.2 (by omega)
                    subst hs1
                    have hjG : j < (groups rt).length := by rw [← HMs.out.2.2]; exact hjm
                    have hjF : j < (firsts rt).length := by rw [← groups_length]; exact hjG
                    have h0 := (hWy.cell (p := ⟨gR, j * 2, none⟩) (hrR'.lt j hjG)).trans (hrR'.name j hjG)
                    have h1 := (hWy.cell (p := ⟨gR, j * 2 + 1, none⟩) (hrR'.lt j hjG)).trans (hrR'.list j hjG)
                    have hrowR := (rg_row hrR' hjG).below hWy
                    rw [groups_getD hjG] at h0 h1 hrowR
                    simp only at h0 h1 hrowR
                    by_cases he : nm rt j = x
                    · obtain ⟨hm1, hm2⟩ := mt_hit hjF he
                      have hpos' := under_pos hjF
                      rw [he] at h0 h1 hrowR hpos'
                      obtain ⟨lR, hlR⟩ : ∃ lR, lR = (under rt x).length := ⟨_, rfl⟩
                      rw [← hlR] at h1 hpos'
                      have hlR4 : lR ≤ 4096 := by have := under_le rt x; omega
                      have hk4 : k ≤ 4096 := by have := HKL.out; rw [hm1, List.append_nil, ← HX.out.2.2] at this; omega
                      have HKN : Hid (k + lR = (under lf x ++ mt rt x (j + 1)).length) := by show k + lR = _; rw [HKL.out, hm1, hm2, List.append_nil, List.length_append, ← hlR]
                      rw [hm1, List.append_nil] at hownp
                      have HM2 : Hid (mt rt x (j + 1) = under rt x ∧ lR = (under rt x).length) := ⟨hm2, hlR⟩
                      clear hm1 hm2 hlR he hjG hjF HKL
                      generalize CR j = cRj at *
                      generalize BR j = bRj at *
                      have ht := streq (rfl : x = x)
                      go_wp2_with fail
                      go_region
                      all_goals go_wp2_with (first
                        | (at_builtin; refine wpList_append_lies _ rfl (.tmp 170) (.tmp 175) 32 rfl W3.heap.size 36 i6 _ 3 48 Try.underlying32 hi6 hz60 hz61 hz62 rfl (by decide) (.slice (some ⟨pb, 0, none⟩) k cp) k (qsCells (under lf x)) rfl hownp.drew ⟨bRj, 0, none⟩ lR cRj (qsCells (under rt x)) rfl (by rw [qsCells_length, HM2.out.2]) hrowR.cells (qsCells_one _) (by omega) (by simp [maxLen]; omega) (by omega) hby.size wr.heap.size rfl ?_; intro gn cn w13 hown13 hgr13 hat13 hlt13))
                      go_roundw
                      case rel => exact ⟨j + 1, gn, cn, k + lR, by omega, by go_num, rfl, by omega, HKN, hby.drew.grown hgr13 hby.size (fun b hb => (hownp.lt b hb).1), by rw [HM2.out.1, qsCells_append]; exact hown13⟩
                      case measure => simp [intOf]; omega
                    · have ht := strne he
                      have hm := mt_miss hjF he
                      have HM2 : Hid (mt rt x (j + 1) = mt rt x j) := hm
                      clear hm he hjG hjF
                      generalize nm rt j = y at *
                      generalize CR j = cRj at *
                      generalize BR j = bRj at *
                      go_wp2_with fail
                      go_region
                      all_goals go_wp2_with fail
                      go_roundw
                      case rel => exact ⟨j + 1, pb, cp, k, by omega, by go_num, rfl, hk8, (by show k = _; rw [HM2.out]; exact HKL.out), hby.drew, by rw [HM2.out]; exact hownp.drew⟩
                      case measure => simp [intOf]; omega
                  · have hmt : mt rt x j = under rt x := by rw [show j = (firsts rt).length by rw [← groups_length, ← HMs.out.2.2]; omega, mt_all]
                    rw [hmt] at hownp
                    have HKL' : Hid (k = (under lf x ++ under rt x).length) := by show k = _; rw [HKL.out, hmt]
                    have hexpy := hexp.below hby
                    have hq := qrow_of_owned HKL'.out hownp
                    have hpb : W.heap.size < pb := Nat.lt_of_lt_of_le hebx (hownp.lt pb rfl).1
                    have hnp := fun Wz => newsP Wz x (.slice (some ⟨pb, 0, none⟩) k cp) ⟨_, _, _, rfl⟩
                    have HNP : Hid (∀ Wz, _) := hnp
                    have hout := hexpy.outer
                    rw [HS.out.1] at hout
                    clear hnp hmt HKL
                    go_wp2_with (first
                      | (at_builtin; refine wpList_append_fits _ rfl (.tmp 177) (.tmp 185) 24 rfl W.heap.size 34 i4 2 Try.underlying24 hi4 hz41 W.heap.size i (mL + mR) (outCells S) rfl (hout.alloc _) ⟨wr.heap.size, 0, none⟩ 1 1 [.string x, .slice (some ⟨pb, 0, none⟩) k cp] rfl rfl (HNP.out _).1 (HNP.out wr).2 (by omega) ?_; intro w14 hown14 hgr14))
                    have hfin := exp_push HKL'.out HS.out.1 hexpy hown14 hgr14 (by omega) hq
                    go_roundw
                    case rel => exact ⟨i + 1, by omega, by go_num, rfl, (hWy.alloc hWy.size _).grown hgr14 (by rw [World.size_alloc]; exact Nat.le_succ_of_le hWy.size) (fun b hb => by cases hb; exact Nat.le_refl _), _, hfin, by rw [List.length_append, HS.out.1]; rfl, exp_step HX.out.1 HX.out.2.1 HS.out.2⟩
                    case measure => simp [intOf]; omega
              · have hiL : i = mL := by omega
                subst hiL
                rw [List.take_of_length_le (by rw [← groups_length, ← HMs.out.2.1]; exact Nat.le_refl _)] at hSg
                have HS0 : Hid (S.length = i ∧ grp S = (firsts lf).map fun x => (x, under lf x ++ under rt x)) := ⟨hSl, hSg⟩
                clear hSl hSg
                go_wp2_with fail
                go_loopw [13, 17] (fun ev jj wx => ∃ (j k : Nat), j ≤ mR ∧ jj = .int .i64 j ∧ ev = .slice (some ⟨W.heap.size, 0, none⟩) k (i + mR) ∧ k ≤ i + j ∧ Below W.heap.size W wx ∧ ∃ S : List T, Exp wx W.heap.size W.heap.size (i + mR) S ∧ Hid (S.length = k ∧ grp S = ((firsts lf).map fun x => (x, under lf x ++ under rt x)) ++ (lacks lf ((firsts rt).take j)).map fun x => (x, under rt x))) (fun _ jj _ => mR - (intOf jj).toNat)
                case atStart => exact ⟨0, i, Nat.zero_le _, rfl, rfl, Nat.le_refl _, hbx, S, hexp, HS0.out.1, by rw [HS0.out.2]; simp [lacks]⟩
                case round =>
                  clear hexp hbx him
                  obtain ⟨j, k, hj, rfl, rfl, hkj, hbx, S, hexp, HS⟩ := hrel
                  by_cases hjm : j < mR
                  · have hs1 : aoR = some ⟨gR, 0, none⟩ := HSs.out.2.2 (by omega)
                    subst hs1
                    have hjG : j < (groups rt).length := by rw [← HMs.out.2.2]; exact hjm
                    have hjF : j < (firsts rt).length := by rw [← groups_length]; exact hjG
                    have hgR := hrR'.lt j hjG
                    have h0 := hrR'.name j hjG
                    have h1 := hrR'.list j hjG
                    have hrowR := rg_row hrR' hjG
                    rw [groups_getD hjG] at h0 h1 hrowR
                    simp only at h0 h1 hrowR
                    obtain ⟨y, hy⟩ : ∃ y, y = nm rt j := ⟨_, rfl⟩
                    rw [← hy] at h0 h1 hrowR
                    obtain ⟨lR, hlR⟩ : ∃ lR, lR = (under rt y).length := ⟨_, rfl⟩
                    rw [← hlR] at h1
                    have HY : Hid (nm rt j = y ∧ j < (firsts rt).length ∧ lR = (under rt y).length) := ⟨hy.symm, hjF, hlR⟩
                    have H0 : Hid (W.cell? ⟨gR, j * 2, none⟩ = some (.string y)) := h0
                    have H1 : Hid (W.cell? ⟨gR, j * 2 + 1, none⟩ = some (.slice (some ⟨BR j, 0, none⟩) lR (CR j))) := h1
                    clear hy hlR h0 h1 hjG hjF
                    generalize CR j = cRj at *
                    generalize BR j = bRj at *
                    have hbb : bRj ≠ W.heap.size := by have := hrowR.lt; omega
                    obtain ⟨W5, hW5⟩ : ∃ W5, W5 = wr := ⟨_, rfl⟩
                    subst hW5
                    go_wp2_with fail
                    go_loopw [18, 19] (fun sb ii wz => ∃ q : Nat, q ≤ i ∧ ii = .int .i64 q ∧ sb = .bool false ∧ Hid (∀ p, p < q → nm lf p ≠ y) ∧ Below W5.heap.size W5 wz) (fun _ ii _ => i - (intOf ii).toNat)
                    case atStart => exact ⟨0, Nat.zero_le _, rfl, rfl, fun p hp => by omega, Below.refl _ _⟩
                    case round =>
                      obtain ⟨q, hq, rfl, rfl, HQ, hbz⟩ := hrel
                      have hWz : Below W.heap.size W wr := hbx.trans (hbz.mono hbx.size)
                      have h0 := (hWz.cell (p := ⟨gR, j * 2, none⟩) hgR).trans H0.out
                      by_cases hqi : q < i
                      · have hs0 : aoL = some ⟨gL, 0, none⟩ := HSs.out.2.1 (by omega)
                        subst hs0
                        have hqG : q < (groups lf).length := by rw [← HMs.out.2.1]; exact hqi
                        have hqF : q < (firsts lf).length := by rw [← groups_length]; exact hqG
                        have g0 := (hWz.cell (p := ⟨gL, q * 2, none⟩) (hrL.lt q hqG)).trans (hrL.name q hqG)
                        rw [groups_getD hqG] at g0
                        simp only at g0
                        by_cases he : nm lf q = y
                        · have HO : Hid (lacks lf ((firsts rt).take (j + 1)) = lacks lf ((firsts rt).take j)) := lacks_old HY.out.2.1 hqF (by rw [HY.out.1]; exact he)
                          rw [he] at g0
                          have ht := streq (rfl : y = y)
                          have hexpz := hexp.below hbz
                          clear he hqG hqF
                          go_wp2_with fail
                          go_region
                          all_goals go_wp2_with fail
                          go_roundw
                          case rel => exact ⟨j + 1, k, by omega, by go_num, rfl, by omega, hWz.drew, S, hexpz.below (Below.refl _ _).drew, HS.out.1, by rw [HO.out]; exact HS.out.2⟩
                          case measure => simp [intOf]; omega
                        · have ht := strne he
                          have HQ' : Hid (∀ p, p < q + 1 → nm lf p ≠ y) := fun p hp => by
                            by_cases hpq : p = q
                            · subst hpq; exact he
                            · exact HQ.out p (by omega)
                          clear he hqG hqF
                          generalize nm lf q = z at *
                          go_wp2_with fail
                          go_region
                          all_goals go_wp2_with fail
                          go_roundw
                          case rel => exact ⟨q + 1, by omega, by go_num, rfl, HQ', hbz.drew⟩
                          case measure => simp [intOf]; omega
                      · have HQF : Hid (∀ p, p < (firsts lf).length → nm lf p ≠ y) := fun p hp => HQ.out p (by rw [← groups_length, ← HMs.out.2.1] at hp; omega)
                        have h1 := (hWz.cell (p := ⟨gR, j * 2 + 1, none⟩) hgR).trans H1.out
                        have hexpz := hexp.below hbz
                        have hqz := hrowR.below hWz
                        have hnp := fun Wz => newsP Wz y (.slice (some ⟨bRj, 0, none⟩) lR cRj) ⟨_, _, _, rfl⟩
                        have HNP : Hid (∀ Wz, _) := hnp
                        have hout := hexpz.outer
                        rw [HS.out.1] at hout
                        clear hnp
                        go_wp2_with (first
                          | (at_builtin; refine wpList_append_fits _ rfl (.tmp 212) (.tmp 217) 24 rfl W.heap.size 34 i4 2 Try.underlying24 hi4 hz41 W.heap.size k (i + mR) (outCells S) rfl (hout.alloc _) ⟨wr.heap.size, 0, none⟩ 1 1 [.string y, .slice (some ⟨bRj, 0, none⟩) lR cRj] rfl rfl (HNP.out _).1 (HNP.out wr).2 (by omega) ?_; intro w15 hown15 hgr15))
                        have hfin := exp_push HY.out.2.2 HS.out.1 hexpz hown15 hgr15 hbb hqz
                        go_roundw
                        case rel => exact ⟨j + 1, k + 1, by omega, by go_num, rfl, by omega, (hWz.alloc hWz.size _).grown hgr15 (by rw [World.size_alloc]; exact Nat.le_succ_of_le hWz.size) (fun b hb => by cases hb; exact Nat.le_refl _), _, hfin, by rw [List.length_append, HS.out.1]; rfl, exp_step2 HY.out.1 HY.out.2.1 HQF.out HS.out.2⟩
                        case measure => simp [intOf]; omega
                  · have hgx : grp S = groups xs := by
                      rw [HS.out.2, List.take_of_length_le (by rw [← groups_length, ← HMs.out.2.2]; omega), ← groups_append, HLR.out]
                    have hkA : k = mA := by
                      have h1 : (grp S).length = S.length := by simp [grp]
                      rw [hgx, HS.out.1] at h1
                      rw [HMs.out.1]; exact h1.symm
                    subst hkA
                    obtain ⟨Bx, Cx, hrx⟩ := rg_of_exp hexp
                    rw [hgx] at hrx
                    have hsm : Small (groups xs) := by
                      refine ⟨by rw [← HMs.out.1]; omega, fun q hq => ?_⟩
                      rw [groups_getD hq]
                      have := under_le xs (nm xs q)
                      rw [← HN.out] at this
                      show (under xs (nm xs q)).length ≤ 8192
                      omega
                    clear hgx
                    go_wp2_with (go_at_call 12; refine (same_some gA W.heap.size cA (i + mR) k BA CA Bx Cx _ (groups xs) HMs.out.1 hsm (hrA.below hbx) hrx).mono ?_; rintro e w16 ⟨rfl, hb16⟩)
                    go_ret
                    exact ⟨rfl, (hbW.trans (hbx.mono hbW.size)).trans (hb16.mono (Nat.le_trans hbW.size hbx.size))⟩
end Go.Proofs.Qxb6628271a
