import Derived.Test.Qxb6628271aInv
import Derived.Deep.RegionLaw
import Derived.Deep.DrawnRows
namespace Go.Proofs.Qxb6628271a
open Go.RowKit Go.Maps
open Go.WideMaps (keyOf_string_mk)

attribute [local go_sem ↓] Go.wp_at_zero Go.wp_at_succ

set_option maxRecDepth 100000 in
set_option maxHeartbeats 4000000 in
theorem resources_any (v0 : Value) (w : World) (xs : List E) (hm : xs.length ≤ 4096) (hsh : Short xs) (hdt : Dotted xs) (hp : Pol w v0 xs) :
    Calls Try.prog 9 #[v0] w fun e w' => ∃ v, e = .returned v ∧ Inv w w' v xs := by
  obtain ⟨pb, cb, g, rfl, hc1, hc2, hg, hl⟩ := hp.at_
  obtain ⟨n, hn⟩ : ∃ n, n = xs.length := ⟨_, rfl⟩
  rw [← hn] at hm hc2
  have HN : Hid (n = xs.length) := hn
  clear hn hp
  have hmm := @run_makeMap Try.prog
  obtain ⟨i4, hi4, hz40, hz41, hz42⟩ := info_parts Try.info34
  obtain ⟨i6, hi6, hz60, hz61, hz62⟩ := info_parts Try.info36
  have hc1' : ∀ o : Obj, (w.alloc o).cell? ⟨pb, 0, none⟩ = some (.pointer (some ⟨cb, 0, none⟩)) := fun o => (World.cell?_alloc_lt _ _ _ (World.block_lt_of_cell? _ _ hc1)).trans hc1
  have hc2' : ∀ o : Obj, (w.alloc o).cell? ⟨cb, 0, none⟩ = some (.slice (some ⟨g, 0, none⟩) n n) := fun o => (World.cell?_alloc_lt _ _ _ (World.block_lt_of_cell? _ _ hc2)).trans hc2
  go_enter Try.func9, Try.ntmps9
  go_wp2
  go_loopw [3, 20] (fun v i wr => ∃ (k : Nat) (ao : Option Addr) (m cp : Nat), k ≤ n ∧ i = .int .i64 k ∧ v = .slice ao m cp ∧ Inv w wr (.slice ao m cp) (xs.take k)) (fun _ i _ => n - (intOf i).toNat)
  case atStart =>
    refine ⟨0, none, 0, 0, Nat.zero_le _, rfl, rfl, ⟨[], .map [], ⟨World.ownsRow_nil _ _ _ _, fun t ht => (by simp at ht), fun i j s t hi => (by simp at hi)⟩, World.ownsMap_made _ _ _ _, ties_empty, rfl⟩, (Below.refl _ _).alloc (Nat.le_refl _) _⟩
  case round =>
    obtain ⟨k, ao, m, cp, hk, rfl, rfl, ⟨S, D, hown, hmap, hties, hgrp⟩, hnx⟩ := hrel
    by_cases hlt : k < n
    · have e0 := (hnx.cell (p := ⟨g, 0 + k * 2, none⟩) hg).trans (hl.c0 k (by rw [← HN.out]; exact hlt))
      have e1 := (hnx.cell (p := ⟨g, 0 + k * 2 + 1, none⟩) hg).trans (hl.c1 k (by rw [← HN.out]; exact hlt))
      rw [Nat.zero_add] at e0 e1
      have hs0 := (hsh k (by rw [← HN.out]; exact hlt)).1
      have hd0 := hdt k (by rw [← HN.out]; exact hlt)
      obtain ⟨p, hpk⟩ : ∃ p, p = xs.getD k U0 := ⟨_, rfl⟩
      rw [← hpk] at e0 e1 hs0 hd0
      have HP : Hid (p = xs.getD k U0) := hpk
      have HG : Hid (grp S = groups (xs.take k)) := hgrp
      clear hpk hgrp
      obtain ⟨d, hd⟩ := Int.eq_ofNat_of_zero_le hd0
      have hdlt : d < p.name.size := by have := (dot_range p.name).2; rw [hd] at this; exact Int.ofNat_lt.1 this
      have hsz0 : p.name.size ≤ 9223372036854775807 := hs0
      have er : p.res = p.name.extract 0 d := by unfold E.res; rw [hd]; rfl
      have ea : p.act = p.name.extract (d + 1) p.name.size := by unfold E.act; rw [hd]; rfl
      have HD : Hid (dot p.name = (d : Int) ∧ p.res = p.name.extract 0 d ∧ p.act = p.name.extract (d + 1) p.name.size) := ⟨hd, er, ea⟩
      have hwr1 : IntKind.i64.wrap ((d : Int) + 1) = (d : Int) + 1 := by rw [IntKind.wrap_i64]; omega
      have hb1 : (0 : Int) ≤ (d : Int) + 1 := by omega
      have hb2 : (d : Int) + 1 ≤ (p.name.size : Int) := by omega
      clear hd er ea hd0
      have hml : m = S.length := owns_len hown.outer
      have hkey : keyOf Try.prog 9 (.string (p.name.extract 0 d)) = some (keyL p.res) := by rw [HD.out.2.1]; exact keyOf_string_mk Try.underlying9 (by rw [← HD.out.2.1]; exact res_short p hs0)
      have hkl : (xs.take k).length = k := by rw [List.length_take, ← HN.out]; omega
      have hmap' : wr.ownsMap Try.prog 9 (plainElem Try.prog 3) w.heap.size k D := by rw [hkl] at hmap; exact hmap
      have HK : Hid ((xs.take k).length = k) := hkl
      clear hkl hmap
      have HKK : Hid (k + 1 ≤ (xs.take (k + 1)).length) := by show k + 1 ≤ _; rw [List.length_take, ← HN.out]; omega
      by_cases hseen : ∃ (i : Nat) (t : T), S[i]? = some t ∧ t.name = p.res
      · obtain ⟨i, t, hi, htn⟩ := hseen
        have hy := hties.yes i t hi
        rw [htn] at hy
        have HY : Hid (Maps.has D (keyL p.res) = true ∧ D.atKey (keyL p.res) (.lit (.int .i64 0)) = .lit (.int .i64 i)) := hy
        have him : i < m := by rw [hml]; exact (List.getElem?_eq_some_iff.1 hi).1
        have hps : t.ps.length ≤ 4096 := by have := ps_le HG.out (List.mem_of_getElem? hi); rw [HK.out] at this; omega
        have HGG : Hid ((grp S).set i (t.name, t.ps ++ [p]) = groups (xs.take (k + 1))) := grp_seen HG.out (by rw [← HN.out]; exact hlt) HP.out hi htn
        have HI : Hid (S[i]? = some t) := hi
        have hOS := hown.outer
        rw [← hml] at hOS
        obtain ⟨gv, hgv⟩ := owns_shape hOS (by omega)
        subst hgv
        have HM : Hid (m = S.length) := hml
        clear hy htn hi hml hOS
        go_wp2_with (first
          | (go_at_call 14; refine (lastIndex_any _ _ hs0).mono ?_; rintro e w' ⟨rfl, rfl⟩; rw [HD.out.1])
          | (at_lookup; refine wpList_lookup_own_ok_int _ rfl (.tmp 32) (.tmp 33) 43 rfl 9 3 .i64 law9 Try.underlying43 Try.underlying3 (zeroE _) w.heap.size k D rfl (hmap'.alloc _) _ (keyL p.res) rfl hkey ?_; intro c hat hwc; obtain rfl : (i : Int) = c := (by rw [HY.out.2] at hat; simpa using hat); rw [HY.out.1]))
        have hOwn := hown.alloc (.cells #[.string p.name, .string p.desc] 41)
        have hMap := (hmap'.alloc (.cells #[.string p.name, .string p.desc] 41)).mono (Nat.le_succ k)
        have hTies := hties
        have hB := hnx.alloc hnx.size (.cells #[.string p.name, .string p.desc] 41)
        have b0 : (wr.alloc (.cells #[.string p.name, .string p.desc] 41)).cell? ⟨wr.heap.size, 0, none⟩ = some (.string p.name) := by simp
        have b1 : (wr.alloc (.cells #[.string p.name, .string p.desc] 41)).cell? ⟨wr.heap.size, 1, none⟩ = some (.string p.desc) := by simp
        clear hown hmap' hties hnx e0 e1 hkey
        generalize wr.alloc (.cells #[.string p.name, .string p.desc] 41) = W at *
        generalize wr.heap.size = bb at *
        have q1 := outer_now hOwn HI.out
        have q2 : ∀ o : Obj, (W.alloc o).cell? ⟨gv, i * 2 + 1, none⟩ = some t.v := fun o => (World.cell?_alloc_lt _ _ _ (World.block_lt_of_cell? _ _ q1)).trans q1
        have r2 : ∀ o : Obj, (W.alloc o).cell? ⟨bb, 0, none⟩ = some (.string p.name) := fun o => (World.cell?_alloc_lt _ _ _ (World.block_lt_of_cell? _ _ b0)).trans b0
        have r3 : ∀ o : Obj, (W.alloc o).cell? ⟨bb, 1, none⟩ = some (.string p.desc) := fun o => (World.cell?_alloc_lt _ _ _ (World.block_lt_of_cell? _ _ b1)).trans b1
        have hin := hOwn.inner _ (List.mem_of_getElem? HI.out)
        have hws := hB.size
        go_region_law ((refine step_append_lies _ (by rfl) (.tmp 55) (.tmp 66) 32 (by rfl) w.heap.size 36 i6 _ 3 48 Try.underlying32 hi6 hz60 hz61 hz62 rfl (by decide) t.v (t.ps.length) (qsCells t.ps) (by rfl) (hin.alloc _).drew ⟨W.heap.size, 0, none⟩ 1 1 (qCells p) (by rfl) (by rfl) (news3 _ _ _ HD.out.2.2) (qCells_one p) (by decide) (by unfold maxLen; omega) (by omega) (by simp; omega) (W.heap.size + 1) (by simp) ?_; intro gi cap wz hown1 hgrow hat hlt1; obtain ⟨s1, s2⟩ := outer_after (hOwn.alloc _).drew HI.out hgrow))
        all_goals go_wp2
        all_goals
          have hfin := inv_end (hOwn.alloc _).drew HI.out hown1 hgrow (by simpa using hat) (hMap.alloc _).drew HKK.out hTies HGG.out (hB.alloc hws _).drew
          go_roundw
          case rel => exact ⟨k + 1, _, _, _, by omega, by go_num, rfl, hfin⟩
          case measure => simp [intOf]; omega
      · have hnew : ∀ t ∈ S, t.name ≠ p.res := fun t ht e => hseen (by obtain ⟨i, hi⟩ := List.getElem?_of_mem ht; exact ⟨i, t, hi, e⟩)
        have hno := hties.no p.res hnew
        have HNo : Hid (Maps.has D (keyL p.res) = false) := hno
        have hmk : m ≤ 4096 := by have := grp_le HG.out; rw [HK.out] at this; omega
        have HGG : Hid ((grp (S ++ [⟨p.res, [], .slice none 0 0⟩])).set m (p.res, [] ++ [p]) = groups (xs.take (k + 1))) := by rw [hml]; exact grp_new HG.out (by rw [← HN.out]; exact hlt) HP.out hnew
        have HI : Hid ((S ++ [(⟨p.res, [], .slice none 0 0⟩ : T)])[m]? = some ⟨p.res, [], .slice none 0 0⟩) := by rw [hml]; show _ = _; simp
        have HM : Hid (m = S.length) := hml
        have HW : Hid (∀ t ∈ S, t.name ≠ p.res) := hnew
        clear hseen hno hml hnew
        go_wp2_with (first
          | (go_at_call 14; refine (lastIndex_any _ _ hs0).mono ?_; rintro e w' ⟨rfl, rfl⟩; rw [HD.out.1])
          | (at_lookup; refine wpList_lookup_own_ok_int _ rfl (.tmp 32) (.tmp 33) 43 rfl 9 3 .i64 law9 Try.underlying43 Try.underlying3 (zeroE _) w.heap.size k D rfl (hmap'.alloc _) _ (keyL p.res) rfl hkey ?_; intro c hat hwc; rw [HNo.out]; clear hat hwc)
          | (at_mapUpdate; refine wpList_mapUpdate_own _ rfl (.tmp 41) (.tmp 42) (.tmp 43) 43 rfl 9 3 law9 Try.underlying43 (plainElem Try.prog 3) w.heap.size k D rfl (hmap'.alloc _) (by unfold maxLen; omega) _ _ (keyL p.res) rfl rfl hkey (.lit (.int .i64 m)) [] (plainElem_int Try.underlying3 (WalkArith.wf_i64 (by omega))) ?_; intro w1 hmap1 hgrow1; have hOw1 := own_after_map (hown.alloc _) (hmap'.alloc _) hgrow1; have hOut1 := hOw1.outer; rw [← HM.out] at hOut1)
          | (at_builtin; refine wpList_append_lies _ rfl (.tmp 44) (.tmp 47) 24 rfl w.heap.size 34 i4 _ 2 40 Try.underlying24 hi4 hz40 hz41 hz42 rfl (by decide) (.slice ao m cp) m (outCells S) rfl (hOut1.alloc _) ⟨w1.heap.size, 0, none⟩ 1 1 [.string (p.name.extract 0 d), .slice none 0 0] rfl rfl (news2 _ _) (news2_one _) (by decide) (by unfold maxLen; omega) (by omega) (by simp; have h1 := hgrow1.size; have h2 := hnx.size; simp at h1; omega) (w1.heap.size + 1) (by simp) ?_; intro gv cv W hown2 hgrow2 hat2 hlt2))
        have hOwn : Own W w.heap.size (.slice (some ⟨gv, 0, none⟩) (m + 1) cv) (S ++ [⟨p.res, [], .slice none 0 0⟩]) := by
          have h2 := hown2
          rw [← HD.out.2.1, HM.out] at h2
          rw [HM.out]
          exact (hOw1.alloc _).push h2 hgrow2
        have hMap := (hmap1.alloc (.cells #[.string (p.name.extract 0 d), .slice none 0 0] 34)).kept hgrow2 (map_not_row hOw1.outer hmap1)
        have hTies : Ties (D.put (keyL p.res) (.lit (.int .i64 m))) (S ++ [⟨p.res, [], .slice none 0 0⟩]) := by rw [HM.out]; exact hties.push HW.out _ _
        have hMlt := hmap'.lt
        have hz1 := hgrow1.size
        rw [World.size_alloc] at hz1
        have hB1 : Below w.heap.size w w1 := (hnx.alloc hnx.size _).grown hgrow1 (by rw [World.size_alloc]; omega) (fun b hb => by cases hb; exact Nat.le_refl _)
        have hB : Below w.heap.size w W := (hB1.alloc hB1.size _).grown hgrow2 (by rw [World.size_alloc]; omega) (fun b hb => (hOut1.lt b hb).1)
        have hbk : (w1.alloc (.cells #[.string (p.name.extract 0 d), .slice none 0 0] 34)).heap[wr.heap.size]? = some (.cells #[.string p.name, .string p.desc] 41 (0, 0)) := by
          rw [Below.heap_alloc _ _ _ (by omega), hgrow1.block _ (by rw [World.size_alloc]; omega) (by simp; omega)]
          exact heap_alloc_new _ _
        have b0 : W.cell? ⟨wr.heap.size, 0, none⟩ = some (.string p.name) := box_after (hOw1.alloc _) hgrow2 hbk (by decide) (by rw [cell_of_row _ _ _ _ _ _ hbk]; rfl)
        have b1 : W.cell? ⟨wr.heap.size, 1, none⟩ = some (.string p.desc) := box_after (hOw1.alloc _) hgrow2 hbk (by decide) (by rw [cell_of_row _ _ _ _ _ _ hbk]; rfl)
        clear hown hmap' hties hnx e0 e1 hkey hOw1 hOut1 hmap1 hgrow1 hown2 hgrow2 hat2 hlt2 hbk hMlt hz1 hB1
        generalize wr.heap.size = bb at *
        have him : m < m + 1 := Nat.lt_succ_self m
        generalize m + 1 = m' at *
        have q1 := outer_now hOwn HI.out
        have q2 : ∀ o : Obj, (W.alloc o).cell? ⟨gv, m * 2 + 1, none⟩ = some (.slice none 0 0) := fun o => (World.cell?_alloc_lt _ _ _ (World.block_lt_of_cell? _ _ q1)).trans q1
        have r2 : ∀ o : Obj, (W.alloc o).cell? ⟨bb, 0, none⟩ = some (.string p.name) := fun o => (World.cell?_alloc_lt _ _ _ (World.block_lt_of_cell? _ _ b0)).trans b0
        have r3 : ∀ o : Obj, (W.alloc o).cell? ⟨bb, 1, none⟩ = some (.string p.desc) := fun o => (World.cell?_alloc_lt _ _ _ (World.block_lt_of_cell? _ _ b1)).trans b1
        have hin := hOwn.inner _ (List.mem_of_getElem? HI.out)
        have hws := hB.size
        go_region_law ((refine step_append_lies _ (by rfl) (.tmp 55) (.tmp 66) 32 (by rfl) w.heap.size 36 i6 _ 3 48 Try.underlying32 hi6 hz60 hz61 hz62 rfl (by decide) (.slice none 0 0) (0) (qsCells ([] : List E)) (by rfl) (hin.alloc _).drew ⟨W.heap.size, 0, none⟩ 1 1 (qCells p) (by rfl) (by rfl) (news3 _ _ _ HD.out.2.2) (qCells_one p) (by decide) (by unfold maxLen; omega) (by omega) (by simp; omega) (W.heap.size + 1) (by simp) ?_; intro gi cap wz hown1 hgrow hat hlt1; obtain ⟨s1, s2⟩ := outer_after (hOwn.alloc _).drew HI.out hgrow))
        all_goals go_wp2
        all_goals
          have hfin := inv_end (hOwn.alloc _).drew HI.out hown1 hgrow (by simpa using hat) (hMap.alloc _).drew HKK.out hTies HGG.out (hB.alloc hws _).drew
          go_roundw
          case rel => exact ⟨k + 1, _, _, _, by omega, by go_num, rfl, hfin⟩
          case measure => simp [intOf]; omega
    · have hkn : k = n := by omega
      subst hkn
      rw [List.take_of_length_le (by rw [← HN.out]; exact Nat.le_refl _)] at hgrp hmap
      go_wp2
      go_ret
      exact ⟨_, rfl, ⟨S, D, hown, hmap, hties, hgrp⟩, hnx⟩
end Go.Proofs.Qxb6628271a
