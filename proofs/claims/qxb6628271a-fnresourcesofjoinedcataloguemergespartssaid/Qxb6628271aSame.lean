import Derived.Test.Qxb6628271aRead
import Derived.Laws.StructEq
namespace Go.Proofs.Qxb6628271a
open Go.RowKit Go.Maps

def d0 : ByteArray × List E := (ByteArray.empty, [])

/-- a list of resources as it can be read -/
structure RG (w : World) (g : Nat) (B C : Nat → Nat) (G : List (ByteArray × List E)) : Prop where
  lt : ∀ i, i < G.length → g < w.heap.size
  name : ∀ i, i < G.length → w.cell? ⟨g, i * 2, none⟩ = some (.string (G.getD i d0).1)
  list : ∀ i, i < G.length → w.cell? ⟨g, i * 2 + 1, none⟩ = some (.slice (some ⟨B i, 0, none⟩) (G.getD i d0).2.length (C i))
  ilt : ∀ i, i < G.length → B i < w.heap.size
  p0 : ∀ i j, i < G.length → j < (G.getD i d0).2.length → w.cell? ⟨B i, j * 3, none⟩ = some (.string ((G.getD i d0).2.getD j U0).name)
  p1 : ∀ i j, i < G.length → j < (G.getD i d0).2.length → w.cell? ⟨B i, j * 3 + 1, none⟩ = some (.string ((G.getD i d0).2.getD j U0).act)
  p2 : ∀ i j, i < G.length → j < (G.getD i d0).2.length → w.cell? ⟨B i, j * 3 + 2, none⟩ = some (.string ((G.getD i d0).2.getD j U0).desc)

theorem RG.below {w w' : World} {g : Nat} {B C : Nat → Nat} {G : List (ByteArray × List E)} (h : RG w g B C G) (hb : Below w.heap.size w w') : RG w' g B C G where
  lt i hi := Nat.lt_of_lt_of_le (h.lt i hi) hb.size
  name i hi := (hb.cell (by exact h.lt i hi)).trans (h.name i hi)
  list i hi := (hb.cell (by exact h.lt i hi)).trans (h.list i hi)
  ilt i hi := Nat.lt_of_lt_of_le (h.ilt i hi) hb.size
  p0 i j hi hj := (hb.cell (by exact h.ilt i hi)).trans (h.p0 i j hi hj)
  p1 i j hi hj := (hb.cell (by exact h.ilt i hi)).trans (h.p1 i j hi hj)
  p2 i j hi hj := (hb.cell (by exact h.ilt i hi)).trans (h.p2 i j hi hj)

/-- every list within it is short -/
def Small (G : List (ByteArray × List E)) : Prop := G.length ≤ 8192 ∧ ∀ i, i < G.length → (G.getD i d0).2.length ≤ 8192

set_option maxRecDepth 100000 in
set_option maxHeartbeats 1000000 in
theorem same_some (ga gb ca cb m : Nat) (Ba Ca Bb Cb : Nat → Nat) (w : World) (G : List (ByteArray × List E)) (hm : m = G.length) (hs : Small G) (ha : RG w ga Ba Ca G) (hb : RG w gb Bb Cb G) :
    Calls Try.prog 12 #[.slice (some ⟨ga, 0, none⟩) m ca, .slice (some ⟨gb, 0, none⟩) m cb] w fun e w' => e = .returned (.bool true) ∧ Below w.heap.size w w' := by
  have HM : Hid (m = G.length) := hm
  have hm8 : m ≤ 8192 := by rw [hm]; exact hs.1
  clear hm
  go_enter Try.func12, Try.ntmps12
  go_wp2
  go_loopw [5] (fun ii wx => ∃ i : Nat, i ≤ m ∧ ii = .int .i64 i ∧ Below w.heap.size w wx) (fun ii _ => m - (intOf ii).toNat)
  case atStart => exact ⟨0, Nat.zero_le _, rfl, Below.refl _ _⟩
  case round =>
    obtain ⟨i, hi, rfl, hbx⟩ := hrel
    by_cases him : i < m
    · have hiG : i < G.length := by rw [← HM.out]; exact him
      have a0 := (hbx.cell (p := ⟨ga, i * 2, none⟩) (ha.lt i hiG)).trans (ha.name i hiG)
      have a1 := (hbx.cell (p := ⟨ga, i * 2 + 1, none⟩) (ha.lt i hiG)).trans (ha.list i hiG)
      have b0 := (hbx.cell (p := ⟨gb, i * 2, none⟩) (hb.lt i hiG)).trans (hb.name i hiG)
      have b1 := (hbx.cell (p := ⟨gb, i * 2 + 1, none⟩) (hb.lt i hiG)).trans (hb.list i hiG)
      have HA : Hid (∀ j, j < (G.getD i d0).2.length → w.cell? ⟨Ba i, j * 3, none⟩ = some (.string ((G.getD i d0).2.getD j U0).name) ∧ w.cell? ⟨Ba i, j * 3 + 1, none⟩ = some (.string ((G.getD i d0).2.getD j U0).act) ∧ w.cell? ⟨Ba i, j * 3 + 2, none⟩ = some (.string ((G.getD i d0).2.getD j U0).desc)) := fun j hj => ⟨ha.p0 i j hiG hj, ha.p1 i j hiG hj, ha.p2 i j hiG hj⟩
      have HB : Hid (∀ j, j < (G.getD i d0).2.length → w.cell? ⟨Bb i, j * 3, none⟩ = some (.string ((G.getD i d0).2.getD j U0).name) ∧ w.cell? ⟨Bb i, j * 3 + 1, none⟩ = some (.string ((G.getD i d0).2.getD j U0).act) ∧ w.cell? ⟨Bb i, j * 3 + 2, none⟩ = some (.string ((G.getD i d0).2.getD j U0).desc)) := fun j hj => ⟨hb.p0 i j hiG hj, hb.p1 i j hiG hj, hb.p2 i j hiG hj⟩
      have hla := ha.ilt i hiG
      have hlb := hb.ilt i hiG
      have hga := ha.lt i hiG
      have hgb := hb.lt i hiG
      have hL8 := hs.2 i hiG
      generalize G.getD i d0 = gr at *
      obtain ⟨nmr, L⟩ := gr
      generalize Ba i = bA at *
      generalize Bb i = bB at *
      generalize Ca i = cA at *
      generalize Cb i = cB at *
      simp only at a0 a1 b0 b1 HA HB hL8
      obtain ⟨l, hl⟩ : ∃ l, l = L.length := ⟨_, rfl⟩
      rw [← hl] at a1 b1 hL8
      have HL : Hid (l = L.length) := hl
      have HW1 : Hid (w.cell? ⟨ga, i * 2 + 1, none⟩ = some (.slice (some ⟨bA, 0, none⟩) l cA)) := (hbx.cell (p := ⟨ga, i * 2 + 1, none⟩) hga).symm.trans a1
      have HW2 : Hid (w.cell? ⟨gb, i * 2 + 1, none⟩ = some (.slice (some ⟨bB, 0, none⟩) l cB)) := (hbx.cell (p := ⟨gb, i * 2 + 1, none⟩) hgb).symm.trans b1
      clear hl hiG
      go_wp2_with fail
      go_region
      all_goals go_wp2_with fail
      go_loopw [6] (fun jj wy => ∃ j : Nat, j ≤ l ∧ jj = .int .i64 j ∧ Below w.heap.size w wy) (fun jj _ => l - (intOf jj).toNat)
      case atStart => exact ⟨0, Nat.zero_le _, rfl, hbx.drew⟩
      case round =>
        clear hbx a0 a1 b0 b1
        obtain ⟨j, hj, rfl, hby⟩ := hrel
        have a1 := (hby.cell (p := ⟨ga, i * 2 + 1, none⟩) hga).trans HW1.out
        have b1 := (hby.cell (p := ⟨gb, i * 2 + 1, none⟩) hgb).trans HW2.out
        by_cases hjl : j < l
        · have hpa := HA.out j (by rw [← HL.out]; exact hjl)
          have hpb := HB.out j (by rw [← HL.out]; exact hjl)
          have x0 := (hby.cell (p := ⟨bA, j * 3, none⟩) hla).trans hpa.1
          have x1 := (hby.cell (p := ⟨bA, j * 3 + 1, none⟩) hla).trans hpa.2.1
          have x2 := (hby.cell (p := ⟨bA, j * 3 + 2, none⟩) hla).trans hpa.2.2
          have y0 := (hby.cell (p := ⟨bB, j * 3, none⟩) hlb).trans hpb.1
          have y1 := (hby.cell (p := ⟨bB, j * 3 + 1, none⟩) hlb).trans hpb.2.1
          have y2 := (hby.cell (p := ⟨bB, j * 3 + 2, none⟩) hlb).trans hpb.2.2
          clear hpa hpb
          generalize L.getD j U0 = q at *
          go_wp2_with fail
          go_region
          all_goals go_wp2
          go_roundw
          case rel => exact ⟨j + 1, by omega, by go_num, hby.drew⟩
          case measure => simp [intOf]; omega
        · go_wp2
          go_roundw
          case rel => exact ⟨i + 1, by omega, by go_num, hby⟩
          case measure => simp [intOf]; omega
    · go_wp2
      go_ret
      exact ⟨rfl, hbx⟩

theorem same_none (ao ab : Option Addr) (ca cb : Nat) (w : World) : Calls Try.prog 12 #[.slice ao 0 ca, .slice ab 0 cb] w fun e w' => e = .returned (.bool true) ∧ Below w.heap.size w w' := by
  go_enter Try.func12, Try.ntmps12
  go_wp2
  refine wp_loop_rounds 1 ?_
  rw [rounds_succ]
  go_wp2
  go_ret
  exact ⟨rfl, Below.refl _ _⟩

theorem groups_getD {xs : List E} {i : Nat} (hi : i < (groups xs).length) : (groups xs).getD i d0 = (nm xs i, under xs (nm xs i)) := by
  have hi' : i < (firsts xs).length := by rw [← groups_length]; exact hi
  have e : nm xs i = (firsts xs)[i] := by simp [nm, List.getD, hi']
  simp [groups, List.getD, hi', e]

/-- Resources' answer, read -/
theorem rg_of_inv {w w' : World} {v : Value} {xs : List E} (h : Inv w w' v xs) :
    ∃ ao cp gv B C, v = .slice ao (groups xs).length cp ∧ (0 < (groups xs).length → ao = some ⟨gv, 0, none⟩) ∧ RG w' gv B C (groups xs) := by
  by_cases hne : xs = []
  · subst hne
    obtain ⟨ao, cp, hv⟩ := empty_of_inv h
    have e : (groups []).length = 0 := rfl
    refine ⟨ao, cp, 0, fun _ => 0, fun _ => 0, hv, fun h => by omega, ?_, ?_, ?_, ?_, ?_, ?_, ?_⟩
    all_goals (intro i; intros; omega)
  · obtain ⟨gv, cp, B, C, hv, hr⟩ := read_of_inv h hne
    rw [← groups_length] at hv
    refine ⟨_, cp, gv, B, C, hv, fun _ => rfl, ?_, ?_, ?_, ?_, ?_, ?_, ?_⟩
    · intro i _; exact hr.lt
    · intro i hi; rw [groups_getD hi]; exact hr.name i (by rw [← groups_length]; exact hi)
    · intro i hi; rw [groups_getD hi]; exact hr.list i (by rw [← groups_length]; exact hi)
    · intro i hi; exact hr.ilt i (by rw [← groups_length]; exact hi)
    · intro i j hi hj; rw [groups_getD hi] at hj ⊢; exact hr.p0 i j (by rw [← groups_length]; exact hi) hj
    · intro i j hi hj; rw [groups_getD hi] at hj ⊢; exact hr.p1 i j (by rw [← groups_length]; exact hi) hj
    · intro i j hi hj; rw [groups_getD hi] at hj ⊢; exact hr.p2 i j (by rw [← groups_length]; exact hi) hj
end Go.Proofs.Qxb6628271a
