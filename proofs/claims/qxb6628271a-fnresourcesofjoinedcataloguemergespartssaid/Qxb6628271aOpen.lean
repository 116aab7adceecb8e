import Derived.Test.Qxb6628271aBase
import Derived.Deep.Slices
import Derived.Deep.SlicePairs
import Derived.ProofKit
namespace Go.Proofs.Qxb6628271a
open Go.ChangeShapes Go.WideShapes Go.ChangeAt Go.RowKit Go.Deep

theorem Try.cells31 : Try.prog.cellsOf 31 = 2 := by kernel_rfl
theorem Try.cells9 : Try.prog.cellsOf 9 = 1 := by kernel_rfl

theorem getD_range (f : Nat → E) (n j : Nat) (h : j < n) : ((List.range n).map f).getD j U0 = f j := by
  simp [List.getD, h]

theorem open_perms {H : Type} {enc : TypeId × Value → H} {w : World} {base : Nat} {spare : Nat → Bool} {held : Bool} {fuel : Nat} {ao : Option Addr} {len cap : Nat} {x : DataW H × List MemPlace}
    (h : DataW.trod enc Try.prog w base spare held fuel 22 [.slice ao len cap] = some x) :
    ∃ xs : List E, xs.length = len ∧ LiesAny w ao xs ∧ Short xs ∧ len ≤ cap ∧ cap ≤ maxLen ∧ (ao = none → len = 0 ∧ cap = 0) := by
  rcases open_slice_pairs Try.underlying22 Try.underlying31 Try.cells31 rfl rfl Try.cells9 Try.cells9 h with ⟨h0, _⟩ | ⟨a, len', cap', m, n, V0, V1, D0, D1, P0, P1, hcs, hb, hl, hm, hmm, _, hx⟩
  · simp at h0
    obtain ⟨rfl, rfl, rfl⟩ := h0
    exact ⟨[], rfl, .inl rfl, fun j hj => by simp at hj, Nat.le_refl _, Nat.zero_le _, fun _ => ⟨rfl, rfl⟩⟩
  · simp at hcs
    obtain ⟨rfl, rfl, rfl⟩ := hcs
    have hlm : len ≤ m := by rw [hmm]; split <;> omega
    by_cases hz : len = 0
    · subst hz
      exact ⟨[], rfl, .inl rfl, fun j hj => by simp at hj, hl, hm, fun h => by simp at h⟩
    · have each : ∀ i, i < len → ∃ u : E, w.cell? (a.add (i * 2)) = some (.string u.name) ∧ w.cell? (a.add (i * 2 + 1)) = some (.string u.desc) ∧ u.name.size ≤ maxLen ∧ u.desc.size ≤ maxLen := by
        intro i hi
        obtain ⟨h1, h2, h3, h4⟩ := hx i (by omega)
        obtain ⟨s, e0, _, hs⟩ := DataW.trod_string Try.underlying9 h3
        obtain ⟨t, e1, _, ht⟩ := DataW.trod_string Try.underlying9 h4
        simp at e0 e1
        rw [e0] at h1
        rw [e1] at h2
        exact ⟨⟨s, t⟩, h1, h2, hs, ht⟩
      obtain ⟨f, hf⟩ := @choose_lt E ⟨U0⟩ _ _ each
      obtain ⟨b, off, spot⟩ := a
      have hspot : spot = none := by
        have := World.cell?_spot (hf 0 (by omega)).1
        simpa [Addr.add] using this
      subst hspot
      have hlt : b < w.heap.size := by
        have := World.block_lt_of_cell? _ _ (hf 0 (by omega)).1
        simpa [Addr.add_lit] using this
      simp only [Addr.add_lit] at hf
      refine ⟨(List.range len).map f, by simp, .inr ⟨b, off, rfl, hlt, ?_⟩, ?_, hl, hm, fun h => by simp at h⟩
      · refine ⟨fun j hj => ?_, fun j hj => ?_⟩ <;> (simp at hj; rw [getD_range f len j hj])
        · exact (hf j hj).1
        · rw [Nat.add_assoc]; exact (hf j hj).2.1
      · intro j hj
        simp at hj
        rw [getD_range f len j hj]
        exact ⟨(hf j hj).2.2.1, (hf j hj).2.2.2⟩
end Go.Proofs.Qxb6628271a
