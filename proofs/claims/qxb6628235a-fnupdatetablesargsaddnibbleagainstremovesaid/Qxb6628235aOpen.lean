import Derived.Test.Qxb6628235aBase
import Derived.Deep.Slices
import Derived.ProofKit
namespace Go.Proofs.Qxb6628235a
open Go.ChangeShapes Go.WideShapes Go.ChangeAt Go.RowKit Go.Deep

theorem Try.cells29 : Try.prog.cellsOf 29 = 4 := by kernel_rfl
theorem Try.cells3 : Try.prog.cellsOf 3 = 1 := by kernel_rfl
theorem Try.cells4 : Try.prog.cellsOf 4 = 1 := by kernel_rfl
theorem Try.cells2 : Try.prog.cellsOf 2 = 1 := by kernel_rfl

/-- one element's four cells -/
theorem open_one {H : Type} {enc : TypeId × Value → H} {w : World} {base : Nat} {spare : Nat → Bool} {held : Bool} {n : Nat} {a : Addr} {cs : List Value} {y : DataW H × List MemPlace}
    (h1 : w.cells? base a 4 = some cs) (h2 : DataW.trod enc Try.prog w base spare held n 29 cs = some y) :
    ∃ u : U, w.cell? (a.add 0) = some (.int .i64 u.k) ∧ w.cell? (a.add 1) = some (.int .i64 u.i) ∧ w.cell? (a.add 2) = some (.bool u.a) ∧ w.cell? (a.add 3) = some (.int .i64 u.p) := by
  obtain ⟨_, hlen, hcell⟩ := World.cells?_some h1
  obtain ⟨xs, m, _, _, _, hxl, hf⟩ := DataW.trod_struct Try.underlying29 h2
  match xs, hxl, cs, hlen with
  | [y0, y1, y2, y3], _, [v0, v1, v2, v3], _ =>
    have g0 := hf 0 _ rfl
    have g1 := hf 1 _ rfl
    have g2 := hf 2 _ rfl
    have g3 := hf 3 _ rfl
    simp [Try.cells3, Try.cells4, Try.cells2] at g0 g1 g2 g3
    obtain ⟨k, e0, _, _⟩ := DataW.trod_int Try.underlying3 g0
    obtain ⟨i, e1, _, _⟩ := DataW.trod_int Try.underlying3 g1
    obtain ⟨b, e2, _⟩ := DataW.trod_bool Try.underlying4 g2
    obtain ⟨p, e3, _, _⟩ := DataW.trod_int Try.underlying2 g3
    simp at e0 e1 e2 e3
    subst e0 e1 e2 e3
    exact ⟨⟨k, i, b, p⟩, by simpa using hcell 0 (by omega), by simpa using hcell 1 (by omega), by simpa using hcell 2 (by omega), by simpa using hcell 3 (by omega)⟩

theorem getD_range (f : Nat → U) (n j : Nat) (h : j < n) : ((List.range n).map f).getD j U0 = f j := by
  simp [List.getD, h]

theorem open_upd {H : Type} {enc : TypeId × Value → H} {w : World} {base : Nat} {spare : Nat → Bool} {held : Bool} {fuel : Nat} {ao : Option Addr} {len cap : Nat} {x : DataW H × List MemPlace}
    (h : DataW.trod enc Try.prog w base spare held fuel 22 [.slice ao len cap] = some x) :
    ∃ xs : List U, xs.length = len ∧ LiesAny w ao xs ∧ (ao = none → len = 0 ∧ cap = 0) ∧ len ≤ maxLen := by
  rcases open_slice Try.underlying22 h with ⟨h0, _⟩ | ⟨a, len', cap', m, n, D, Pl, hcs, hb, hl, hm, hmm, _, hx⟩
  · simp at h0
    obtain ⟨rfl, rfl, rfl⟩ := h0
    exact ⟨[], rfl, .inl rfl, fun _ => ⟨rfl, rfl⟩, Nat.zero_le _⟩
  · simp at hcs
    obtain ⟨rfl, rfl, rfl⟩ := hcs
    have hlm : len ≤ m := by rw [hmm]; split <;> omega
    by_cases hz : len = 0
    · subst hz
      exact ⟨[], rfl, .inl rfl, fun h => by simp at h, Nat.zero_le _⟩
    · have each : ∀ i, i < len → ∃ u : U, w.cell? ((a.add (i * 4)).add 0) = some (.int .i64 u.k) ∧ w.cell? ((a.add (i * 4)).add 1) = some (.int .i64 u.i) ∧ w.cell? ((a.add (i * 4)).add 2) = some (.bool u.a) ∧ w.cell? ((a.add (i * 4)).add 3) = some (.int .i64 u.p) := by
        intro i hi
        obtain ⟨cs', h1, h2⟩ := hx i (by omega)
        rw [Try.cells29] at h1
        exact open_one h1 h2
      obtain ⟨f, hf⟩ := @choose_lt U ⟨U0⟩ _ _ each
      obtain ⟨b, off, spot⟩ := a
      have hspot : spot = none := by
        have := World.cell?_spot (hf 0 (by omega)).1
        simpa [Addr.add] using this
      subst hspot
      have hlt : b < w.heap.size := by
        have := World.block_lt_of_cell? _ _ (hf 0 (by omega)).1
        simpa [Addr.add_lit] using this
      simp only [Addr.add_lit, Nat.add_zero] at hf
      refine ⟨(List.range len).map f, by simp, .inr ⟨b, off, rfl, hlt, ?_⟩, fun h => by simp at h, by omega⟩
      refine ⟨fun j hj => ?_, fun j hj => ?_, fun j hj => ?_, fun j hj => ?_⟩ <;> (simp at hj; rw [getD_range f len j hj])
      · exact (hf j hj).1
      · exact (hf j hj).2.1
      · exact (hf j hj).2.2.1
      · exact (hf j hj).2.2.2
end Go.Proofs.Qxb6628235a
