import Derived.Test.Qxb6628235aRows
import Derived.WalkKit
import Derived.WalkSpells
import Derived.WalkLawsBesides
namespace Go.Proofs.Qxb6628235a
open Go.RowKit

theorem Try.info35 : (Try.prog.info? 35).map (fun i => (i.zero, i.size, i.bytes)) = some (some (.agg #[.int .i64 0, .int .i64 0, .bool false, .int .i64 0]), 4, 32) := by kernel_rfl

/-- one element: kind, id, add, price -/
structure U where
  k : Int
  i : Int
  a : Bool
  p : Int

def U.cells (u : U) : List Value := [.int .i64 u.k, .int .i64 u.i, .bool u.a, .int .i64 u.p]
def cellsOf (xs : List U) : List Value := xs.flatMap U.cells
def U0 : U := ⟨0, 0, false, 0⟩

theorem cellsOf_length (xs : List U) : (cellsOf xs).length = xs.length * 4 := by
  induction xs with
  | nil => rfl
  | cons u xs ih => simp only [cellsOf, List.flatMap_cons, List.length_append] at ih ⊢; rw [ih]; simp [U.cells]; omega

theorem cellsOf_append (xs ys : List U) : cellsOf (xs ++ ys) = cellsOf xs ++ cellsOf ys := by simp [cellsOf]

theorem take_succ_U (xs : List U) (k : Nat) (h : k < xs.length) : xs.take (k + 1) = xs.take k ++ [xs[k]] := by
  rw [List.take_succ_eq_append_getElem h]

theorem set4 (A R : List Value) (n : Nat) (hA : A.length = n) (z0 z1 z2 z3 v0 v1 v2 v3 : Value) :
    (((((A ++ z0 :: z1 :: z2 :: z3 :: R).set n v0).set (n + 1) v1).set (n + 2) v2).set (n + 3) v3) = A ++ v0 :: v1 :: v2 :: v3 :: R := by
  subst hA
  simp

theorem split4 (R : List Value) (m : Nat) (h : R.length = (m + 1) * 4) : ∃ z0 z1 z2 z3 R', R = z0 :: z1 :: z2 :: z3 :: R' ∧ R'.length = m * 4 := by
  match R, h with
  | z0 :: z1 :: z2 :: z3 :: R', h => exact ⟨z0, z1, z2, z3, R', rfl, by simp at h; omega⟩
  | [], h => simp at h
  | [_], h => simp at h; omega
  | [_, _], h => simp at h; omega
  | [_, _, _], h => simp at h; omega

/-- a cell of an owned row is there -/
theorem owned_some {w : World} {base : Nat} {e : TypeId} {size g n cap : Nat} {xs : List Value} (h : w.ownsRow base e size (.slice (some ⟨g, 0, none⟩) n cap) n xs) (j : Nat) (hj : j < n * size) :
    ∃ v, w.cell? ⟨g, j, none⟩ = some v := by
  rw [h.cellAt j hj]
  have := h.1
  exact ⟨_, List.getElem?_eq_getElem (by omega)⟩


/-- a row of 'n' elements: the four cells of each -/
structure Lies (w : World) (b off : Nat) (xs : List U) : Prop where
  c0 : ∀ j, j < xs.length → w.cell? ⟨b, off + j * 4, none⟩ = some (.int .i64 (xs.getD j U0).k)
  c1 : ∀ j, j < xs.length → w.cell? ⟨b, off + j * 4 + 1, none⟩ = some (.int .i64 (xs.getD j U0).i)
  c2 : ∀ j, j < xs.length → w.cell? ⟨b, off + j * 4 + 2, none⟩ = some (.bool (xs.getD j U0).a)
  c3 : ∀ j, j < xs.length → w.cell? ⟨b, off + j * 4 + 3, none⟩ = some (.int .i64 (xs.getD j U0).p)

def LiesAny (w : World) (ao : Option Addr) (xs : List U) : Prop := xs = [] ∨ ∃ b off, ao = some ⟨b, off, none⟩ ∧ b < w.heap.size ∧ Lies w b off xs

end Go.Proofs.Qxb6628235a
