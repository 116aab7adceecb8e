import Derived.Test.Qxb6628235aM3
namespace Go.Proofs.Qxb6628235a
open Go.RowKit

def U.ints (u : U) : List Int := [hdB u.k u.act, u.i / 65536 % 256, u.i / 256 % 256, u.i % 256]
def byteInts (xs : List U) : List Int := xs.flatMap U.ints

theorem bytesOf_ints (xs : List U) : bytesOf xs = (byteInts xs).map (Value.int .u8) := by
  induction xs with
  | nil => rfl
  | cons u xs ih =>
    have e1 : bytesOf (u :: xs) = u.bytes ++ bytesOf xs := by simp [bytesOf]
    have e2 : byteInts (u :: xs) = u.ints ++ byteInts xs := by simp [byteInts]
    rw [e1, e2, ih, List.map_append]
    rfl

theorem byteInts_length (xs : List U) : (byteInts xs).length = 4 * xs.length := by
  induction xs with
  | nil => rfl
  | cons u xs ih =>
    have e2 : byteInts (u :: xs) = u.ints ++ byteInts xs := by simp [byteInts]
    rw [e2, List.length_append, ih]; simp [U.ints]; omega

theorem byteInts_append (xs ys : List U) : byteInts (xs ++ ys) = byteInts xs ++ byteInts ys := by simp [byteInts]

theorem byteInts_at (xs : List U) (j : Nat) (h : j < xs.length) : (byteInts xs).getD (4 * j) 0 = hdB (xs.getD j U0).k (xs.getD j U0).act ∧ (byteInts xs).getD (4 * j + 1) 0 = (xs.getD j U0).i / 65536 % 256 ∧
    (byteInts xs).getD (4 * j + 2) 0 = (xs.getD j U0).i / 256 % 256 ∧ (byteInts xs).getD (4 * j + 3) 0 = (xs.getD j U0).i % 256 := by
  induction xs generalizing j with
  | nil => simp at h
  | cons u xs ih =>
    have e : byteInts (u :: xs) = hdB u.k u.act :: u.i / 65536 % 256 :: u.i / 256 % 256 :: u.i % 256 :: byteInts xs := by simp [byteInts, U.ints]
    rw [e]
    cases j with
    | zero => simp
    | succ j =>
      have := ih j (by simpa using h)
      simp only [show 4 * (j + 1) = 4 * j + 1 + 1 + 1 + 1 by omega, show 4 * j + 1 + 1 + 1 + 1 + 1 = (4 * j + 1) + 1 + 1 + 1 + 1 by omega, show 4 * j + 1 + 1 + 1 + 1 + 2 = (4 * j + 2) + 1 + 1 + 1 + 1 by omega, show 4 * j + 1 + 1 + 1 + 1 + 3 = (4 * j + 3) + 1 + 1 + 1 + 1 by omega, List.getD_cons_succ]
      exact this

theorem getD_left (l m : List Int) (k : Nat) (h : k < l.length) : (l ++ m).getD k 0 = l.getD k 0 := by
  simp [List.getD, List.getElem?_append_left h]
theorem getD_right (l m : List Int) (n k : Nat) (h : l.length = n) : (l ++ m).getD (n + k) 0 = m.getD k 0 := by
  subst h
  simp [List.getD, List.getElem?_append_right (Nat.le_add_right _ _)]

/-- block b holds the bytes of xs -/
structure Bytes (w : World) (b : Nat) (xs : List U) : Prop where
  lt : b < w.heap.size
  cell : ∀ j, j < 4 * xs.length → w.cell? ⟨b, j, none⟩ = some (.int .u8 ((byteInts xs).getD j 0))

theorem Bytes.below {w w' : World} {b : Nat} {xs : List U} (h : Bytes w b xs) (hb : Below w.heap.size w w') : Bytes w' b xs :=
  ⟨Nat.lt_of_lt_of_le h.lt hb.size, fun j hj => (hb.cell (by exact h.lt)).trans (h.cell j hj)⟩

theorem toUpd_n (ao : Option Addr) (cap n : Nat) (w : World) (xs : List U) (hx : xs.length = n) (hn : n ≤ 32768) (hl : LiesAny w ao xs) :
    Calls Try.prog 7 #[.slice ao n cap] w fun e w' => e = .returned (.slice (some ⟨w.heap.size, 0, none⟩) n n) ∧ Below w.heap.size w w' ∧ Lies w' w.heap.size 0 xs ∧ w.heap.size < w'.heap.size := by
  subst hx
  refine (toUpd_any ao cap w xs hn hl).mono ?_
  rintro e w' ⟨rfl, hown, hb⟩
  exact ⟨rfl, hb, lies_of_owned rfl hown, (hown.lt _ rfl).2⟩

theorem args_n (g n : Nat) (w : World) (xs : List U) (hx : xs.length = n) (hn : n ≤ 32768) (hl : Lies w g 0 xs) (hg : g < w.heap.size) :
    Calls Try.prog 6 #[.slice (some ⟨g, 0, none⟩) n n] w fun e w' => e = .returned (.slice (some ⟨w.heap.size, 0, none⟩) (4 * n) (4 * n)) ∧ Below w.heap.size w w' ∧ Bytes w' w.heap.size xs := by
  subst hx
  refine (args_any g xs w hn hl hg).mono ?_
  rintro e w' ⟨rfl, hown, hb⟩
  refine ⟨rfl, hb, (hown.lt _ rfl).2, fun j hj => ?_⟩
  rw [hown.cellAt j (by omega), bytesOf_ints]
  have : j < (byteInts xs).length := by rw [byteInts_length]; exact hj
  simp [this]
end Go.Proofs.Qxb6628235a
