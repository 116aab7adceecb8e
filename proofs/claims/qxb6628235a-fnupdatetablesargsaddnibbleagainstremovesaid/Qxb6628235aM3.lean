import Derived.Test.Qxb6628235aW7
import Derived.Test.Qxb6628235aBits
namespace Go.Proofs.Qxb6628235a
open Go.RowKit

theorem Try.info29 : (Try.prog.info? 29).map (fun i => (i.zero, i.size, i.bytes)) = some (some (.agg #[.int .i64 0, .int .i64 0, .bool false, .int .i64 0]), 4, 32) := by kernel_rfl

/-- more than the law looks at: it says yes at once -/
theorem m3_big (a0 a1 : Option Addr) (n0 n1 c0 c1 : Nat) (w : World) (hm0 : n0 ≤ maxLen) (hm1 : n1 ≤ maxLen) (hbig : 32768 < n0 + n1) :
    Calls Try.prog 3 #[.slice a0 n0 c0, .slice a1 n1 c1] w fun e w' => e = .returned (.bool true) ∧ Below w.heap.size w w' := by
  unfold maxLen at hm0 hm1
  go_enter Try.func3, Try.ntmps3
  go_wp2_with (go_in)
  all_goals go_ret
  all_goals exact ⟨rfl, Below.refl _ _⟩

theorem owns_below {w w' : World} {base : Nat} {e : TypeId} {size : Nat} {v : Value} {n : Nat} {xs : List Value} (h : w.ownsRow base e size v n xs) (hb : Below w.heap.size w w') : w'.ownsRow base e size v n xs := by
  refine ⟨h.1, ?_⟩
  rcases h.2 with hn | ⟨g, cap, cur, rfl, hg, hgg, rest⟩
  · exact .inl hn
  · refine .inr ⟨g, cap, cur, rfl, hg, ?_, rest⟩
    rw [hb.block g (Array.getElem?_eq_some_iff.1 hgg).1]
    exact hgg

theorem Lies.below {w w' : World} {b off : Nat} {xs : List U} (h : Lies w b off xs) (hb : Below w.heap.size w w') (hlt : b < w.heap.size) : Lies w' b off xs :=
  ⟨fun j hj => (hb.cell (by exact hlt)).trans (h.c0 j hj), fun j hj => (hb.cell (by exact hlt)).trans (h.c1 j hj), fun j hj => (hb.cell (by exact hlt)).trans (h.c2 j hj), fun j hj => (hb.cell (by exact hlt)).trans (h.c3 j hj)⟩

theorem LiesAny.below {w w' : World} {ao : Option Addr} {xs : List U} (h : LiesAny w ao xs) (hb : Below w.heap.size w w') : LiesAny w' ao xs := by
  rcases h with h | ⟨b, off, h1, h2, h3⟩
  · exact .inl h
  · exact .inr ⟨b, off, h1, Nat.lt_of_lt_of_le h2 hb.size, h3.below hb h2⟩

theorem cells_of_lies {w : World} {b off : Nat} {xs : List U} (h : Lies w b off xs) : ∀ j u, (cellsOf xs)[j]? = some u → w.cell? ((⟨b, off, none⟩ : Addr).add j) = some u := by
  intro j u hu
  have hj : j < xs.length * 4 := by
    have := (List.getElem?_eq_some_iff.1 hu).1
    rwa [cellsOf_length] at this
  have hq : j / 4 < xs.length := by omega
  have hat := cellsOf_at xs (j / 4) hq
  rw [Addr.add_lit]
  rcases (show j = j / 4 * 4 ∨ j = j / 4 * 4 + 1 ∨ j = j / 4 * 4 + 2 ∨ j = j / 4 * 4 + 3 by omega) with e | e | e | e
  · rw [e] at hu ⊢; rw [h.c0 _ hq, ← hat.1, hu]
  · rw [e] at hu ⊢; rw [← Nat.add_assoc, h.c1 _ hq, ← hat.2.1, hu]
  · rw [e] at hu ⊢; rw [← Nat.add_assoc, h.c2 _ hq, ← hat.2.2.1, hu]
  · rw [e] at hu ⊢; rw [← Nat.add_assoc, h.c3 _ hq, ← hat.2.2.2, hu]

theorem cells_of_any {w : World} {ao : Option Addr} {xs : List U} (h : LiesAny w ao xs) : ∀ ad, ao = some ad → ∀ j u, (cellsOf xs)[j]? = some u → w.cell? (ad.add j) = some u := by
  intro ad had
  rcases h with rfl | ⟨b, off, h1, _, h3⟩
  · intro j u hu; simp [cellsOf] at hu
  · rw [h1] at had; cases had; exact cells_of_lies h3

theorem cellsOf_one (xs : List U) : ∀ u ∈ cellsOf xs, u.oneCell' = true := by
  intro u hu
  simp only [cellsOf, List.mem_flatMap, U.cells] at hu
  obtain ⟨x, _, hx⟩ := hu
  simp only [List.mem_cons, List.not_mem_nil, or_false] at hx
  rcases hx with rfl | rfl | rfl | rfl <;> rfl
end Go.Proofs.Qxb6628235a
