import Derived.Test.Qxb6628271aDot
import Derived.BigQuiet
import Derived.Deep.RegionHeld3
import Derived.Maps.AppendAt
import Derived.Deep.AppendLies
namespace Go.Proofs.Qxb6628271a
open Go.RowKit

/-- a row of entries: the two cells of each -/
structure Lies (w : World) (b off : Nat) (xs : List E) : Prop where
  c0 : ∀ j, j < xs.length → w.cell? ⟨b, off + j * 2, none⟩ = some (.string (xs.getD j U0).name)
  c1 : ∀ j, j < xs.length → w.cell? ⟨b, off + j * 2 + 1, none⟩ = some (.string (xs.getD j U0).desc)

def LiesAny (w : World) (ao : Option Addr) (xs : List E) : Prop := xs = [] ∨ ∃ b off, ao = some ⟨b, off, none⟩ ∧ b < w.heap.size ∧ Lies w b off xs

/-- every string is as long as a string can be -/
def Short (xs : List E) : Prop := ∀ j, j < xs.length → (xs.getD j U0).name.size ≤ maxLen ∧ (xs.getD j U0).desc.size ≤ maxLen

theorem Lies.below {w w' : World} {b off : Nat} {xs : List E} (h : Lies w b off xs) (hb : Below w.heap.size w w') (hlt : b < w.heap.size) : Lies w' b off xs :=
  ⟨fun j hj => (hb.cell (by exact hlt)).trans (h.c0 j hj), fun j hj => (hb.cell (by exact hlt)).trans (h.c1 j hj)⟩

theorem LiesAny.below {w w' : World} {ao : Option Addr} {xs : List E} (h : LiesAny w ao xs) (hb : Below w.heap.size w w') : LiesAny w' ao xs := by
  rcases h with h | ⟨b, off, h1, h2, h3⟩
  · exact .inl h
  · exact .inr ⟨b, off, h1, Nat.lt_of_lt_of_le h2 hb.size, h3.below hb h2⟩

def Dotted (xs : List E) : Prop := ∀ j, j < xs.length → 0 ≤ dot (xs.getD j U0).name

/-- it answers a bool; where that is true, D; nothing old has turned -/
def Says (D : Prop) (w : World) (e : Ending) (w' : World) : Prop := ∃ r : Bool, e = .returned (.bool r) ∧ (r = true → D) ∧ Below w.heap.size w w'

set_option maxHeartbeats 400000 in
theorem allDotted_some (b off cap n : Nat) (w : World) (xs : List E) (hn : n = xs.length) (hm : n ≤ 4096) (hsh : Short xs) (hl : Lies w b off xs) :
    Calls Try.prog 7 #[.slice (some ⟨b, off, none⟩) n cap] w fun e w' => Says (Dotted xs) w e w' := by
  have HN : Hid (n = xs.length) := hn
  clear hn
  go_enter Try.func7, Try.ntmps7
  go_wp2
  go_loop [3] (fun i => ∃ k : Nat, k ≤ n ∧ i = .int .i64 k ∧ Hid (∀ j, j < k → 0 ≤ dot (xs.getD j U0).name)) (fun i => n - (intOf i).toNat)
  case atStart => exact ⟨0, Nat.zero_le _, rfl, fun j hj => by omega⟩
  case round =>
    obtain ⟨k, hk, rfl, HD⟩ := hrel
    by_cases hlt : k < n
    · have e0 := hl.c0 k (by rw [← HN.out]; exact hlt)
      have hs0 := (hsh k (by rw [← HN.out]; exact hlt)).1
      obtain ⟨u, hu⟩ : ∃ u, u = xs.getD k U0 := ⟨_, rfl⟩
      rw [← hu] at e0 hs0
      have HU : Hid (u = xs.getD k U0) := hu
      clear hu
      have hr := dot_range u.name
      by_cases hd : dot u.name < 0
      · go_wp2_with (go_at_call 10; refine (lastDot_any _ _ hs0).mono ?_; rintro e w' ⟨rfl, rfl⟩)
        go_ret
        exact ⟨false, rfl, fun h => (by cases h), Below.refl _ _⟩
      · have hd' : 0 ≤ dot u.name := by omega
        go_wp2_with (go_at_call 10; refine (lastDot_any _ _ hs0).mono ?_; rintro e w' ⟨rfl, rfl⟩)
        go_round
        case rel =>
          refine ⟨k + 1, by omega, by go_num, fun j hj => ?_⟩
          by_cases hjk : j = k
          · subst hjk; rw [← HU.out]; exact hd'
          · exact HD.out j (by omega)
        case measure => simp [intOf]; omega
    · go_wp2
      go_ret
      exact ⟨true, rfl, fun _ j hj => HD.out j (by rw [← HN.out] at hj; omega), Below.refl _ _⟩

set_option maxHeartbeats 400000 in
theorem within_some (b off cap n : Nat) (w : World) (xs : List E) (hn : n = xs.length) (hm : n ≤ 4096) (hl : Lies w b off xs) :
    Calls Try.prog 6 #[.slice (some ⟨b, off, none⟩) n cap] w fun e w' => Says True w e w' := by
  have HN : Hid (n = xs.length) := hn
  clear hn
  go_enter Try.func6, Try.ntmps6
  go_wp2
  go_loopw [3, 4] (fun t i wr => ∃ (k : Nat) (q : Int), k ≤ n ∧ i = .int .i64 k ∧ t = .int .i64 q ∧ ∃ m, wr = w.drewN m) (fun _ i _ => n - (intOf i).toNat)
  case atStart => exact ⟨0, 0, Nat.zero_le _, rfl, rfl, 0, rfl⟩
  case round =>
    obtain ⟨k, q, hk, rfl, rfl, m, rfl⟩ := hrel
    by_cases hlt : k < n
    · have e0 := hl.c0 k (by rw [← HN.out]; exact hlt)
      have e1 := hl.c1 k (by rw [← HN.out]; exact hlt)
      generalize xs.getD k U0 = u at *
      go_wp2
      go_quiet (fail)
      go_wp2
      · go_ret
        exact ⟨false, rfl, fun _ => trivial, below_drewN (Below.refl _ _) _⟩
      · go_roundw
        case rel => exact ⟨k + 1, _, by omega, by go_num, rfl, _, rfl⟩
        case measure => simp [intOf]; omega
    · go_wp2
      go_ret
      exact ⟨true, rfl, fun _ => trivial, below_drewN (Below.refl _ _) _⟩

set_option maxHeartbeats 1000000 in
theorem zz5_some (b off cap n : Nat) (w : World) (xs : List E) (hn : n = xs.length) (hl : Lies w b off xs) (hsm : n ≤ 1048576) :
    Calls Try.prog 5 #[.slice (some ⟨b, off, none⟩) n cap] w fun e w' => Says True w e w' := by
  have HN : Hid (n = xs.length) := hn
  clear hn
  go_enter Try.func5, Try.ntmps5
  go_wp2
  go_loop [3, 4] (fun t i => ∃ (k : Nat) (q : Int), k ≤ n ∧ i = .int .i64 k ∧ t = .int .i64 q) (fun _ i => n - (intOf i).toNat)
  case atStart => exact ⟨0, _, Nat.zero_le _, rfl, rfl⟩
  case round =>
    obtain ⟨k, q, hk, rfl, rfl⟩ := hrel
    by_cases hlt : k < n
    · have e0 := hl.c0 k (by rw [← HN.out]; exact hlt)
      have e1 := hl.c1 k (by rw [← HN.out]; exact hlt)
      generalize xs.getD k U0 = u at *
      go_wp2
      all_goals first
        | (go_ret; exact ⟨false, rfl, fun _ => trivial, Below.refl _ _⟩)
        | (go_round; (case rel => exact ⟨k + 1, _, by omega, by go_num, rfl⟩); (case measure => simp [intOf]; omega))
    · go_wp2
      go_ret
      exact ⟨true, rfl, fun _ => trivial, Below.refl _ _⟩

theorem zz5_big (ao : Option Addr) (cap n : Nat) (w : World) (hm : n ≤ 9223372036854775807) (hbig : 1048576 < n) :
    Calls Try.prog 5 #[.slice ao n cap] w fun e w' => Says True w e w' := by
  go_enter Try.func5, Try.ntmps5
  go_wp2
  go_ret
  exact ⟨false, rfl, fun _ => trivial, Below.refl _ _⟩

theorem zz5_none (ao : Option Addr) (cap : Nat) (w : World) : Calls Try.prog 5 #[.slice ao 0 cap] w fun e w' => Says True w e w' := by
  go_enter Try.func5, Try.ntmps5
  go_wp2
  refine wp_loop_rounds 1 ?_
  rw [rounds_succ]
  go_wp2
  go_ret
  exact ⟨true, rfl, fun _ => trivial, Below.refl _ _⟩

theorem within_none (ao : Option Addr) (cap : Nat) (w : World) : Calls Try.prog 6 #[.slice ao 0 cap] w fun e w' => Says True w e w' := by
  go_enter Try.func6, Try.ntmps6
  go_wp2
  refine wp_loop_rounds 1 ?_
  rw [rounds_succ]
  go_wp2
  go_ret
  exact ⟨true, rfl, fun _ => trivial, Below.refl _ _⟩

theorem allDotted_none (ao : Option Addr) (cap : Nat) (w : World) : Calls Try.prog 7 #[.slice ao 0 cap] w fun e w' => Says (Dotted []) w e w' := by
  go_enter Try.func7, Try.ntmps7
  go_wp2
  refine wp_loop_rounds 1 ?_
  rw [rounds_succ]
  go_wp2
  go_ret
  exact ⟨true, rfl, fun _ j hj => by simp at hj, Below.refl _ _⟩

/-! ### the three tests, of whatever slice of entries -/
theorem zz5_any (ao : Option Addr) (cap n : Nat) (w : World) (xs : List E) (hn : n = xs.length) (hm : n ≤ 9223372036854775807) (hl : LiesAny w ao xs) :
    Calls Try.prog 5 #[.slice ao n cap] w fun e w' => Says True w e w' := by
  by_cases hb : 1048576 < n
  · exact zz5_big ao cap n w hm hb
  · rcases hl with rfl | ⟨b, off, rfl, _, hl⟩
    · subst hn; exact zz5_none ao cap w
    · exact zz5_some b off cap n w xs hn hl (by omega)
theorem within_any (ao : Option Addr) (cap n : Nat) (w : World) (xs : List E) (hn : n = xs.length) (hm : n ≤ 4096) (hl : LiesAny w ao xs) :
    Calls Try.prog 6 #[.slice ao n cap] w fun e w' => Says True w e w' := by
  rcases hl with rfl | ⟨b, off, rfl, _, hl⟩
  · subst hn; exact within_none ao cap w
  · exact within_some b off cap n w xs hn hm hl
theorem allDotted_any (ao : Option Addr) (cap n : Nat) (w : World) (xs : List E) (hn : n = xs.length) (hm : n ≤ 4096) (hsh : Short xs) (hl : LiesAny w ao xs) :
    Calls Try.prog 7 #[.slice ao n cap] w fun e w' => Says (Dotted xs) w e w' := by
  rcases hl with rfl | ⟨b, off, rfl, _, hl⟩
  · subst hn; exact allDotted_none ao cap w
  · exact allDotted_some b off cap n w xs hn hm hsh hl
end Go.Proofs.Qxb6628271a
