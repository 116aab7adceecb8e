/-
  THE PLAIN LAWS ON BYTES, and small facts on rows of one cell.
-/
import Derived.Test.Qxb6630540aFmtCheck
import Derived.Laws.CopyOwn
namespace Go.Proofs.Qxb6630540aFmt
open Go.RowKit Go.Extern.Stop Go.Stop Go.Extern

/-- The rest of the clearing loop: 'T' rounds are left. -/
def fin : Nat → Int → Bool → Int × Bool
  | 0, C, b => (C, b)
  | T + 1, C, b => if bits .and .u8 C (128 / 2 ^ (7 - T)) = 0 then fin T C b else fin T (bits .andNot .u8 C (128 / 2 ^ (7 - T))) true

theorem fin_fact : ∀ S : Fin 8, ∀ L : Fin 256, bits .and .u8 (fin S.1 (L.1 : Int) false).1 (255 / 2 ^ (8 - S.1)) = 0 ∧ (fin S.1 (L.1 : Int) false).2 = !decide (bits .and .u8 (L.1 : Int) (255 / 2 ^ (8 - S.1)) = 0) := by decide +kernel

theorem fin_clear (S : Nat) (hS : S < 8) (L : Int) (h0 : 0 ≤ L) (h1 : L < 256) : bits .and .u8 (fin S L false).1 (255 / 2 ^ (8 - S)) = 0 := by
  obtain ⟨l, rfl⟩ := Int.eq_ofNat_of_zero_le h0
  exact (fin_fact ⟨S, hS⟩ ⟨l, by omega⟩).1
theorem fin_set (S : Nat) (hS : S < 8) (L : Int) (h0 : 0 ≤ L) (h1 : L < 256) : (fin S L false).2 = !decide (bits .and .u8 L (255 / 2 ^ (8 - S)) = 0) := by
  obtain ⟨l, rfl⟩ := Int.eq_ofNat_of_zero_le h0
  exact (fin_fact ⟨S, hS⟩ ⟨l, by omega⟩).2

/-- The rest of the looking loop of the second law: every spare bit but bit 'q' (counted from the low end). -/
def oth : Nat → Int → Nat → Bool → Bool
  | 0, _, _, b => b
  | T + 1, L, q, b => if T = q then oth T L q b else if bits .and .u8 L (128 / 2 ^ (7 - T)) = 0 then oth T L q b else oth T L q false

theorem oth_fact : ∀ S : Fin 8, ∀ q : Fin 8, ∀ L : Fin 256, q.1 < S.1 →
    (let a1 := decide (bits .and .u8 (L.1 : Int) (255 / 2 ^ (8 - S.1)) = 0); let a2 := decide (bits .and .u8 (bits .xor .u8 (L.1 : Int) (128 / 2 ^ (7 - q.1))) (255 / 2 ^ (8 - S.1)) = 0); (a1 && a2) = false ∧ (a1 != a2) = oth S.1 (L.1 : Int) q.1 true) := by decide +kernel
theorem flip_fact : ∀ S : Fin 8, ∀ q : Fin 8, ∀ L : Fin 256, S.1 ≤ q.1 → bits .and .u8 (bits .xor .u8 (L.1 : Int) (128 / 2 ^ (7 - q.1))) (255 / 2 ^ (8 - S.1)) = bits .and .u8 (L.1 : Int) (255 / 2 ^ (8 - S.1)) := by decide +kernel

theorem own_row {w : World} {base g n : Nat} {e : TypeId} {xs : List Value} (h : w.ownsRow base e 1 (.slice (some ⟨g, 0, none⟩) n n) n xs) : w.heap[g]? = some (.cells xs.toArray e (0, 0)) := by
  obtain ⟨h1, h2⟩ := h
  rcases h2 with ⟨hv, _⟩ | ⟨g', cap, cur, hv, hb, hg, hn, hm, hs, ht⟩
  · cases hv
  · simp only [Value.slice.injEq, Option.some.injEq, Addr.mk.injEq] at hv
    obtain ⟨⟨rfl, _, _⟩, _, rfl⟩ := hv
    rw [hg]
    have : cur.toList.take (n * 1) = cur.toList := List.take_of_length_le (by simp [hs])
    rw [this] at ht
    rw [← ht]

theorem row_own {w : World} {base g n : Nat} {e : TypeId} {xs : List Value} (hb : base ≤ g) (hn : xs.length = n) (hm : n ≤ maxLen) (h : w.heap[g]? = some (.cells xs.toArray e (0, 0))) : w.ownsRow base e 1 (.slice (some ⟨g, 0, none⟩) n n) n xs :=
  ⟨by omega, Or.inr ⟨g, n, xs.toArray, rfl, hb, h, Nat.le_refl _, hm, by simp [hn], by simp [← hn]⟩⟩

end Go.Proofs.Qxb6630540aFmt
