/-
  WHAT CheckBitfield DOES: nil or a new error; the old memory stays.
-/
import Derived.Test.Qxb6630540aFmtStop
import Derived.BigQuiet
namespace Go.Proofs.Qxb6630540aFmt
open Go.RowKit Go.Extern.Stop Go.Stop Go.Extern

theorem below_drewN (B : Nat) (w : World) (k : Nat) : Below B w (w.drewN k) := ⟨rfl, rfl, rfl, Nat.le_refl _, fun _ _ => rfl⟩

set_option maxHeartbeats 400000 in
theorem check_size (F : Interp) (p : Option Addr) (len cap : Nat) (n : Int) (w : World) (hF : F.answers w.tape) (hne : ¬ (len : Int) = bfb n) :
    Calls Tryf.prog 6 #[.slice p len cap, .int .i64 n] w fun e w' => (∃ k, e = .returned (.iface 34 (.pointer (some ⟨k, 0, none⟩)))) ∧ Below w.heap.size w w' := by
  have hb := bytes_c n
  go_enter Tryf.func6, Tryf.ntmps6
  go_wp2_with (first
    | (go_at_call 8; refine (bytes_c n _).mono ?_; rintro e w' ⟨rfl, rfl⟩)
    | (go_at_call 9; refine (errorf_c F (len : Int) n (bfb n) w.heap.size _ (by exact hF) (by go_simp) (by go_simp) (by go_simp)).mono ?_; rintro e w' ⟨rfl, hbl⟩))
  go_ret
  exact ⟨⟨_, rfl⟩, ((Below.refl _ w).alloc (Nat.le_refl _) _).trans (hbl.mono (by simp))⟩

set_option maxHeartbeats 400000 in
theorem check_even (p : Option Addr) (len cap : Nat) (n : Int) (w : World) (heq : bfb n = (len : Int)) (h8 : n.tmod 8 = 0) :
    Calls Tryf.prog 6 #[.slice p len cap, .int .i64 n] w fun e w' => e = .returned .nilIface ∧ Below w.heap.size w w' := by
  go_enter Tryf.func6, Tryf.ntmps6
  go_wp2_with (first
    | (go_at_call 8; refine (bytes_c n _).mono ?_; rintro e w' ⟨rfl, rfl⟩))
  all_goals go_region
  all_goals go_wp2
  go_ret
  exact ⟨rfl, (Below.refl _ w).drew⟩

set_option maxHeartbeats 400000 in
theorem check_odd0 (a : Addr) (len cap : Nat) (n k L : Int) (w : World) (heq : bfb n = (len : Int)) (h8 : n.tmod 8 = k) (hk : 0 < k) (hk8 : k < 8) (hk0 : ¬ k = 0) (hl : 0 < len) (hlb : len ≤ 1048576)
    (hc : w.cell? (a.add (len - 1)) = some (.int .u8 L)) (hz : bits .and .u8 L (255 / 2 ^ k.toNat) = 0) :
    Calls Tryf.prog 6 #[.slice (some a) len cap, .int .i64 n] w fun e w' => e = .returned .nilIface ∧ Below w.heap.size w w' := by
  go_enter Tryf.func6, Tryf.ntmps6
  go_wp2_with (first
    | (go_at_call 8; refine (bytes_c n _).mono ?_; rintro e w' ⟨rfl, rfl⟩))
  have hd : decide (k = 0) = false := by simp [hk0]
  have hw1 : IntKind.i64.wrap ((len : Int) - 1) = ((len - 1 : Nat) : Int) := by
    simp [IntKind.wrap, IntKind.bits, IntKind.signed]; omega
  have hlt : len - 1 < len := by omega
  have hltI : ((len - 1 : Nat) : Int) < (len : Int) := by omega
  go_quiet (fail)
  go_wp2
  go_ret
  exact ⟨rfl, below_drewN _ w _⟩

set_option maxHeartbeats 400000 in
theorem check_odd1 (a : Addr) (len cap : Nat) (n k L : Int) (w : World) (heq : bfb n = (len : Int)) (h8 : n.tmod 8 = k) (hk : 0 < k) (hk8 : k < 8) (hk0 : ¬ k = 0) (hl : 0 < len) (hlb : len ≤ 1048576)
    (hc : w.cell? (a.add (len - 1)) = some (.int .u8 L)) (hz : ¬ bits .and .u8 L (255 / 2 ^ k.toNat) = 0) :
    Calls Tryf.prog 6 #[.slice (some a) len cap, .int .i64 n] w fun e w' => (∃ k, e = .returned (.iface 34 (.pointer (some ⟨k, 0, none⟩)))) ∧ Below w.heap.size w w' := by
  go_enter Tryf.func6, Tryf.ntmps6
  go_wp2_with (first
    | (go_at_call 8; refine (bytes_c n _).mono ?_; rintro e w' ⟨rfl, rfl⟩))
  have hd : decide (k = 0) = false := by simp [hk0]
  have hw1 : IntKind.i64.wrap ((len : Int) - 1) = ((len - 1 : Nat) : Int) := by
    simp [IntKind.wrap, IntKind.bits, IntKind.signed]; omega
  have hlt : len - 1 < len := by omega
  have hltI : ((len - 1 : Nat) : Int) < (len : Int) := by omega
  have hd2 : (k != 0) = true := by simp [hk0]
  have hz2 : (bits .and .u8 L (255 / 2 ^ k.toNat) != 0) = true := by simp [hz]
  go_quiet (fail)
  go_wp2_with (first
    | (go_at_call 10; refine (new_c _ _).mono ?_; rintro e w' ⟨rfl, hbl⟩))
  go_ret
  exact ⟨⟨_, rfl⟩, (below_drewN _ w _).trans (hbl.mono (by simp))⟩

/-- Is it accepted? 'last' is the last byte. -/
def acc (len : Nat) (n last : Int) : Bool := decide (bfb n = (len : Int)) && (decide (n.tmod 8 = 0) || decide (bits .and .u8 last (255 / 2 ^ (n.tmod 8).toNat) = 0))

/-- nil, or a new error. -/
def ErrIs (v : Value) (b : Bool) : Prop := (b = true ∧ v = .nilIface) ∨ (b = false ∧ ∃ k, v = .iface 34 (.pointer (some ⟨k, 0, none⟩)))

theorem bfb_iff (len : Nat) (n : Int) (h0 : 0 ≤ n) (h1 : n < 9223372036854775808) (hl : len ≤ 1048576) : bfb n = (len : Int) ↔ 0 ≤ 8 * (len : Int) - n ∧ 8 * (len : Int) - n < 8 := by
  unfold bfb wrap64
  rw [Int.tdiv_eq_ediv, show Int.sign 8 = 1 from rfl]
  omega

theorem check_c (F : Interp) (p : Option Addr) (len cap : Nat) (n last : Int) (w : World) (hF : F.answers w.tape) (h0 : 0 ≤ n) (h1 : n < 9223372036854775808) (hl : len ≤ 1048576)
    (hc : 0 < len → ∃ a, p = some a ∧ w.cell? (a.add (len - 1)) = some (.int .u8 last)) :
    Calls Tryf.prog 6 #[.slice p len cap, .int .i64 n] w fun e w' => (∃ v, e = .returned v ∧ ErrIs v (acc len n last)) ∧ Below w.heap.size w w' := by
  by_cases hb : bfb n = (len : Int)
  · have ht : n.tmod 8 = n % 8 := by rw [Int.tmod_eq_emod_of_nonneg h0]
    by_cases h8 : n.tmod 8 = 0
    · refine (check_even p len cap n w hb h8).mono ?_
      rintro e w' ⟨rfl, hbl⟩
      exact ⟨⟨_, rfl, Or.inl ⟨by simp [acc, hb, h8], rfl⟩⟩, hbl⟩
    · have hh := (bfb_iff len n h0 h1 hl).1 hb
      obtain ⟨a, rfl, hca⟩ := hc (by omega)
      by_cases hz : bits .and .u8 last (255 / 2 ^ (n.tmod 8).toNat) = 0
      · refine (check_odd0 a len cap n (n.tmod 8) last w hb rfl (by omega) (by omega) h8 (by omega) hl hca hz).mono ?_
        rintro e w' ⟨rfl, hbl⟩
        exact ⟨⟨_, rfl, Or.inl ⟨by simp [acc, hb, hz], rfl⟩⟩, hbl⟩
      · refine (check_odd1 a len cap n (n.tmod 8) last w hb rfl (by omega) (by omega) h8 (by omega) hl hca hz).mono ?_
        rintro e w' ⟨⟨k, rfl⟩, hbl⟩
        exact ⟨⟨_, rfl, Or.inr ⟨by simp [acc, hb, hz, h8], k, rfl⟩⟩, hbl⟩
  · refine (check_size F p len cap n w hF (fun h => hb h.symm)).mono ?_
    rintro e w' ⟨⟨k, rfl⟩, hbl⟩
    exact ⟨⟨_, rfl, Or.inr ⟨by simp [acc, hb], k, rfl⟩⟩, hbl⟩

end Go.Proofs.Qxb6630540aFmt
