import Derived.Test.Qxb6630540aFmtM4b
import Derived.Test.Qxb6630540aFmtM4c
import Derived.ProofKit
import Derived.ChangeSlices
import Derived.ChangeOld
import Derived.OpenShut
import Derived.ChangeSame
import Derived.JoinedOf
import Derived.Carry
import Derived.Stop.JoinedAt
import Derived.Stop.JoinedTold
import Derived.SevenToldRow
namespace Go.Proofs.Qxb6630540aFmt.toggle
open Go.ChangeShapes Go.WideShapes Go.ChangeAt Go.RowKit Go.Kit
open Go.Extern.Stop Go.Stop Go.Extern
set_option linter.unusedVariables false

theorem own : ownKnob Tryf.prog.godebug = none := by kernel_rfl
theorem laidOut : laidOutB Tryf.pinned.checked.prog = true := by kernel_rfl
theorem cells5 : Tryf.prog.cellsOf 5 = 1 := by kernel_rfl
theorem stops : Tryf.pinned.checked.prog.stops = ["fmt.errorf"] := by kernel_rfl
theorem stopKnobs : Tryf.pinned.checked.prog.stopKnobs = [] := by kernel_rfl
theorem quiet (os : Os) : Stop.quiet Tryf.pinned.checked.prog os := by
  intro k hk
  rw [stopKnobs] at hk
  cases hk

/-- What the slice holds: nil, or bytes. -/
theorem open_bytes {H : Type} {enc : TypeId × Value → H} {w : World} {base : Nat} {spare : Nat → Bool} {held : Bool} {fuel : Nat} {ao : Option Addr} {len cap : Nat} {x : DataW H × List MemPlace}
    (h : DataW.trod enc Tryf.prog w base spare held fuel 22 [.slice ao len cap] = some x) :
    (ao = none ∧ len = 0 ∧ cap = 0) ∨ ∃ (a : Addr) (f : Nat → Int), ao = some a ∧ (∀ j, j < len → w.cell? (a.add j) = some (.int .u8 (f j))) ∧ ∀ j, 0 ≤ f j ∧ f j < 256 := by
  rcases open_ints Tryf.underlying22 Tryf.underlying5 cells5 h with ⟨hcs, hx⟩ | ⟨a, len', cap', zs, hcs, hb, hl, hm, hz, hx, hcell, hwz⟩
  · simp at hcs
    exact Or.inl hcs
  · simp at hcs
    obtain ⟨rfl, rfl, rfl⟩ := hcs
    refine Or.inr ⟨a, fun j => zs.getD j 0, rfl, fun j hj => hcell j (by rw [hz]; split <;> omega), fun j => ?_⟩
    by_cases hj : j < zs.length
    · have hw := hwz (zs.getD j 0) (by simp [List.getD, hj])
      simp [Lit.wf, IntKind.min, IntKind.max, IntKind.signed, IntKind.bits] at hw
      simp [List.getD, hj] at hw ⊢
      omega
    · simp [List.getD, List.getElem?_eq_none (by omega : zs.length ≤ j)]

theorem walk (F : Interp) (ao : Option Addr) (len cap : Nat) (n p : Int) (w : World) (hF : F.answers w.tape) (h1 : n < 9223372036854775808)
    (h : (ao = none ∧ len = 0 ∧ cap = 0) ∨ ∃ (a : Addr) (f : Nat → Int), ao = some a ∧ (∀ j, j < len → w.cell? (a.add j) = some (.int .u8 (f j))) ∧ ∀ j, 0 ≤ f j ∧ f j < 256) :
    Calls Tryf.prog 4 #[.slice ao len cap, .int .i64 n, .int .i64 p] w fun e w' => e = .returned (.bool true) ∧ Below w.heap.size w w' := by
  by_cases hl : len ≤ 1048576
  · by_cases hn : n < 0
    · refine (tog_neg ao len cap n p w hl hn).mono ?_
      rintro e w' ⟨rfl, rfl⟩
      exact ⟨rfl, Below.refl _ _⟩
    · rcases h with ⟨rfl, rfl, rfl⟩ | ⟨a, f, rfl, hc, hf⟩
      · refine (tog_nil n p w (by omega)).mono ?_
        rintro e w' ⟨rfl, rfl⟩
        exact ⟨rfl, Below.refl _ _⟩
      · by_cases hp0 : p < 0
        · exact tog_out1 F a len cap f n p w hF hl (by omega) h1 hc hf hp0
        · by_cases hp1 : p < 8 * (len : Int)
          · by_cases hs : n ≤ 8 * (len : Int)
            · by_cases hs1 : 8 * (len : Int) - n < 8
              · exact tog_good F a len cap f n p w hF hl (by omega) h1 hc hf (by omega) hp1 hs hs1
              · exact tog_bad2 F a len cap f n p w hF hl (by omega) h1 hc hf (by omega) hp1 hs (by omega)
            · exact tog_bad1 F a len cap f n p w hF hl (by omega) h1 hc hf (by omega) hp1 (by omega)
          · exact tog_out2 F a len cap f n p w hF hl (by omega) h1 hc hf (by omega) (by omega)
  · refine (tog_big ao len cap n p w hl).mono ?_
    rintro e w' ⟨rfl, rfl⟩
    exact ⟨rfl, Below.refl _ _⟩

set_option maxRecDepth 100000 in
theorem lifted (os : Os) (started : os.Started) (H : Type) (enc : TypeId × Value → H) :
    ReturnsInTold none {} Tryf.checked os 4 .any Input.okWide ((OpenSpec.ofChange Rows.fnCheckBitfieldToggleOneBitSpec).preRow enc Tryf.prog Tryf.f4 [] false []) (fun F => ((OpenSpec.ofChange Rows.fnCheckBitfieldToggleOneBitSpec).at F).post enc Tryf.prog Tryf.f4 false true false false) (aloneAtReturn Tryf.prog) nothingAlways := by
  refine returnsInTold_of_row (C := Tryf.checked) (s := OpenSpec.ofChange Rows.fnCheckBitfieldToggleOneBitSpec) (by kernel_rfl) own started (by kernel_rfl) Tryf.func4
    (OpenSpec.witness_stopped (enc := enc) (C := Tryf.checked) false ⟨#[], #[.slice none 0 0, .int .i64 0, .int .i64 0], []⟩ 8 (by kernel_rfl) (by kernel_rfl) (by kernel_rfl) (by kernel_rfl)) ?_
  intro F W base args ds gs before _ hF hval0 hW _ _ hsz _ _
  have hval : ∀ (j : Nat) t v, Tryf.f4.params[j]? = some t → args[j]? = some v → Value.okWide Tryf.prog W .any base t v := hval0
  have hW' := hW
  obtain ⟨p, q, hA0, hV, rfl, hfz, hnd⟩ := hW
  have hA : DataW.TrodAll enc Tryf.prog W 0 (fun _ => true) true Tryf.f4.params.toList args.toList ds p := hA0
  rw [Tryf.params4] at hA hval
  obtain ⟨v0, vs0, d0, ds0, p0, q0, hargs, rfl, rfl, h0, r0⟩ := trodAll_cons hA
  obtain ⟨v1, vs1, d1, ds1, p1, q1, rfl, rfl, rfl, h1, r1⟩ := trodAll_cons r0
  obtain ⟨v2, vs2, d2, ds2, p2, q2, rfl, rfl, rfl, h2, r2⟩ := trodAll_cons r1
  obtain ⟨rfl, rfl, rfl⟩ := trodAll_nil r2
  obtain rfl : args = #[v0, v1, v2] := by cases args; simp_all
  obtain ⟨rfl, rfl⟩ := trodVars_none hV
  obtain ⟨a0, len0, cap0, rfl⟩ := okWide_slice Tryf.underlying22 (hval 0 22 v0 rfl rfl)
  obtain ⟨n, rfl, rfl, rfl, wn⟩ := open_int Tryf.underlying3 (hval 1 3 v1 rfl rfl) h1
  obtain ⟨pp, rfl, rfl, rfl, wp⟩ := open_int Tryf.underlying3 (hval 2 3 v2 rfl rfl) h2
  have k0 := h0
  have lt0 : ∀ x ∈ p0, x.block < W.heap.size := by obtain ⟨m, hm⟩ := k0; exact DataW.trod_lt m _ _ _ hm
  have hb : (a0 = none ∧ len0 = 0 ∧ cap0 = 0) ∨ ∃ (a : Addr) (f : Nat → Int), a0 = some a ∧ (∀ j, j < len0 → W.cell? (a.add j) = some (.int .u8 (f j))) ∧ ∀ j, 0 ≤ f j ∧ f j < 256 := by
    obtain ⟨fuel, hf⟩ := h0
    exact open_bytes (by simpa [Value.cells] using hf)
  have hn1 : n < 9223372036854775808 := by
    have := wn
    simp [Lit.wf, IntKind.min, IntKind.max, IntKind.signed, IntKind.bits] at this
    omega
  clear hA0 hval0
  refine (walk F.told a0 len0 cap0 n pp W hF hn1 hb).mono fun e W' ⟨he, bel⟩ => ?_
  subst he
  exact ⟨_, rfl, _, _, _, [], _, [], hW', trodAll_mk1 (shut_bool Tryf.underlying4 _), (trodAll_cons_mk (Below.trod laidOut (by kernel_rfl) (of_decide_eq_true (by kernel_rfl)) k0 bel lt0) (trodAll_cons_mk (shut_int Tryf.underlying3 wn) (trodAll_cons_mk (shut_int Tryf.underlying3 wp) trodAll_mk0))), rfl, bel.frame _, fun h => by cases h⟩

theorem over : Rows.FnCheckBitfieldToggleOneBitToldSaid :=
  Claim7.holds_of_told_any 4 Tryf.f4 "fmt.errorf" [] [] _ _ _ (by kernel_rfl) rfl rfl rfl laidOut (by kernel_rfl) rfl ⟨rfl, rfl, rfl, rfl, rfl, rfl, rfl⟩ rfl rfl (by kernel_rfl) (by kernel_rfl) Tryf.func4 (by kernel_rfl)
    (of_decide_eq_true (by kernel_rfl)) (of_decide_eq_true (by kernel_rfl)) stops.symm rfl stopKnobs.symm (by kernel_rfl)
    (by kernel_rfl) (by kernel_rfl) (by kernel_rfl) (by kernel_rfl) (by kernel_rfl) (by kernel_rfl) (by kernel_rfl) (by kernel_rfl) (by kernel_rfl) rfl (by kernel_rfl) rfl rfl
    rfl rfl
    rfl (by kernel_rfl) (by kernel_rfl) (by kernel_rfl) (by decide) (by kernel_rfl)
    (OpenClaim.moreEntering_of (by kernel_rfl) (by kernel_rfl) (by kernel_rfl) (by kernel_rfl) (by kernel_rfl) (by kernel_rfl) (by kernel_rfl) (by kernel_rfl) (by kernel_rfl) (by kernel_rfl))
    ⟨_, WideRow.started_initial, quiet _⟩
    (fun os started _ H enc _ => lifted os started H enc)
end Go.Proofs.Qxb6630540aFmt.toggle

namespace Go.Proofs.Qxb6630540aFmt
/-- THE STATEMENT -/
theorem toggle_proved : Rows.FnCheckBitfieldToggleOneBitToldSaid := toggle.over
end Go.Proofs.Qxb6630540aFmt
