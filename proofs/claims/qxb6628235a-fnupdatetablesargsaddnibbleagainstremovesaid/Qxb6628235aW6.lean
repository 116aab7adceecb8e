import Derived.Test.Qxb6628235aW10
import Derived.Deep.AppendLies
namespace Go.Proofs.Qxb6628235a
open Go.RowKit

/-- append WITHIN THE CAPACITY, as one step of a region that draws -/
theorem step_append_fits {P : Program} {ops : Array Oper} {o : Oper} {a : Act} {w : World} {K : Act → World → Prop} {Q : Exit → Act → World → Prop} {E : Prop}
    (hg : o.guard = none) (s x : Operand) (t : TypeId) (hop : o.op = Op.call { callee := Callee.builtin Builtin.append, args := #[s, x], argTypes := #[t, t] })
    (base : Nat) (e : TypeId) (i : TypeInfo) (size : Nat) (h1 : P.underlying t = some (.slice e)) (h2 : P.info? e = some i) (h4 : i.size = size)
    (g k cap : Nat) (xs : List Value) (hs : a.eval s = .slice (some ⟨g, 0, none⟩) k cap) (hown : w.ownsRow base e size (.slice (some ⟨g, 0, none⟩) k cap) k xs) (ad : Addr) (m c : Nat) (news : List Value) (hx : a.eval x = .slice (some ad) m c) (hn : news.length = m * size)
    (hc : ∀ j u, news[j]? = some u → w.cell? (ad.add j) = some u) (h1c : ∀ u ∈ news, u.oneCell' = true) (b1 : k + m ≤ cap)
    (hK : ∀ w', w'.ownsRow base e size (.slice (some ⟨g, 0, none⟩) (k + m) cap) (k + m) (xs ++ news) → w.grownBy w' (some g) → K (a.put o.dst (.slice (some ⟨g, 0, none⟩) (k + m) cap)) w') :
    if Region.wanted o (yielded ops a.tmps) = true then Oper.wp P o a w K Q else E := by
  have hw : Region.wanted o (yielded ops a.tmps) = true := by simp [Region.wanted, hg]
  rw [if_pos hw]
  obtain ⟨w', hrun, r1, r2⟩ := run_append_fits (P := P) w base t o.type e i size h1 h2 h4 g k cap xs hown ad m c news hn hc h1c b1
  unfold Oper.wp
  simp [execOp, hop, resolve, invoke, builtin, hs, hx, hrun, Result.andThen]
  exact hK w' r1 r2

def U.act (u : U) : Int := if u.a then (wrap64 (1 + wrap64 ((wrap64 (u.p - 50)).tdiv 10))) % 256 else 0

theorem cellsOf_at (xs : List U) (j : Nat) (h : j < xs.length) : (cellsOf xs)[j * 4]? = some (.int .i64 (xs.getD j U0).k) ∧ (cellsOf xs)[j * 4 + 1]? = some (.int .i64 (xs.getD j U0).i) ∧
    (cellsOf xs)[j * 4 + 2]? = some (.bool (xs.getD j U0).a) ∧ (cellsOf xs)[j * 4 + 3]? = some (.int .i64 (xs.getD j U0).p) := by
  induction xs generalizing j with
  | nil => simp at h
  | cons u xs ih =>
    have e : cellsOf (u :: xs) = Value.int .i64 u.k :: .int .i64 u.i :: .bool u.a :: .int .i64 u.p :: cellsOf xs := by simp [cellsOf, U.cells]
    rw [e]
    cases j with
    | zero => simp
    | succ j =>
      have := ih j (by simpa using h)
      simp only [show (j + 1) * 4 = j * 4 + 1 + 1 + 1 + 1 by omega, show j * 4 + 1 + 1 + 1 + 1 + 1 = (j * 4 + 1) + 1 + 1 + 1 + 1 by omega, show j * 4 + 1 + 1 + 1 + 1 + 2 = (j * 4 + 2) + 1 + 1 + 1 + 1 by omega, show j * 4 + 1 + 1 + 1 + 1 + 3 = (j * 4 + 3) + 1 + 1 + 1 + 1 by omega, List.getElem?_cons_succ, List.getD_cons_succ]
      exact this

theorem lies_of_owned {w : World} {base g n : Nat} {e : TypeId} {xs : List U} (hx : xs.length = n) (h : w.ownsRow base e 4 (.slice (some ⟨g, 0, none⟩) n n) n (cellsOf xs)) : Lies w g 0 xs := by
  subst hx
  refine ⟨fun j hj => ?_, fun j hj => ?_, fun j hj => ?_, fun j hj => ?_⟩
  · rw [Nat.zero_add, h.cellAt _ (by omega)]; exact (cellsOf_at xs j hj).1
  · rw [Nat.zero_add, h.cellAt _ (by omega)]; exact (cellsOf_at xs j hj).2.1
  · rw [Nat.zero_add, h.cellAt _ (by omega)]; exact (cellsOf_at xs j hj).2.2.1
  · rw [Nat.zero_add, h.cellAt _ (by omega)]; exact (cellsOf_at xs j hj).2.2.2

theorem news1 (W : World) (o : Obj) (x : Value) (e : TypeId) : ∀ j u, [x][j]? = some u → ((W.alloc o).alloc (.cells #[x] e)).drew.cell? ((⟨W.heap.size + 1, 0, none⟩ : Addr).add j) = some u := by
  intro j u hj
  match j, hj with
  | 0, hj => simp at hj; subst hj; simp [Addr.add]

def hdB (k act : Int) : Int := bits BinOp.or IntKind.u8 (IntKind.u8.wrap k) (IntKind.u8.wrap (act * 16))
def U.bytes (u : U) : List Value := .int .u8 (hdB u.k u.act) :: idCells u.i
def bytesOf (xs : List U) : List Value := xs.flatMap U.bytes

theorem bytesOf_append (xs ys : List U) : bytesOf (xs ++ ys) = bytesOf xs ++ bytesOf ys := by simp [bytesOf]

theorem hdB_add (u : U) (h : u.a = true) : hdB u.k u.act = bits BinOp.or IntKind.u8 (IntKind.u8.wrap u.k) (IntKind.u8.wrap (wrap64 (1 + wrap64 ((wrap64 (u.p - 50)).tdiv 10)) % 256 * 16)) := by
  simp [hdB, U.act, h]
theorem hdB_rem (u : U) (h : u.a = false) : hdB u.k u.act = bits BinOp.or IntKind.u8 (IntKind.u8.wrap u.k) 0 := by
  simp only [hdB, U.act, h]; rfl

theorem rel6 {w : World} {xs : List U} {base g k n : Nat} {b : Int} (hlt : k < xs.length) (hb : hdB xs[k].k xs[k].act = b)
    (h : w.ownsRow base 5 1 (.slice (some ⟨g, 0, none⟩) (4 * k + 1 + 3) (4 * n)) (4 * k + 1 + 3) (bytesOf (xs.take k) ++ [.int .u8 b] ++ idCells xs[k].i)) :
    w.ownsRow base 5 1 (.slice (some ⟨g, 0, none⟩) (4 * (k + 1)) (4 * n)) (4 * (k + 1)) (bytesOf (xs.take (k + 1))) := by
  subst hb
  rw [take_succ_U xs k hlt, bytesOf_append, show 4 * (k + 1) = 4 * k + 1 + 3 by omega]
  simpa [bytesOf, U.bytes] using h

set_option maxHeartbeats 400000 in
theorem args_any (g : Nat) (xs : List U) (w : World) (hn : xs.length ≤ 32768) (hl : Lies w g 0 xs) (hg : g < w.heap.size) :
    Calls Try.prog 6 #[.slice (some ⟨g, 0, none⟩) xs.length xs.length] w fun e w' => e = .returned (.slice (some ⟨w.heap.size, 0, none⟩) (4 * xs.length) (4 * xs.length)) ∧
      w'.ownsRow w.heap.size 5 1 (.slice (some ⟨w.heap.size, 0, none⟩) (4 * xs.length) (4 * xs.length)) (4 * xs.length) (bytesOf xs) ∧ Below w.heap.size w w' := by
  obtain ⟨n, hx⟩ : ∃ n, xs.length = n := ⟨_, rfl⟩
  obtain ⟨c0, c1, c2, c3⟩ := hl
  simp only [Nat.zero_add] at c0 c1 c2 c3
  rw [hx] at hn ⊢ c0 c1 c2 c3
  obtain ⟨i0, hi, hz0, hz1, hz2⟩ := info_parts Try.info5
  go_enter Try.func6, Try.ntmps6
  go_wp2_with (first | (at_make; refine wpList_make_own _ rfl _ _ 24 rfl w.heap.size 5 i0 _ 1 Try.underlying24 hi hz0 hz1 .i64 .i64 _ (4 * n) rfl rfl (by omega) ?b1 ?b2 ?b3 ?_))
  case b1 => rw [hz2]; omega
  case b2 => simp [maxLen]; omega
  case b3 => omega
  intro w1 hown1 hgr
  go_wp2
  go_loopw [3, 13] (fun v i wr => ∃ k : Nat, k ≤ n ∧ i = .int .i64 k ∧ v = .slice (some ⟨w.heap.size, 0, none⟩) (4 * k) (4 * n) ∧ Below w.heap.size w wr ∧ wr.ownsRow w.heap.size 5 1 (.slice (some ⟨w.heap.size, 0, none⟩) (4 * k) (4 * n)) (4 * k) (bytesOf (xs.take k)))
    (fun _ i _ => n - (intOf i).toNat)
  case atStart => exact ⟨0, Nat.zero_le _, rfl, rfl, (Below.refl _ _).grown hgr (Nat.le_refl _) (by simp), by simpa [bytesOf] using hown1⟩
  case round =>
    obtain ⟨k, hk, rfl, rfl, hnx, hown⟩ := hrel
    by_cases hlt : k < n
    · have hne : w.heap.size < wr.heap.size := (hown.lt _ rfl).2
      have d0 := (hnx.cell (p := ⟨g, k * 4, none⟩) hg).trans (c0 k hlt)
      have d1 := (hnx.cell (p := ⟨g, k * 4 + 1, none⟩) hg).trans (c1 k hlt)
      have d2 := (hnx.cell (p := ⟨g, k * 4 + 2, none⟩) hg).trans (c2 k hlt)
      have d3 := (hnx.cell (p := ⟨g, k * 4 + 3, none⟩) hg).trans (c3 k hlt)
      clear c0 c1 c2 c3
      go_wp2
      · have hact : xs[k].a = true := by assumption
        go_region_held3 (fun w' => w'.cell? ⟨wr.heap.size, 0, none⟩ = some (.int .i64 xs[k].k) ∧ w'.cell? ⟨wr.heap.size, 1, none⟩ = some (.int .i64 xs[k].i))
          (first | go_keep | (refine ⟨?_, ?_⟩ <;> (rw [hgr2.cell_far _ (by simp; omega) (by simp; omega)]; simp)) | (refine ⟨?_, ?_⟩ <;> (rw [hgr3.cell_far _ (by have := hgr2.size; simp at this ⊢; omega) (by simp; omega), hgr2.cell_far _ (by simp; omega) (by simp; omega)]; simp)))
          (first
            | (go_at_call 10; refine (appendID_any w.heap.size (4 * k + 1) (4 * n) _ _ w.heap.size _ hown2 (by omega)).mono ?_; rintro e w3 ⟨rfl, hown3, hgr3⟩)
            | (refine step_append_fits (by rfl) (.tmp 25) (.tmp 32) 24 (by rfl) w.heap.size 5 i0 1 Try.underlying24 hi hz1 w.heap.size (4 * k) (4 * n) (bytesOf (xs.take k)) (by rfl) ((hown.alloc _).alloc _).drew ⟨wr.heap.size + 1, 0, none⟩ 1 1 [.int .u8 (bits BinOp.or IntKind.u8 (IntKind.u8.wrap xs[k].k) (IntKind.u8.wrap (wrap64 (1 + wrap64 ((wrap64 (xs[k].p - 50)).tdiv 10)) % 256 * 16)))] (by rfl) (by rfl) (news1 _ _ _ _) (by simp [Value.oneCell']) (by omega) ?_; intro w2 hown2 hgr2))
        go_wp2
        have hbel : Below w.heap.size w w3 := ((((hnx.alloc (by omega) _).alloc (by simp; omega) _).drew.grown hgr2 (by simp; omega) (by simp)).grown hgr3 (by have := hgr2.size; simp at this; omega) (by simp))
        go_roundw
        case rel => exact ⟨k + 1, by omega, by go_num, rfl, hbel, rel6 (by omega) (hdB_add _ hact) hown3⟩
        case measure => simp [intOf]; omega
      · have hact : xs[k].a = false := by assumption
        go_region_held3 (fun w' => w'.cell? ⟨wr.heap.size, 0, none⟩ = some (.int .i64 xs[k].k) ∧ w'.cell? ⟨wr.heap.size, 1, none⟩ = some (.int .i64 xs[k].i))
          (first | go_keep | (refine ⟨?_, ?_⟩ <;> (rw [hgr2.cell_far _ (by simp; omega) (by simp; omega)]; simp)) | (refine ⟨?_, ?_⟩ <;> (rw [hgr3.cell_far _ (by have := hgr2.size; simp at this ⊢; omega) (by simp; omega), hgr2.cell_far _ (by simp; omega) (by simp; omega)]; simp)))
          (first
            | (go_at_call 10; refine (appendID_any w.heap.size (4 * k + 1) (4 * n) _ _ w.heap.size _ hown2 (by omega)).mono ?_; rintro e w3 ⟨rfl, hown3, hgr3⟩)
            | (refine step_append_fits (by rfl) (.tmp 25) (.tmp 32) 24 (by rfl) w.heap.size 5 i0 1 Try.underlying24 hi hz1 w.heap.size (4 * k) (4 * n) (bytesOf (xs.take k)) (by rfl) ((hown.alloc _).alloc _).drew ⟨wr.heap.size + 1, 0, none⟩ 1 1 [.int .u8 (bits BinOp.or IntKind.u8 (IntKind.u8.wrap xs[k].k) 0)] (by rfl) (by rfl) (news1 _ _ _ _) (by simp [Value.oneCell']) (by omega) ?_; intro w2 hown2 hgr2))
        go_wp2
        have hbel : Below w.heap.size w w3 := ((((hnx.alloc (by omega) _).alloc (by simp; omega) _).drew.grown hgr2 (by simp; omega) (by simp)).grown hgr3 (by have := hgr2.size; simp at this; omega) (by simp))
        go_roundw
        case rel => exact ⟨k + 1, by omega, by go_num, rfl, hbel, rel6 (by omega) (hdB_rem _ hact) hown3⟩
        case measure => simp [intOf]; omega
    · have hkn : k = n := by omega
      subst hkn
      go_wp2
      go_ret
      rw [List.take_of_length_le (by omega)] at hown
      exact ⟨rfl, hown, hnx⟩
end Go.Proofs.Qxb6628235a
