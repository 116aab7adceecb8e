import Derived.Test.Qxb6628235aBase
import Derived.Deep.RegionHeld3
import Derived.Maps.AppendAt
namespace Go.Proofs.Qxb6628235a
open Go.RowKit

theorem Try.info5 : (Try.prog.info? 5).map (fun i => (i.zero, i.size, i.bytes)) = some (some (.int .u8 0), 1, 1) := by kernel_rfl

def idCells (id : Int) : List Value := [.int .u8 (id / 65536 % 256), .int .u8 (id / 256 % 256), .int .u8 (id % 256)]

set_option maxHeartbeats 400000 in
theorem appendID_any (g n cap : Nat) (id : Int) (w : World) (base : Nat) (bs : List Value) (hown : w.ownsRow base 5 1 (.slice (some ⟨g, 0, none⟩) n cap) n bs) (hfit : n + 3 ≤ cap) :
    Calls Try.prog 10 #[.slice (some ⟨g, 0, none⟩) n cap, .int .i64 id] w fun e w' => e = .returned (.slice (some ⟨g, 0, none⟩) (n + 3) cap) ∧
      w'.ownsRow base 5 1 (.slice (some ⟨g, 0, none⟩) (n + 3) cap) (n + 3) (bs ++ idCells id) ∧ w.grownBy w' (some g) := by
  obtain ⟨i0, hi, hz0, hz1, hz2⟩ := info_parts Try.info5
  go_enter Try.func10, Try.ntmps10
  go_wp2_with (first | (at_builtin; refine wpList_append_fits _ rfl (.tmp 5) (.tmp 14) 24 rfl base 5 i0 1 Try.underlying24 hi hz1 g n cap bs rfl (hown.alloc _) ⟨w.heap.size, 0, none⟩ 3 3 (idCells id) rfl rfl ?c1 ?c2 hfit ?_))
  case c1 =>
    intro j u hj
    match j, hj with
    | 0, hj => simp [idCells] at hj; subst hj; simp [Addr.add]
    | 1, hj => simp [idCells] at hj; subst hj; simp [Addr.add]
    | 2, hj => simp [idCells] at hj; subst hj; simp [Addr.add]
  case c2 => intro u hu; simp [idCells] at hu; rcases hu with rfl | rfl | rfl <;> rfl
  intro w1 hown1 hgr
  go_wp2
  go_ret
  exact ⟨rfl, hown1, (World.grownBy_alloc w _ _).trans hgr⟩
end Go.Proofs.Qxb6628235a
