/-
  PROVED HERE: (*parseContext).Stop over a branch without progress, where the branch's depth is the greater: false, and the parent takes the branch's error and depth.
  CONDITIONS: the cells of both contexts that Stop reads are as named.
-/
import Derived.Test.YtiahdmoigmoibaaGreatStopBase
import Derived.Deep.RegionHeld3
import Derived.Deep.QuietTactic
import Derived.BigQuiet
namespace Go.Proofs.YtiahdmoigmoibaaGreat.stop
open Go.RowKit
set_option linter.unusedVariables false
set_option maxRecDepth 100000

set_option maxHeartbeats 1000000 in
theorem c13An (p b : Nat) (x : Addr) (pa ba : Addr) (dp db look : Int) (w Y : World) (hY : (w.setCell ⟨p, 7, none⟩ (.iface 37 (.pointer (some ba)))).setCell ⟨p, 8, none⟩ (.int .i64 db) = Y) (hp : p < w.heap.size) (hb : b < w.heap.size) (hA : dp < db) (hl : look < 0) (p0 : w.cell? ⟨p, 0, none⟩ = some (.int .i64 0)) (p1 : w.cell? ⟨p, 1, none⟩ = some (.int .i64 0)) (p2 : w.cell? ⟨p, 2, none⟩ = some (.int .i64 0)) (p7 : w.cell? ⟨p, 7, none⟩ = some (.iface 37 (.pointer (some pa)))) (p8 : w.cell? ⟨p, 8, none⟩ = some (.int .i64 dp)) (p9 : w.cell? ⟨p, 9, none⟩ = some (.int .i64 look)) (b0 : w.cell? ⟨b, 0, none⟩ = some (.int .i64 0)) (b1 : w.cell? ⟨b, 1, none⟩ = some (.int .i64 0)) (b2 : w.cell? ⟨b, 2, none⟩ = some (.int .i64 0)) (b7 : w.cell? ⟨b, 7, none⟩ = some (.iface 37 (.pointer (some ba)))) (b8 : w.cell? ⟨b, 8, none⟩ = some (.int .i64 db)) (f7 : w.frozen? ⟨p, 7, none⟩ = false) (f8 : w.frozen? ⟨p, 8, none⟩ = false) :
    Calls Tryz.prog 13 #[.pointer (some ⟨p, 0, none⟩), .iface 37 (.pointer (some x)), .pointer (some ⟨b, 0, none⟩)] w fun e w' => e = .returned (.bool false) ∧ Below w.heap.size Y w' := by
  have HY := Lib.hid hY; clear hY
  go_enter Tryz.func13, Tryz.ntmps13
  go_wp2
  go_quiet (fail)
  go_wp2
  generalize hX : ((w.drewN nq).setCell ⟨p, 7, none⟩ (.iface 37 (.pointer (some ba)))).setCell ⟨p, 8, none⟩ (.int .i64 db) = X
  have HB : Below w.heap.size Y X := by rw [← hX, ← HY.out]; exact bdrewN (Below.refl _ _) nq
  have x0 : X.cell? ⟨p, 0, none⟩ = some (.int .i64 0) := by rw [← hX]; exact st_cell p0 (by decide) (by decide)
  have x1 : X.cell? ⟨p, 1, none⟩ = some (.int .i64 0) := by rw [← hX]; exact st_cell p1 (by decide) (by decide)
  have x2 : X.cell? ⟨p, 2, none⟩ = some (.int .i64 0) := by rw [← hX]; exact st_cell p2 (by decide) (by decide)
  have x9 : X.cell? ⟨p, 9, none⟩ = some (.int .i64 look) := by rw [← hX]; exact st_cell p9 (by decide) (by decide)
  have y0 : X.cell? ⟨b, 0, none⟩ = some (.int .i64 0) := by rw [← hX]; exact st_cell b0 (by decide) (by decide)
  have y1 : X.cell? ⟨b, 1, none⟩ = some (.int .i64 0) := by rw [← hX]; exact st_cell b1 (by decide) (by decide)
  have y2 : X.cell? ⟨b, 2, none⟩ = some (.int .i64 0) := by rw [← hX]; exact st_cell b2 (by decide) (by decide)
  have hYs : w.heap.size ≤ Y.heap.size := by rw [← HY.out]; simp [World.setCell]
  have hpX : p < X.heap.size := Nat.lt_of_lt_of_le hp (Nat.le_trans hYs HB.size)
  have hbX : b < X.heap.size := Nat.lt_of_lt_of_le hb (Nat.le_trans hYs HB.size)
  have hBX : w.heap.size ≤ X.heap.size := Nat.le_trans hYs HB.size
  clear hX HY
  go_quiet (((go_at_call 20; exact quiet_left (c20n _ look _ hl (by go_simp)))))
  go_wp2
  go_ret
  exact ⟨rfl, bdrewN HB _⟩

set_option maxHeartbeats 1000000 in
theorem c13Ap (p b : Nat) (x : Addr) (pa ba : Addr) (dp db look : Int) (w Y : World) (hY : (w.setCell ⟨p, 7, none⟩ (.iface 37 (.pointer (some ba)))).setCell ⟨p, 8, none⟩ (.int .i64 db) = Y) (hp : p < w.heap.size) (hb : b < w.heap.size) (hA : dp < db) (hl : ¬ look < 0) (hl0 : 0 ≤ look) (hl1 : look ≤ 9223372036854775807) (p0 : w.cell? ⟨p, 0, none⟩ = some (.int .i64 0)) (p1 : w.cell? ⟨p, 1, none⟩ = some (.int .i64 0)) (p2 : w.cell? ⟨p, 2, none⟩ = some (.int .i64 0)) (p7 : w.cell? ⟨p, 7, none⟩ = some (.iface 37 (.pointer (some pa)))) (p8 : w.cell? ⟨p, 8, none⟩ = some (.int .i64 dp)) (p9 : w.cell? ⟨p, 9, none⟩ = some (.int .i64 look)) (b0 : w.cell? ⟨b, 0, none⟩ = some (.int .i64 0)) (b1 : w.cell? ⟨b, 1, none⟩ = some (.int .i64 0)) (b2 : w.cell? ⟨b, 2, none⟩ = some (.int .i64 0)) (b7 : w.cell? ⟨b, 7, none⟩ = some (.iface 37 (.pointer (some ba)))) (b8 : w.cell? ⟨b, 8, none⟩ = some (.int .i64 db)) (f7 : w.frozen? ⟨p, 7, none⟩ = false) (f8 : w.frozen? ⟨p, 8, none⟩ = false) :
    Calls Tryz.prog 13 #[.pointer (some ⟨p, 0, none⟩), .iface 37 (.pointer (some x)), .pointer (some ⟨b, 0, none⟩)] w fun e w' => e = .returned (.bool false) ∧ Below w.heap.size Y w' := by
  have HY := Lib.hid hY; clear hY
  go_enter Tryz.func13, Tryz.ntmps13
  go_wp2
  go_quiet (fail)
  go_wp2
  generalize hX : ((w.drewN nq).setCell ⟨p, 7, none⟩ (.iface 37 (.pointer (some ba)))).setCell ⟨p, 8, none⟩ (.int .i64 db) = X
  have HB : Below w.heap.size Y X := by rw [← hX, ← HY.out]; exact bdrewN (Below.refl _ _) nq
  have x0 : X.cell? ⟨p, 0, none⟩ = some (.int .i64 0) := by rw [← hX]; exact st_cell p0 (by decide) (by decide)
  have x1 : X.cell? ⟨p, 1, none⟩ = some (.int .i64 0) := by rw [← hX]; exact st_cell p1 (by decide) (by decide)
  have x2 : X.cell? ⟨p, 2, none⟩ = some (.int .i64 0) := by rw [← hX]; exact st_cell p2 (by decide) (by decide)
  have x9 : X.cell? ⟨p, 9, none⟩ = some (.int .i64 look) := by rw [← hX]; exact st_cell p9 (by decide) (by decide)
  have y0 : X.cell? ⟨b, 0, none⟩ = some (.int .i64 0) := by rw [← hX]; exact st_cell b0 (by decide) (by decide)
  have y1 : X.cell? ⟨b, 1, none⟩ = some (.int .i64 0) := by rw [← hX]; exact st_cell b1 (by decide) (by decide)
  have y2 : X.cell? ⟨b, 2, none⟩ = some (.int .i64 0) := by rw [← hX]; exact st_cell b2 (by decide) (by decide)
  have hYs : w.heap.size ≤ Y.heap.size := by rw [← HY.out]; simp [World.setCell]
  have hpX : p < X.heap.size := Nat.lt_of_lt_of_le hp (Nat.le_trans hYs HB.size)
  have hbX : b < X.heap.size := Nat.lt_of_lt_of_le hb (Nat.le_trans hYs HB.size)
  have hBX : w.heap.size ≤ X.heap.size := Nat.le_trans hYs HB.size
  clear hX HY
  have hwr : IntKind.i64.wrap look = look := IntWalk.i64_in _ (by omega)
  go_region_held3 (fun w' => Below w.heap.size Y w' ∧ p < w'.heap.size ∧ b < w'.heap.size ∧ w'.cell? ⟨p, 0, none⟩ = some (.int .i64 0) ∧ w'.cell? ⟨p, 1, none⟩ = some (.int .i64 0) ∧ w'.cell? ⟨p, 2, none⟩ = some (.int .i64 0) ∧ w'.cell? ⟨p, 9, none⟩ = some (.int .i64 look) ∧ w'.cell? ⟨b, 0, none⟩ = some (.int .i64 0) ∧ w'.cell? ⟨b, 1, none⟩ = some (.int .i64 0) ∧ w'.cell? ⟨b, 2, none⟩ = some (.int .i64 0)) (first | exact ⟨(HB).drew, hpX, hbX, x0, x1, x2, x9, y0, y1, y2⟩ | exact ⟨((HB.alloc hBX _)).drew, (lta _ hpX), (lta _ hbX), (ca hpX x0), (ca hpX x1), (ca hpX x2), (ca hpX x9), (ca hbX y0), (ca hbX y1), (ca hbX y2)⟩ | exact ⟨(((HB.alloc hBX _).alloc (le_alloc _ hBX) _)).drew, (lta _ (lta _ hpX)), (lta _ (lta _ hbX)), (ca (lta _ hpX) (ca hpX x0)), (ca (lta _ hpX) (ca hpX x1)), (ca (lta _ hpX) (ca hpX x2)), (ca (lta _ hpX) (ca hpX x9)), (ca (lta _ hbX) (ca hbX y0)), (ca (lta _ hbX) (ca hbX y1)), (ca (lta _ hbX) (ca hbX y2))⟩ | go_keep)
    (first | (go_at_call 20; refine (c20p _ look _ (by omega) ?_).mono ?_; (assumption); rintro e w' ⟨rfl, rfl⟩) | (go_at_call 18; refine (c18 _ _ _ _).mono ?_; rintro e w' ⟨rfl, rfl⟩))
  go_wp2
  go_ret
  exact ⟨rfl, ((HB.alloc hBX _).alloc (le_alloc _ hBX) _).drew⟩
end Go.Proofs.YtiahdmoigmoibaaGreat.stop
