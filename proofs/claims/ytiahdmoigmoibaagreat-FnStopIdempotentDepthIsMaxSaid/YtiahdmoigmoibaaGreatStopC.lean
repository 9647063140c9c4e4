/-
  PROVED HERE: (*parseContext).Stop over a branch without progress, the parent's depth positive and not the lesser: false, and nothing that was there is changed.
  CONDITIONS: the cells of both contexts that Stop reads are as named.
-/
import Derived.Test.YtiahdmoigmoibaaGreatStopBase
import Derived.Deep.RegionHeld3
import Derived.Deep.QuietTactic
import Derived.BigQuiet
namespace Go.Proofs.YtiahdmoigmoibaaGreat.stop
open Go.RowKit
set_option linter.unusedVariables false
set_option maxRecDepth 100000

set_option maxHeartbeats 1000000 in
theorem c13Cn (p b : Nat) (x : Addr) (pa ba : Addr) (dp db look : Int) (w : World) (hp : p < w.heap.size) (hb : b < w.heap.size) (hA : ¬ dp < db) (hC : 0 < dp) (hl : look < 0) (p0 : w.cell? ⟨p, 0, none⟩ = some (.int .i64 0)) (p1 : w.cell? ⟨p, 1, none⟩ = some (.int .i64 0)) (p2 : w.cell? ⟨p, 2, none⟩ = some (.int .i64 0)) (p7 : w.cell? ⟨p, 7, none⟩ = some (.iface 37 (.pointer (some pa)))) (p8 : w.cell? ⟨p, 8, none⟩ = some (.int .i64 dp)) (p9 : w.cell? ⟨p, 9, none⟩ = some (.int .i64 look)) (b0 : w.cell? ⟨b, 0, none⟩ = some (.int .i64 0)) (b1 : w.cell? ⟨b, 1, none⟩ = some (.int .i64 0)) (b2 : w.cell? ⟨b, 2, none⟩ = some (.int .i64 0)) (b7 : w.cell? ⟨b, 7, none⟩ = some (.iface 37 (.pointer (some ba)))) (b8 : w.cell? ⟨b, 8, none⟩ = some (.int .i64 db)) :
    Calls Tryz.prog 13 #[.pointer (some ⟨p, 0, none⟩), .iface 37 (.pointer (some x)), .pointer (some ⟨b, 0, none⟩)] w fun e w' => e = .returned (.bool false) ∧ Below w.heap.size w w' := by
  obtain ⟨Y, hY⟩ : ∃ Y, Y = w := ⟨_, rfl⟩
  have HY : Below w.heap.size Y w := by rw [hY]; exact Below.refl _ _
  have hW : w.heap.size ≤ w.heap.size := Nat.le_refl _
  suffices hs : Calls Tryz.prog 13 #[.pointer (some ⟨p, 0, none⟩), .iface 37 (.pointer (some x)), .pointer (some ⟨b, 0, none⟩)] w fun e w' => e = .returned (.bool false) ∧ Below w.heap.size Y w' by rw [hY] at hs; exact hs
  clear hY
  go_enter Tryz.func13, Tryz.ntmps13
  go_wp2
  go_quiet (fail)
  go_wp2
  generalize hX : w.drewN nq = X
  have HB : Below w.heap.size Y X := by rw [← hX]; exact bdrewN HY nq
  have hBX : w.heap.size ≤ X.heap.size := by rw [← hX]; exact hW
  have hpX : p < X.heap.size := Nat.lt_of_lt_of_le hp hBX
  have hbX : b < X.heap.size := Nat.lt_of_lt_of_le hb hBX
  have x0 : X.cell? ⟨p, 0, none⟩ = some (.int .i64 0) := by rw [← hX]; exact p0
  have x1 : X.cell? ⟨p, 1, none⟩ = some (.int .i64 0) := by rw [← hX]; exact p1
  have x2 : X.cell? ⟨p, 2, none⟩ = some (.int .i64 0) := by rw [← hX]; exact p2
  have x8 : X.cell? ⟨p, 8, none⟩ = some (.int .i64 dp) := by rw [← hX]; exact p8
  have x9 : X.cell? ⟨p, 9, none⟩ = some (.int .i64 look) := by rw [← hX]; exact p9
  have y0 : X.cell? ⟨b, 0, none⟩ = some (.int .i64 0) := by rw [← hX]; exact b0
  have y1 : X.cell? ⟨b, 1, none⟩ = some (.int .i64 0) := by rw [← hX]; exact b1
  have y2 : X.cell? ⟨b, 2, none⟩ = some (.int .i64 0) := by rw [← hX]; exact b2
  have y8 : X.cell? ⟨b, 8, none⟩ = some (.int .i64 db) := by rw [← hX]; exact b8
  clear hX
  go_region_held3 (fun w' => Below w.heap.size Y w' ∧ p < w'.heap.size ∧ b < w'.heap.size ∧ w'.cell? ⟨p, 0, none⟩ = some (.int .i64 0) ∧ w'.cell? ⟨p, 1, none⟩ = some (.int .i64 0) ∧ w'.cell? ⟨p, 2, none⟩ = some (.int .i64 0) ∧ w'.cell? ⟨p, 8, none⟩ = some (.int .i64 dp) ∧ w'.cell? ⟨p, 9, none⟩ = some (.int .i64 look) ∧ w'.cell? ⟨b, 0, none⟩ = some (.int .i64 0) ∧ w'.cell? ⟨b, 1, none⟩ = some (.int .i64 0) ∧ w'.cell? ⟨b, 2, none⟩ = some (.int .i64 0) ∧ w'.cell? ⟨b, 8, none⟩ = some (.int .i64 db)) (first | exact ⟨(HB).drew, hpX, hbX, x0, x1, x2, x8, x9, y0, y1, y2, y8⟩ | exact ⟨((HB.alloc hBX _)).drew, (lta _ hpX), (lta _ hbX), (ca hpX x0), (ca hpX x1), (ca hpX x2), (ca hpX x8), (ca hpX x9), (ca hbX y0), (ca hbX y1), (ca hbX y2), (ca hbX y8)⟩ | go_keep)
    (first | (go_at_call 18; refine (c18 _ _ _ _).mono ?_; rintro e w' ⟨rfl, rfl⟩))
  go_wp2
  generalize hZ : (X.alloc (.cells #[.int .i64 0, .int .i64 0, .int .i64 0] 56)).drew = Z
  have HZ : Below w.heap.size Y Z := by rw [← hZ]; exact (HB.alloc hBX _).drew
  have hBZ : w.heap.size ≤ Z.heap.size := by rw [← hZ]; exact le_alloc _ hBX
  have hpZ : p < Z.heap.size := by rw [← hZ]; exact lta _ hpX
  have hbZ : b < Z.heap.size := by rw [← hZ]; exact lta _ hbX
  have z0 : Z.cell? ⟨p, 0, none⟩ = some (.int .i64 0) := by rw [← hZ]; exact ca hpX x0
  have z1 : Z.cell? ⟨p, 1, none⟩ = some (.int .i64 0) := by rw [← hZ]; exact ca hpX x1
  have z2 : Z.cell? ⟨p, 2, none⟩ = some (.int .i64 0) := by rw [← hZ]; exact ca hpX x2
  have z8 : Z.cell? ⟨p, 8, none⟩ = some (.int .i64 dp) := by rw [← hZ]; exact ca hpX x8
  have z9 : Z.cell? ⟨p, 9, none⟩ = some (.int .i64 look) := by rw [← hZ]; exact ca hpX x9
  have u0 : Z.cell? ⟨b, 0, none⟩ = some (.int .i64 0) := by rw [← hZ]; exact ca hbX y0
  have u1 : Z.cell? ⟨b, 1, none⟩ = some (.int .i64 0) := by rw [← hZ]; exact ca hbX y1
  have u2 : Z.cell? ⟨b, 2, none⟩ = some (.int .i64 0) := by rw [← hZ]; exact ca hbX y2
  have u8 : Z.cell? ⟨b, 8, none⟩ = some (.int .i64 db) := by rw [← hZ]; exact ca hbX y8
  clear hZ
  go_quiet ((go_at_call 20; exact quiet_left (c20n _ look _ hl (by go_simp))))
  go_wp2
  go_ret
  exact ⟨rfl, bdrewN HZ _⟩

set_option maxHeartbeats 1000000 in
theorem c13Cp (p b : Nat) (x : Addr) (pa ba : Addr) (dp db look : Int) (w : World) (hp : p < w.heap.size) (hb : b < w.heap.size) (hA : ¬ dp < db) (hC : 0 < dp) (hl : ¬ look < 0) (hl0 : 0 ≤ look) (hl1 : look ≤ 9223372036854775807) (p0 : w.cell? ⟨p, 0, none⟩ = some (.int .i64 0)) (p1 : w.cell? ⟨p, 1, none⟩ = some (.int .i64 0)) (p2 : w.cell? ⟨p, 2, none⟩ = some (.int .i64 0)) (p7 : w.cell? ⟨p, 7, none⟩ = some (.iface 37 (.pointer (some pa)))) (p8 : w.cell? ⟨p, 8, none⟩ = some (.int .i64 dp)) (p9 : w.cell? ⟨p, 9, none⟩ = some (.int .i64 look)) (b0 : w.cell? ⟨b, 0, none⟩ = some (.int .i64 0)) (b1 : w.cell? ⟨b, 1, none⟩ = some (.int .i64 0)) (b2 : w.cell? ⟨b, 2, none⟩ = some (.int .i64 0)) (b7 : w.cell? ⟨b, 7, none⟩ = some (.iface 37 (.pointer (some ba)))) (b8 : w.cell? ⟨b, 8, none⟩ = some (.int .i64 db)) :
    Calls Tryz.prog 13 #[.pointer (some ⟨p, 0, none⟩), .iface 37 (.pointer (some x)), .pointer (some ⟨b, 0, none⟩)] w fun e w' => e = .returned (.bool false) ∧ Below w.heap.size w w' := by
  obtain ⟨Y, hY⟩ : ∃ Y, Y = w := ⟨_, rfl⟩
  have HY : Below w.heap.size Y w := by rw [hY]; exact Below.refl _ _
  have hW : w.heap.size ≤ w.heap.size := Nat.le_refl _
  suffices hs : Calls Tryz.prog 13 #[.pointer (some ⟨p, 0, none⟩), .iface 37 (.pointer (some x)), .pointer (some ⟨b, 0, none⟩)] w fun e w' => e = .returned (.bool false) ∧ Below w.heap.size Y w' by rw [hY] at hs; exact hs
  clear hY
  go_enter Tryz.func13, Tryz.ntmps13
  go_wp2
  go_quiet (fail)
  go_wp2
  generalize hX : w.drewN nq = X
  have HB : Below w.heap.size Y X := by rw [← hX]; exact bdrewN HY nq
  have hBX : w.heap.size ≤ X.heap.size := by rw [← hX]; exact hW
  have hpX : p < X.heap.size := Nat.lt_of_lt_of_le hp hBX
  have hbX : b < X.heap.size := Nat.lt_of_lt_of_le hb hBX
  have x0 : X.cell? ⟨p, 0, none⟩ = some (.int .i64 0) := by rw [← hX]; exact p0
  have x1 : X.cell? ⟨p, 1, none⟩ = some (.int .i64 0) := by rw [← hX]; exact p1
  have x2 : X.cell? ⟨p, 2, none⟩ = some (.int .i64 0) := by rw [← hX]; exact p2
  have x8 : X.cell? ⟨p, 8, none⟩ = some (.int .i64 dp) := by rw [← hX]; exact p8
  have x9 : X.cell? ⟨p, 9, none⟩ = some (.int .i64 look) := by rw [← hX]; exact p9
  have y0 : X.cell? ⟨b, 0, none⟩ = some (.int .i64 0) := by rw [← hX]; exact b0
  have y1 : X.cell? ⟨b, 1, none⟩ = some (.int .i64 0) := by rw [← hX]; exact b1
  have y2 : X.cell? ⟨b, 2, none⟩ = some (.int .i64 0) := by rw [← hX]; exact b2
  have y8 : X.cell? ⟨b, 8, none⟩ = some (.int .i64 db) := by rw [← hX]; exact b8
  clear hX
  go_region_held3 (fun w' => Below w.heap.size Y w' ∧ p < w'.heap.size ∧ b < w'.heap.size ∧ w'.cell? ⟨p, 0, none⟩ = some (.int .i64 0) ∧ w'.cell? ⟨p, 1, none⟩ = some (.int .i64 0) ∧ w'.cell? ⟨p, 2, none⟩ = some (.int .i64 0) ∧ w'.cell? ⟨p, 8, none⟩ = some (.int .i64 dp) ∧ w'.cell? ⟨p, 9, none⟩ = some (.int .i64 look) ∧ w'.cell? ⟨b, 0, none⟩ = some (.int .i64 0) ∧ w'.cell? ⟨b, 1, none⟩ = some (.int .i64 0) ∧ w'.cell? ⟨b, 2, none⟩ = some (.int .i64 0) ∧ w'.cell? ⟨b, 8, none⟩ = some (.int .i64 db)) (first | exact ⟨(HB).drew, hpX, hbX, x0, x1, x2, x8, x9, y0, y1, y2, y8⟩ | exact ⟨((HB.alloc hBX _)).drew, (lta _ hpX), (lta _ hbX), (ca hpX x0), (ca hpX x1), (ca hpX x2), (ca hpX x8), (ca hpX x9), (ca hbX y0), (ca hbX y1), (ca hbX y2), (ca hbX y8)⟩ | go_keep)
    (first | (go_at_call 18; refine (c18 _ _ _ _).mono ?_; rintro e w' ⟨rfl, rfl⟩))
  go_wp2
  generalize hZ : (X.alloc (.cells #[.int .i64 0, .int .i64 0, .int .i64 0] 56)).drew = Z
  have HZ : Below w.heap.size Y Z := by rw [← hZ]; exact (HB.alloc hBX _).drew
  have hBZ : w.heap.size ≤ Z.heap.size := by rw [← hZ]; exact le_alloc _ hBX
  have hpZ : p < Z.heap.size := by rw [← hZ]; exact lta _ hpX
  have hbZ : b < Z.heap.size := by rw [← hZ]; exact lta _ hbX
  have z0 : Z.cell? ⟨p, 0, none⟩ = some (.int .i64 0) := by rw [← hZ]; exact ca hpX x0
  have z1 : Z.cell? ⟨p, 1, none⟩ = some (.int .i64 0) := by rw [← hZ]; exact ca hpX x1
  have z2 : Z.cell? ⟨p, 2, none⟩ = some (.int .i64 0) := by rw [← hZ]; exact ca hpX x2
  have z8 : Z.cell? ⟨p, 8, none⟩ = some (.int .i64 dp) := by rw [← hZ]; exact ca hpX x8
  have z9 : Z.cell? ⟨p, 9, none⟩ = some (.int .i64 look) := by rw [← hZ]; exact ca hpX x9
  have u0 : Z.cell? ⟨b, 0, none⟩ = some (.int .i64 0) := by rw [← hZ]; exact ca hbX y0
  have u1 : Z.cell? ⟨b, 1, none⟩ = some (.int .i64 0) := by rw [← hZ]; exact ca hbX y1
  have u2 : Z.cell? ⟨b, 2, none⟩ = some (.int .i64 0) := by rw [← hZ]; exact ca hbX y2
  have u8 : Z.cell? ⟨b, 8, none⟩ = some (.int .i64 db) := by rw [← hZ]; exact ca hbX y8
  clear hZ
  have hwr : IntKind.i64.wrap look = look := IntWalk.i64_in _ (by omega)
  go_region_held3 (fun w' => Below w.heap.size Y w' ∧ p < w'.heap.size ∧ b < w'.heap.size ∧ w'.cell? ⟨p, 0, none⟩ = some (.int .i64 0) ∧ w'.cell? ⟨p, 1, none⟩ = some (.int .i64 0) ∧ w'.cell? ⟨p, 2, none⟩ = some (.int .i64 0) ∧ w'.cell? ⟨p, 8, none⟩ = some (.int .i64 dp) ∧ w'.cell? ⟨p, 9, none⟩ = some (.int .i64 look) ∧ w'.cell? ⟨b, 0, none⟩ = some (.int .i64 0) ∧ w'.cell? ⟨b, 1, none⟩ = some (.int .i64 0) ∧ w'.cell? ⟨b, 2, none⟩ = some (.int .i64 0) ∧ w'.cell? ⟨b, 8, none⟩ = some (.int .i64 db)) (first | exact ⟨(HZ).drew, hpZ, hbZ, z0, z1, z2, z8, z9, u0, u1, u2, u8⟩ | exact ⟨((HZ.alloc hBZ _)).drew, (lta _ hpZ), (lta _ hbZ), (ca hpZ z0), (ca hpZ z1), (ca hpZ z2), (ca hpZ z8), (ca hpZ z9), (ca hbZ u0), (ca hbZ u1), (ca hbZ u2), (ca hbZ u8)⟩ | exact ⟨(((HZ.alloc hBZ _).alloc (le_alloc _ hBZ) _)).drew, (lta _ (lta _ hpZ)), (lta _ (lta _ hbZ)), (ca (lta _ hpZ) (ca hpZ z0)), (ca (lta _ hpZ) (ca hpZ z1)), (ca (lta _ hpZ) (ca hpZ z2)), (ca (lta _ hpZ) (ca hpZ z8)), (ca (lta _ hpZ) (ca hpZ z9)), (ca (lta _ hbZ) (ca hbZ u0)), (ca (lta _ hbZ) (ca hbZ u1)), (ca (lta _ hbZ) (ca hbZ u2)), (ca (lta _ hbZ) (ca hbZ u8))⟩ | go_keep)
    (first | (go_at_call 20; refine (c20p _ look _ (by omega) ?_).mono ?_; (assumption); rintro e w' ⟨rfl, rfl⟩) | (go_at_call 18; refine (c18 _ _ _ _).mono ?_; rintro e w' ⟨rfl, rfl⟩))
  go_wp2
  go_ret
  exact ⟨rfl, ((HZ.alloc hBZ _).alloc (le_alloc _ hBZ) _).drew⟩
end Go.Proofs.YtiahdmoigmoibaaGreat.stop
