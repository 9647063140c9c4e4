/-
  PROVED HERE: (*parseContext).Stop over a branch without progress, both depths 0: false, and the parent takes the error that is handed in.
  CONDITIONS: the cells of both contexts that Stop reads are as named.
-/
import Derived.Test.YtiahdmoigmoibaaGreatStopBase
import Derived.Deep.RegionHeld3
import Derived.Deep.QuietTactic
import Derived.BigQuiet
namespace Go.Proofs.YtiahdmoigmoibaaGreat.stop
open Go.RowKit
set_option linter.unusedVariables false
set_option maxRecDepth 100000

set_option maxHeartbeats 1000000 in
theorem c13Bn (p b : Nat) (x : Addr) (pa ba : Addr) (look : Int) (w Y0 : World) (hY : w.setCell ⟨p, 7, none⟩ (.iface 37 (.pointer (some x))) = Y0) (hp : p < w.heap.size) (hb : b < w.heap.size) (hl : look < 0) (p0 : w.cell? ⟨p, 0, none⟩ = some (.int .i64 0)) (p1 : w.cell? ⟨p, 1, none⟩ = some (.int .i64 0)) (p2 : w.cell? ⟨p, 2, none⟩ = some (.int .i64 0)) (p7 : w.cell? ⟨p, 7, none⟩ = some (.iface 37 (.pointer (some pa)))) (p8 : w.cell? ⟨p, 8, none⟩ = some (.int .i64 0)) (p9 : w.cell? ⟨p, 9, none⟩ = some (.int .i64 look)) (b0 : w.cell? ⟨b, 0, none⟩ = some (.int .i64 0)) (b1 : w.cell? ⟨b, 1, none⟩ = some (.int .i64 0)) (b2 : w.cell? ⟨b, 2, none⟩ = some (.int .i64 0)) (b7 : w.cell? ⟨b, 7, none⟩ = some (.iface 37 (.pointer (some ba)))) (b8 : w.cell? ⟨b, 8, none⟩ = some (.int .i64 0)) (f7 : w.frozen? ⟨p, 7, none⟩ = false) (f8 : w.frozen? ⟨p, 8, none⟩ = false) :
    Calls Tryz.prog 13 #[.pointer (some ⟨p, 0, none⟩), .iface 37 (.pointer (some x)), .pointer (some ⟨b, 0, none⟩)] w fun e w' => e = .returned (.bool false) ∧ Below w.heap.size Y0 w' := by
  obtain ⟨Y, hY'⟩ : ∃ Y, Y = w := ⟨_, rfl⟩
  have HY : Below w.heap.size Y w := by rw [hY']; exact Below.refl _ _
  have HE := Lib.hid hY
  have HE' := Lib.hid hY'
  have hW : w.heap.size ≤ w.heap.size := Nat.le_refl _
  clear hY' hY
  go_enter Tryz.func13, Tryz.ntmps13
  go_wp2
  go_quiet (fail)
  go_wp2
  generalize hX : w.drewN nq = X
  have HB : Below w.heap.size Y X := by rw [← hX]; exact bdrewN HY nq
  have hBX : w.heap.size ≤ X.heap.size := by rw [← hX]; exact hW
  have hpX : p < X.heap.size := Nat.lt_of_lt_of_le hp hBX
  have hbX : b < X.heap.size := Nat.lt_of_lt_of_le hb hBX
  have x7 : X.cell? ⟨p, 7, none⟩ = some (.iface 37 (.pointer (some pa))) := by rw [← hX]; exact p7
  have xf7 : X.frozen? ⟨p, 7, none⟩ = false := by rw [← hX]; exact f7
  have xf8 : X.frozen? ⟨p, 8, none⟩ = false := by rw [← hX]; exact f8
  have x0 : X.cell? ⟨p, 0, none⟩ = some (.int .i64 0) := by rw [← hX]; exact p0
  have x1 : X.cell? ⟨p, 1, none⟩ = some (.int .i64 0) := by rw [← hX]; exact p1
  have x2 : X.cell? ⟨p, 2, none⟩ = some (.int .i64 0) := by rw [← hX]; exact p2
  have x8 : X.cell? ⟨p, 8, none⟩ = some (.int .i64 0) := by rw [← hX]; exact p8
  have x9 : X.cell? ⟨p, 9, none⟩ = some (.int .i64 look) := by rw [← hX]; exact p9
  have y0 : X.cell? ⟨b, 0, none⟩ = some (.int .i64 0) := by rw [← hX]; exact b0
  have y1 : X.cell? ⟨b, 1, none⟩ = some (.int .i64 0) := by rw [← hX]; exact b1
  have y2 : X.cell? ⟨b, 2, none⟩ = some (.int .i64 0) := by rw [← hX]; exact b2
  have y8 : X.cell? ⟨b, 8, none⟩ = some (.int .i64 0) := by rw [← hX]; exact b8
  clear hX
  go_region_held3 (fun w' => Below w.heap.size Y w' ∧ p < w'.heap.size ∧ b < w'.heap.size ∧ w'.cell? ⟨p, 0, none⟩ = some (.int .i64 0) ∧ w'.cell? ⟨p, 1, none⟩ = some (.int .i64 0) ∧ w'.cell? ⟨p, 2, none⟩ = some (.int .i64 0) ∧ w'.cell? ⟨p, 8, none⟩ = some (.int .i64 0) ∧ w'.cell? ⟨p, 9, none⟩ = some (.int .i64 look) ∧ w'.cell? ⟨b, 0, none⟩ = some (.int .i64 0) ∧ w'.cell? ⟨b, 1, none⟩ = some (.int .i64 0) ∧ w'.cell? ⟨b, 2, none⟩ = some (.int .i64 0) ∧ w'.cell? ⟨b, 8, none⟩ = some (.int .i64 0)) (first | exact ⟨(HB).drew, hpX, hbX, x0, x1, x2, x8, x9, y0, y1, y2, y8⟩ | exact ⟨((HB.alloc hBX _)).drew, (lta _ hpX), (lta _ hbX), (ca hpX x0), (ca hpX x1), (ca hpX x2), (ca hpX x8), (ca hpX x9), (ca hbX y0), (ca hbX y1), (ca hbX y2), (ca hbX y8)⟩ | go_keep)
    (first | (go_at_call 18; refine (c18 _ _ _ _).mono ?_; rintro e w' ⟨rfl, rfl⟩))
  go_wp2
  generalize hZ : ((X.setCell ⟨p, 7, none⟩ (.iface 37 (.pointer (some x)))).alloc (.cells #[.int .i64 0, .int .i64 0, .int .i64 0] 56)).drew = Z
  have hpX' : p < (X.setCell ⟨p, 7, none⟩ (.iface 37 (.pointer (some x)))).heap.size := by simpa [World.setCell] using hpX
  have hbX' : b < (X.setCell ⟨p, 7, none⟩ (.iface 37 (.pointer (some x)))).heap.size := by simpa [World.setCell] using hbX
  have hBX' : w.heap.size ≤ (X.setCell ⟨p, 7, none⟩ (.iface 37 (.pointer (some x)))).heap.size := by simpa [World.setCell] using hBX
  have HZ : Below w.heap.size Y0 Z := by rw [← hZ, ← HE.out, ← HE'.out]; exact ((below_set (HE'.out ▸ HB) _ _).alloc (by rw [HE'.out]; exact hBX') _).drew
  have hBZ : w.heap.size ≤ Z.heap.size := by rw [← hZ]; exact le_alloc _ hBX'
  have hpZ : p < Z.heap.size := by rw [← hZ]; exact lta _ hpX'
  have hbZ : b < Z.heap.size := by rw [← hZ]; exact lta _ hbX'
  have zf8 : Z.frozen? ⟨p, 8, none⟩ = false := by rw [← hZ]; exact (Below.frozen ((Below.refl _ _).alloc (Nat.le_refl _) _) (p := ⟨p, 8, none⟩) hpX').trans (by rw [World.frozen?_setCell]; exact xf8)
  have z0 : Z.cell? ⟨p, 0, none⟩ = some (.int .i64 0) := by rw [← hZ]; exact ca hpX' (st7 x0 (by decide))
  have z1 : Z.cell? ⟨p, 1, none⟩ = some (.int .i64 0) := by rw [← hZ]; exact ca hpX' (st7 x1 (by decide))
  have z2 : Z.cell? ⟨p, 2, none⟩ = some (.int .i64 0) := by rw [← hZ]; exact ca hpX' (st7 x2 (by decide))
  have z8 : Z.cell? ⟨p, 8, none⟩ = some (.int .i64 0) := by rw [← hZ]; exact ca hpX' (st7 x8 (by decide))
  have z9 : Z.cell? ⟨p, 9, none⟩ = some (.int .i64 look) := by rw [← hZ]; exact ca hpX' (st7 x9 (by decide))
  have u0 : Z.cell? ⟨b, 0, none⟩ = some (.int .i64 0) := by rw [← hZ]; exact ca hbX' (st7 y0 (by decide))
  have u1 : Z.cell? ⟨b, 1, none⟩ = some (.int .i64 0) := by rw [← hZ]; exact ca hbX' (st7 y1 (by decide))
  have u2 : Z.cell? ⟨b, 2, none⟩ = some (.int .i64 0) := by rw [← hZ]; exact ca hbX' (st7 y2 (by decide))
  have u8 : Z.cell? ⟨b, 8, none⟩ = some (.int .i64 0) := by rw [← hZ]; exact ca hbX' (st7 y8 (by decide))
  clear hZ
  have hset : Z.setCell ⟨p, 8, none⟩ (.int .i64 0) = Z := set_self z8
  go_region_held3 (fun w' => Below w.heap.size Y0 w' ∧ p < w'.heap.size ∧ b < w'.heap.size ∧ w'.cell? ⟨p, 0, none⟩ = some (.int .i64 0) ∧ w'.cell? ⟨p, 1, none⟩ = some (.int .i64 0) ∧ w'.cell? ⟨p, 2, none⟩ = some (.int .i64 0) ∧ w'.cell? ⟨p, 8, none⟩ = some (.int .i64 0) ∧ w'.cell? ⟨p, 9, none⟩ = some (.int .i64 look) ∧ w'.cell? ⟨b, 0, none⟩ = some (.int .i64 0) ∧ w'.cell? ⟨b, 1, none⟩ = some (.int .i64 0) ∧ w'.cell? ⟨b, 2, none⟩ = some (.int .i64 0) ∧ w'.cell? ⟨b, 8, none⟩ = some (.int .i64 0)) (first | exact ⟨(HZ).drew, hpZ, hbZ, z0, z1, z2, z8, z9, u0, u1, u2, u8⟩ | exact ⟨((HZ.alloc hBZ _)).drew, (lta _ hpZ), (lta _ hbZ), (ca hpZ z0), (ca hpZ z1), (ca hpZ z2), (ca hpZ z8), (ca hpZ z9), (ca hbZ u0), (ca hbZ u1), (ca hbZ u2), (ca hbZ u8)⟩ | exact ⟨(((HZ.alloc hBZ _).alloc (le_alloc _ hBZ) _)).drew, (lta _ (lta _ hpZ)), (lta _ (lta _ hbZ)), (ca (lta _ hpZ) (ca hpZ z0)), (ca (lta _ hpZ) (ca hpZ z1)), (ca (lta _ hpZ) (ca hpZ z2)), (ca (lta _ hpZ) (ca hpZ z8)), (ca (lta _ hpZ) (ca hpZ z9)), (ca (lta _ hbZ) (ca hbZ u0)), (ca (lta _ hbZ) (ca hbZ u1)), (ca (lta _ hbZ) (ca hbZ u2)), (ca (lta _ hbZ) (ca hbZ u8))⟩ | (trace_state; fail))
    (first | (go_at_call 18; refine (c18 _ _ _ _).mono ?_; rintro e w' ⟨rfl, rfl⟩) | (go_at_call 19; refine (c19 _).mono ?_; rintro e w' ⟨rfl, rfl⟩))
  go_wp2
  clear hset
  generalize hV : (Z.alloc (.cells #[.int .i64 0, .int .i64 0, .int .i64 0] 56)).drew = V
  have HV : Below w.heap.size Y0 V := by rw [← hV]; exact (HZ.alloc hBZ _).drew
  have hBV : w.heap.size ≤ V.heap.size := by rw [← hV]; exact le_alloc _ hBZ
  have hpV : p < V.heap.size := by rw [← hV]; exact lta _ hpZ
  have hbV : b < V.heap.size := by rw [← hV]; exact lta _ hbZ
  have v0 : V.cell? ⟨p, 0, none⟩ = some (.int .i64 0) := by rw [← hV]; exact ca hpZ z0
  have v1 : V.cell? ⟨p, 1, none⟩ = some (.int .i64 0) := by rw [← hV]; exact ca hpZ z1
  have v2 : V.cell? ⟨p, 2, none⟩ = some (.int .i64 0) := by rw [← hV]; exact ca hpZ z2
  have v8 : V.cell? ⟨p, 8, none⟩ = some (.int .i64 0) := by rw [← hV]; exact ca hpZ z8
  have v9 : V.cell? ⟨p, 9, none⟩ = some (.int .i64 look) := by rw [← hV]; exact ca hpZ z9
  have t0 : V.cell? ⟨b, 0, none⟩ = some (.int .i64 0) := by rw [← hV]; exact ca hbZ u0
  have t1 : V.cell? ⟨b, 1, none⟩ = some (.int .i64 0) := by rw [← hV]; exact ca hbZ u1
  have t2 : V.cell? ⟨b, 2, none⟩ = some (.int .i64 0) := by rw [← hV]; exact ca hbZ u2
  have t8 : V.cell? ⟨b, 8, none⟩ = some (.int .i64 0) := by rw [← hV]; exact ca hbZ u8
  clear hV
  go_quiet ((go_at_call 20; exact quiet_left (c20n _ look _ hl (by go_simp))))
  go_wp2
  go_ret
  exact ⟨rfl, bdrewN HV _⟩

set_option maxHeartbeats 1000000 in
theorem c13Bp (p b : Nat) (x : Addr) (pa ba : Addr) (look : Int) (w Y0 : World) (hY : w.setCell ⟨p, 7, none⟩ (.iface 37 (.pointer (some x))) = Y0) (hp : p < w.heap.size) (hb : b < w.heap.size) (hl : ¬ look < 0) (hl0 : 0 ≤ look) (hl1 : look ≤ 9223372036854775807) (p0 : w.cell? ⟨p, 0, none⟩ = some (.int .i64 0)) (p1 : w.cell? ⟨p, 1, none⟩ = some (.int .i64 0)) (p2 : w.cell? ⟨p, 2, none⟩ = some (.int .i64 0)) (p7 : w.cell? ⟨p, 7, none⟩ = some (.iface 37 (.pointer (some pa)))) (p8 : w.cell? ⟨p, 8, none⟩ = some (.int .i64 0)) (p9 : w.cell? ⟨p, 9, none⟩ = some (.int .i64 look)) (b0 : w.cell? ⟨b, 0, none⟩ = some (.int .i64 0)) (b1 : w.cell? ⟨b, 1, none⟩ = some (.int .i64 0)) (b2 : w.cell? ⟨b, 2, none⟩ = some (.int .i64 0)) (b7 : w.cell? ⟨b, 7, none⟩ = some (.iface 37 (.pointer (some ba)))) (b8 : w.cell? ⟨b, 8, none⟩ = some (.int .i64 0)) (f7 : w.frozen? ⟨p, 7, none⟩ = false) (f8 : w.frozen? ⟨p, 8, none⟩ = false) :
    Calls Tryz.prog 13 #[.pointer (some ⟨p, 0, none⟩), .iface 37 (.pointer (some x)), .pointer (some ⟨b, 0, none⟩)] w fun e w' => e = .returned (.bool false) ∧ Below w.heap.size Y0 w' := by
  obtain ⟨Y, hY'⟩ : ∃ Y, Y = w := ⟨_, rfl⟩
  have HY : Below w.heap.size Y w := by rw [hY']; exact Below.refl _ _
  have HE := Lib.hid hY
  have HE' := Lib.hid hY'
  have hW : w.heap.size ≤ w.heap.size := Nat.le_refl _
  clear hY' hY
  go_enter Tryz.func13, Tryz.ntmps13
  go_wp2
  go_quiet (fail)
  go_wp2
  generalize hX : w.drewN nq = X
  have HB : Below w.heap.size Y X := by rw [← hX]; exact bdrewN HY nq
  have hBX : w.heap.size ≤ X.heap.size := by rw [← hX]; exact hW
  have hpX : p < X.heap.size := Nat.lt_of_lt_of_le hp hBX
  have hbX : b < X.heap.size := Nat.lt_of_lt_of_le hb hBX
  have x7 : X.cell? ⟨p, 7, none⟩ = some (.iface 37 (.pointer (some pa))) := by rw [← hX]; exact p7
  have xf7 : X.frozen? ⟨p, 7, none⟩ = false := by rw [← hX]; exact f7
  have xf8 : X.frozen? ⟨p, 8, none⟩ = false := by rw [← hX]; exact f8
  have x0 : X.cell? ⟨p, 0, none⟩ = some (.int .i64 0) := by rw [← hX]; exact p0
  have x1 : X.cell? ⟨p, 1, none⟩ = some (.int .i64 0) := by rw [← hX]; exact p1
  have x2 : X.cell? ⟨p, 2, none⟩ = some (.int .i64 0) := by rw [← hX]; exact p2
  have x8 : X.cell? ⟨p, 8, none⟩ = some (.int .i64 0) := by rw [← hX]; exact p8
  have x9 : X.cell? ⟨p, 9, none⟩ = some (.int .i64 look) := by rw [← hX]; exact p9
  have y0 : X.cell? ⟨b, 0, none⟩ = some (.int .i64 0) := by rw [← hX]; exact b0
  have y1 : X.cell? ⟨b, 1, none⟩ = some (.int .i64 0) := by rw [← hX]; exact b1
  have y2 : X.cell? ⟨b, 2, none⟩ = some (.int .i64 0) := by rw [← hX]; exact b2
  have y8 : X.cell? ⟨b, 8, none⟩ = some (.int .i64 0) := by rw [← hX]; exact b8
  clear hX
  go_region_held3 (fun w' => Below w.heap.size Y w' ∧ p < w'.heap.size ∧ b < w'.heap.size ∧ w'.cell? ⟨p, 0, none⟩ = some (.int .i64 0) ∧ w'.cell? ⟨p, 1, none⟩ = some (.int .i64 0) ∧ w'.cell? ⟨p, 2, none⟩ = some (.int .i64 0) ∧ w'.cell? ⟨p, 8, none⟩ = some (.int .i64 0) ∧ w'.cell? ⟨p, 9, none⟩ = some (.int .i64 look) ∧ w'.cell? ⟨b, 0, none⟩ = some (.int .i64 0) ∧ w'.cell? ⟨b, 1, none⟩ = some (.int .i64 0) ∧ w'.cell? ⟨b, 2, none⟩ = some (.int .i64 0) ∧ w'.cell? ⟨b, 8, none⟩ = some (.int .i64 0)) (first | exact ⟨(HB).drew, hpX, hbX, x0, x1, x2, x8, x9, y0, y1, y2, y8⟩ | exact ⟨((HB.alloc hBX _)).drew, (lta _ hpX), (lta _ hbX), (ca hpX x0), (ca hpX x1), (ca hpX x2), (ca hpX x8), (ca hpX x9), (ca hbX y0), (ca hbX y1), (ca hbX y2), (ca hbX y8)⟩ | go_keep)
    (first | (go_at_call 18; refine (c18 _ _ _ _).mono ?_; rintro e w' ⟨rfl, rfl⟩))
  go_wp2
  generalize hZ : ((X.setCell ⟨p, 7, none⟩ (.iface 37 (.pointer (some x)))).alloc (.cells #[.int .i64 0, .int .i64 0, .int .i64 0] 56)).drew = Z
  have hpX' : p < (X.setCell ⟨p, 7, none⟩ (.iface 37 (.pointer (some x)))).heap.size := by simpa [World.setCell] using hpX
  have hbX' : b < (X.setCell ⟨p, 7, none⟩ (.iface 37 (.pointer (some x)))).heap.size := by simpa [World.setCell] using hbX
  have hBX' : w.heap.size ≤ (X.setCell ⟨p, 7, none⟩ (.iface 37 (.pointer (some x)))).heap.size := by simpa [World.setCell] using hBX
  have HZ : Below w.heap.size Y0 Z := by rw [← hZ, ← HE.out, ← HE'.out]; exact ((below_set (HE'.out ▸ HB) _ _).alloc (by rw [HE'.out]; exact hBX') _).drew
  have hBZ : w.heap.size ≤ Z.heap.size := by rw [← hZ]; exact le_alloc _ hBX'
  have hpZ : p < Z.heap.size := by rw [← hZ]; exact lta _ hpX'
  have hbZ : b < Z.heap.size := by rw [← hZ]; exact lta _ hbX'
  have zf8 : Z.frozen? ⟨p, 8, none⟩ = false := by rw [← hZ]; exact (Below.frozen ((Below.refl _ _).alloc (Nat.le_refl _) _) (p := ⟨p, 8, none⟩) hpX').trans (by rw [World.frozen?_setCell]; exact xf8)
  have z0 : Z.cell? ⟨p, 0, none⟩ = some (.int .i64 0) := by rw [← hZ]; exact ca hpX' (st7 x0 (by decide))
  have z1 : Z.cell? ⟨p, 1, none⟩ = some (.int .i64 0) := by rw [← hZ]; exact ca hpX' (st7 x1 (by decide))
  have z2 : Z.cell? ⟨p, 2, none⟩ = some (.int .i64 0) := by rw [← hZ]; exact ca hpX' (st7 x2 (by decide))
  have z8 : Z.cell? ⟨p, 8, none⟩ = some (.int .i64 0) := by rw [← hZ]; exact ca hpX' (st7 x8 (by decide))
  have z9 : Z.cell? ⟨p, 9, none⟩ = some (.int .i64 look) := by rw [← hZ]; exact ca hpX' (st7 x9 (by decide))
  have u0 : Z.cell? ⟨b, 0, none⟩ = some (.int .i64 0) := by rw [← hZ]; exact ca hbX' (st7 y0 (by decide))
  have u1 : Z.cell? ⟨b, 1, none⟩ = some (.int .i64 0) := by rw [← hZ]; exact ca hbX' (st7 y1 (by decide))
  have u2 : Z.cell? ⟨b, 2, none⟩ = some (.int .i64 0) := by rw [← hZ]; exact ca hbX' (st7 y2 (by decide))
  have u8 : Z.cell? ⟨b, 8, none⟩ = some (.int .i64 0) := by rw [← hZ]; exact ca hbX' (st7 y8 (by decide))
  clear hZ
  have hset : Z.setCell ⟨p, 8, none⟩ (.int .i64 0) = Z := set_self z8
  go_region_held3 (fun w' => Below w.heap.size Y0 w' ∧ p < w'.heap.size ∧ b < w'.heap.size ∧ w'.cell? ⟨p, 0, none⟩ = some (.int .i64 0) ∧ w'.cell? ⟨p, 1, none⟩ = some (.int .i64 0) ∧ w'.cell? ⟨p, 2, none⟩ = some (.int .i64 0) ∧ w'.cell? ⟨p, 8, none⟩ = some (.int .i64 0) ∧ w'.cell? ⟨p, 9, none⟩ = some (.int .i64 look) ∧ w'.cell? ⟨b, 0, none⟩ = some (.int .i64 0) ∧ w'.cell? ⟨b, 1, none⟩ = some (.int .i64 0) ∧ w'.cell? ⟨b, 2, none⟩ = some (.int .i64 0) ∧ w'.cell? ⟨b, 8, none⟩ = some (.int .i64 0)) (first | exact ⟨(HZ).drew, hpZ, hbZ, z0, z1, z2, z8, z9, u0, u1, u2, u8⟩ | exact ⟨((HZ.alloc hBZ _)).drew, (lta _ hpZ), (lta _ hbZ), (ca hpZ z0), (ca hpZ z1), (ca hpZ z2), (ca hpZ z8), (ca hpZ z9), (ca hbZ u0), (ca hbZ u1), (ca hbZ u2), (ca hbZ u8)⟩ | exact ⟨(((HZ.alloc hBZ _).alloc (le_alloc _ hBZ) _)).drew, (lta _ (lta _ hpZ)), (lta _ (lta _ hbZ)), (ca (lta _ hpZ) (ca hpZ z0)), (ca (lta _ hpZ) (ca hpZ z1)), (ca (lta _ hpZ) (ca hpZ z2)), (ca (lta _ hpZ) (ca hpZ z8)), (ca (lta _ hpZ) (ca hpZ z9)), (ca (lta _ hbZ) (ca hbZ u0)), (ca (lta _ hbZ) (ca hbZ u1)), (ca (lta _ hbZ) (ca hbZ u2)), (ca (lta _ hbZ) (ca hbZ u8))⟩ | (trace_state; fail))
    (first | (go_at_call 18; refine (c18 _ _ _ _).mono ?_; rintro e w' ⟨rfl, rfl⟩) | (go_at_call 19; refine (c19 _).mono ?_; rintro e w' ⟨rfl, rfl⟩))
  go_wp2
  clear hset
  generalize hV : (Z.alloc (.cells #[.int .i64 0, .int .i64 0, .int .i64 0] 56)).drew = V
  have HV : Below w.heap.size Y0 V := by rw [← hV]; exact (HZ.alloc hBZ _).drew
  have hBV : w.heap.size ≤ V.heap.size := by rw [← hV]; exact le_alloc _ hBZ
  have hpV : p < V.heap.size := by rw [← hV]; exact lta _ hpZ
  have hbV : b < V.heap.size := by rw [← hV]; exact lta _ hbZ
  have v0 : V.cell? ⟨p, 0, none⟩ = some (.int .i64 0) := by rw [← hV]; exact ca hpZ z0
  have v1 : V.cell? ⟨p, 1, none⟩ = some (.int .i64 0) := by rw [← hV]; exact ca hpZ z1
  have v2 : V.cell? ⟨p, 2, none⟩ = some (.int .i64 0) := by rw [← hV]; exact ca hpZ z2
  have v8 : V.cell? ⟨p, 8, none⟩ = some (.int .i64 0) := by rw [← hV]; exact ca hpZ z8
  have v9 : V.cell? ⟨p, 9, none⟩ = some (.int .i64 look) := by rw [← hV]; exact ca hpZ z9
  have t0 : V.cell? ⟨b, 0, none⟩ = some (.int .i64 0) := by rw [← hV]; exact ca hbZ u0
  have t1 : V.cell? ⟨b, 1, none⟩ = some (.int .i64 0) := by rw [← hV]; exact ca hbZ u1
  have t2 : V.cell? ⟨b, 2, none⟩ = some (.int .i64 0) := by rw [← hV]; exact ca hbZ u2
  have t8 : V.cell? ⟨b, 8, none⟩ = some (.int .i64 0) := by rw [← hV]; exact ca hbZ u8
  clear hV
  have hwr : IntKind.i64.wrap look = look := IntWalk.i64_in _ (by omega)
  go_region_held3 (fun w' => Below w.heap.size Y0 w' ∧ p < w'.heap.size ∧ b < w'.heap.size ∧ w'.cell? ⟨p, 0, none⟩ = some (.int .i64 0) ∧ w'.cell? ⟨p, 1, none⟩ = some (.int .i64 0) ∧ w'.cell? ⟨p, 2, none⟩ = some (.int .i64 0) ∧ w'.cell? ⟨p, 8, none⟩ = some (.int .i64 0) ∧ w'.cell? ⟨p, 9, none⟩ = some (.int .i64 look) ∧ w'.cell? ⟨b, 0, none⟩ = some (.int .i64 0) ∧ w'.cell? ⟨b, 1, none⟩ = some (.int .i64 0) ∧ w'.cell? ⟨b, 2, none⟩ = some (.int .i64 0) ∧ w'.cell? ⟨b, 8, none⟩ = some (.int .i64 0)) (first | exact ⟨(HV).drew, hpV, hbV, v0, v1, v2, v8, v9, t0, t1, t2, t8⟩ | exact ⟨((HV.alloc hBV _)).drew, (lta _ hpV), (lta _ hbV), (ca hpV v0), (ca hpV v1), (ca hpV v2), (ca hpV v8), (ca hpV v9), (ca hbV t0), (ca hbV t1), (ca hbV t2), (ca hbV t8)⟩ | exact ⟨(((HV.alloc hBV _).alloc (le_alloc _ hBV) _)).drew, (lta _ (lta _ hpV)), (lta _ (lta _ hbV)), (ca (lta _ hpV) (ca hpV v0)), (ca (lta _ hpV) (ca hpV v1)), (ca (lta _ hpV) (ca hpV v2)), (ca (lta _ hpV) (ca hpV v8)), (ca (lta _ hpV) (ca hpV v9)), (ca (lta _ hbV) (ca hbV t0)), (ca (lta _ hbV) (ca hbV t1)), (ca (lta _ hbV) (ca hbV t2)), (ca (lta _ hbV) (ca hbV t8))⟩ | go_keep)
    (first | (go_at_call 20; refine (c20p _ look _ (by omega) ?_).mono ?_; (assumption); rintro e w' ⟨rfl, rfl⟩) | (go_at_call 18; refine (c18 _ _ _ _).mono ?_; rintro e w' ⟨rfl, rfl⟩))
  go_wp2
  go_ret
  exact ⟨rfl, ((HV.alloc hBV _).alloc (le_alloc _ hBV) _).drew⟩
end Go.Proofs.YtiahdmoigmoibaaGreat.stop
