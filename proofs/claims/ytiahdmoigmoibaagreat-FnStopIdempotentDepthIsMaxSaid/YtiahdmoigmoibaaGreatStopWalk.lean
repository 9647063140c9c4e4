/-
  PROVED HERE: what the law FnStopIdempotentDepthIsMax does, for every look, pDepth and bDepth: it returns true, and no block that was there is touched.
  CONDITIONS: none but that the numbers fit an int.
-/
import Derived.Test.YtiahdmoigmoibaaGreatStopTail
import Derived.Test.YtiahdmoigmoibaaGreatProg
import Derived.WalkKit
import Derived.WalkSpells
import Derived.WalkLawsBesides
import Derived.LaidEql
import Derived.RegionTactic
import Derived.ChangeAlike
import Derived.Deep.QuietTactic
import Derived.BigQuiet
import Derived.IntWalk
import Derived.Lib.Hide
import Derived.Deep.RegionHeld3
namespace Go.Proofs.YtiahdmoigmoibaaGreat.stop
open Go.RowKit
set_option linter.unusedVariables false
set_option maxRecDepth 100000

theorem got' {w : World} {o : Obj} {k : Nat} (h : k = w.heap.size) : (w.alloc o).heap[k]? = some o := by subst h; show (w.heap.push o)[w.heap.size]? = some o; rw [Array.getElem?_push, if_pos rfl]
theorem keep {w : World} {o x : Obj} {k : Nat} (h : w.heap[k]? = some x) : (w.alloc o).heap[k]? = some x :=
  (Below.heap_alloc _ _ _ (Array.getElem?_eq_some_iff.1 h).1).trans h
/-- the memory when the law has laid the two contexts and the three errors -/
def Lit7 (look d bd : Int) (w : World) : World := (((((((w.alloc (.cells #[.string ⟨#[112]⟩, .string ⟨#[]⟩, .int .i64 0, .int .i64 0, .int .i64 0] 44)).alloc (.cells #[.int .i64 0, .int .i64 0, .int .i64 0, .slice none 0 0, .map none] 60)).alloc (.cells #[.int .i64 0, .int .i64 0, .int .i64 0, .slice none 0 0, .map none, .int .i64 0, .nilIface, .nilIface, .int .i64 0, .int .i64 look, .map none, .slice none 0 0, .bool false] 65)).alloc (.cells #[.int .i64 0, .int .i64 0, .int .i64 0, .slice none 0 0, .map none, .int .i64 0, .nilIface, .iface 37 (.pointer (some ⟨w.heap.size, 0, none⟩)), .int .i64 d, .int .i64 look, .map none, .slice none 0 0, .bool false] 65)).alloc (.cells #[.string ⟨#[98]⟩, .string ⟨#[]⟩, .int .i64 0, .int .i64 0, .int .i64 0] 44)).alloc (.cells #[.int .i64 0, .int .i64 0, .int .i64 0, .slice none 0 0, .map none, .int .i64 0, .nilIface, .iface 37 (.pointer (some ⟨w.heap.size + 1 + 1 + 1 + 1, 0, none⟩)), .int .i64 bd, .int .i64 look, .map none, .slice none 0 0, .bool false] 65)).alloc (.cells #[.string ⟨#[101]⟩, .string ⟨#[]⟩, .int .i64 0, .int .i64 0, .int .i64 0] 44))
theorem Lit7.below (look d bd : Int) (w : World) : Below w.heap.size w (Lit7 look d bd w) := by
  unfold Lit7
  exact ((((((((Below.refl _ _).alloc (by simp; try omega) _).alloc (by simp; try omega) _).alloc (by simp; try omega) _).alloc (by simp; try omega) _).alloc (by simp; try omega) _).alloc (by simp; try omega) _).alloc (by simp; try omega) _)
theorem lit (look d bd : Int) (w : World) : St w.heap.size 0 d bd look (Lit7 look d bd w) := by
  refine { p0 := ?_, p1 := ?_, p2 := ?_, p7 := ?_, p8 := ?_, p9 := ?_, b0 := ?_, b1 := ?_, b2 := ?_, b7 := ?_, b8 := ?_, f7 := ?_, f8 := ?_, size := ?_, e0 := ⟨#[.string ⟨#[112]⟩, .string ⟨#[]⟩, .int .i64 0, .int .i64 0, .int .i64 0], 44, ?_⟩, e4 := ⟨#[.string ⟨#[98]⟩, .string ⟨#[]⟩, .int .i64 0, .int .i64 0, .int .i64 0], 44, ?_⟩, e6 := ⟨#[.string ⟨#[101]⟩, .string ⟨#[]⟩, .int .i64 0, .int .i64 0, .int .i64 0], 44, ?_⟩ }
  · show (Lit7 look d bd w).cell? ⟨w.heap.size + 1 + 1 + 1, 0, none⟩ = some (.int .i64 0); unfold Lit7; go_simp
  · show (Lit7 look d bd w).cell? ⟨w.heap.size + 1 + 1 + 1, 1, none⟩ = some (.int .i64 0); unfold Lit7; go_simp
  · show (Lit7 look d bd w).cell? ⟨w.heap.size + 1 + 1 + 1, 2, none⟩ = some (.int .i64 0); unfold Lit7; go_simp
  · show (Lit7 look d bd w).cell? ⟨w.heap.size + 1 + 1 + 1, 7, none⟩ = some (.iface 37 (.pointer (some ⟨w.heap.size, 0, none⟩))); unfold Lit7; go_simp
  · show (Lit7 look d bd w).cell? ⟨w.heap.size + 1 + 1 + 1, 8, none⟩ = some (.int .i64 d); unfold Lit7; go_simp
  · show (Lit7 look d bd w).cell? ⟨w.heap.size + 1 + 1 + 1, 9, none⟩ = some (.int .i64 look); unfold Lit7; go_simp
  · show (Lit7 look d bd w).cell? ⟨w.heap.size + 1 + 1 + 1 + 1 + 1, 0, none⟩ = some (.int .i64 0); unfold Lit7; go_simp
  · show (Lit7 look d bd w).cell? ⟨w.heap.size + 1 + 1 + 1 + 1 + 1, 1, none⟩ = some (.int .i64 0); unfold Lit7; go_simp
  · show (Lit7 look d bd w).cell? ⟨w.heap.size + 1 + 1 + 1 + 1 + 1, 2, none⟩ = some (.int .i64 0); unfold Lit7; go_simp
  · show (Lit7 look d bd w).cell? ⟨w.heap.size + 1 + 1 + 1 + 1 + 1, 7, none⟩ = some (.iface 37 (.pointer (some ⟨w.heap.size + 1 + 1 + 1 + 1, 0, none⟩))); unfold Lit7; go_simp
  · show (Lit7 look d bd w).cell? ⟨w.heap.size + 1 + 1 + 1 + 1 + 1, 8, none⟩ = some (.int .i64 bd); unfold Lit7; go_simp
  · show (Lit7 look d bd w).frozen? ⟨w.heap.size + 1 + 1 + 1, 7, none⟩ = false; unfold Lit7; go_simp
  · show (Lit7 look d bd w).frozen? ⟨w.heap.size + 1 + 1 + 1, 8, none⟩ = false; unfold Lit7; go_simp
  · unfold Lit7; simp
  · unfold Lit7; exact keep (keep (keep (keep (keep (keep (got' rfl))))))
  · unfold Lit7; exact keep (keep (got' (by simp)))
  · unfold Lit7; exact got' (by simp)
theorem St.drewN {N k : Nat} {d bd look : Int} {w : World} (h : St N k d bd look w) (n : Nat) : St N k d bd look (w.drewN n) :=
  ⟨h.p0, h.p1, h.p2, h.p7, h.p8, h.p9, h.b0, h.b1, h.b2, h.b7, h.b8, h.f7, h.f8, h.size, h.e0, h.e4, h.e6⟩

set_option maxHeartbeats 1000000 in
theorem c3A (look pd bd : Int) (w : World) (h0 : 0 ≤ pd) (h1 : 0 ≤ bd) (hA : pd < bd) (hw : (Lit.int .i64 look).wf = true) :
    Calls Tryz.prog 3 #[.int .i64 look, .int .i64 pd, .int .i64 bd] w fun e w' => e = .returned (.bool true) ∧ Below w.heap.size w w' := by
  have HW := Lib.hid hw; clear hw
  go_enter Tryz.func3, Tryz.ntmps3
  go_wp2_with fail
  refine (c4 look pd _ w).mono ?_; rintro e w' ⟨rfl, rfl⟩
  go_wp2_with fail
  refine (c5 (w.heap.size + 1 + 1 + 1) ⟨w.heap.size, 0, none⟩ pd look bd _ _ (by simp) (by simp) (by go_simp) (by go_simp) (by go_simp) (by go_simp) (by go_simp) (by go_simp) (by go_simp) (by go_simp) (by go_simp) (by go_simp) (by go_simp) (by go_simp) (by go_simp)).mono ?_; rintro e w' ⟨rfl, rfl⟩
  go_wp2_with fail
  have hst := lit look pd bd w
  have hbl := Lit7.below look pd bd w
  show Calls Tryz.prog 6 _ (Lit7 look pd bd w) _
  generalize Lit7 look pd bd w = W0 at *
  refine (stopA hst hA HW.out).mono ?_; rintro e w1 ⟨rfl, hb1, hst1⟩
  go_wp2_with fail
  refine (depth hst1).mono ?_; rintro e w' ⟨rfl, rfl⟩
  go_wp2_with fail
  refine (which4 hst1).mono ?_; rintro e w' ⟨rfl, rfl⟩
  go_wp2_with fail
  refine (stopC hst1 (by omega) (by omega) HW.out).mono ?_; rintro e w2 ⟨rfl, hb2, hst2⟩
  go_wp2_with fail
  refine (depth hst2).mono ?_; rintro e w' ⟨rfl, rfl⟩
  go_wp2_with fail
  refine (which4 hst2).mono ?_; rintro e w' ⟨rfl, rfl⟩
  go_wp2
  go_ret
  exact ⟨rfl, (hbl.trans hb1).trans hb2⟩

set_option maxHeartbeats 1000000 in
theorem c3C (look pd bd : Int) (w : World) (h0 : 0 ≤ pd) (h1 : 0 ≤ bd) (hA : ¬ pd < bd) (hC : 0 < pd) (hw : (Lit.int .i64 look).wf = true) :
    Calls Tryz.prog 3 #[.int .i64 look, .int .i64 pd, .int .i64 bd] w fun e w' => e = .returned (.bool true) ∧ Below w.heap.size w w' := by
  have HW := Lib.hid hw; clear hw
  go_enter Tryz.func3, Tryz.ntmps3
  go_wp2_with fail
  refine (c4 look pd _ w).mono ?_; rintro e w' ⟨rfl, rfl⟩
  go_wp2_with fail
  refine (c5 (w.heap.size + 1 + 1 + 1) ⟨w.heap.size, 0, none⟩ pd look bd _ _ (by simp) (by simp) (by go_simp) (by go_simp) (by go_simp) (by go_simp) (by go_simp) (by go_simp) (by go_simp) (by go_simp) (by go_simp) (by go_simp) (by go_simp) (by go_simp) (by go_simp)).mono ?_; rintro e w' ⟨rfl, rfl⟩
  go_wp2_with fail
  have hst := lit look pd bd w
  have hbl := Lit7.below look pd bd w
  show Calls Tryz.prog 6 _ (Lit7 look pd bd w) _
  generalize Lit7 look pd bd w = W0 at *
  refine (stopC hst (by omega) (by omega) HW.out).mono ?_; rintro e w1 ⟨rfl, hb1, hst1⟩
  go_wp2_with fail
  refine (depth hst1).mono ?_; rintro e w' ⟨rfl, rfl⟩
  go_wp2_with fail
  refine (which0 hst1).mono ?_; rintro e w' ⟨rfl, rfl⟩
  go_wp2_with fail
  refine (stopC hst1 (by omega) (by omega) HW.out).mono ?_; rintro e w2 ⟨rfl, hb2, hst2⟩
  go_wp2_with fail
  refine (depth hst2).mono ?_; rintro e w' ⟨rfl, rfl⟩
  go_wp2_with fail
  refine (which0 hst2).mono ?_; rintro e w' ⟨rfl, rfl⟩
  go_wp2
  go_ret
  exact ⟨rfl, (hbl.trans hb1).trans hb2⟩

set_option maxHeartbeats 1000000 in
theorem c3B (look pd bd : Int) (w : World) (h0 : pd = 0) (h1 : bd = 0) (hw : (Lit.int .i64 look).wf = true) :
    Calls Tryz.prog 3 #[.int .i64 look, .int .i64 pd, .int .i64 bd] w fun e w' => e = .returned (.bool true) ∧ Below w.heap.size w w' := by
  subst h0 h1
  have HW := Lib.hid hw; clear hw
  go_enter Tryz.func3, Tryz.ntmps3
  go_wp2_with fail
  refine (c4 look 0 _ w).mono ?_; rintro e w' ⟨rfl, rfl⟩
  go_wp2_with fail
  refine (c5 (w.heap.size + 1 + 1 + 1) ⟨w.heap.size, 0, none⟩ 0 look 0 _ _ (by simp) (by simp) (by go_simp) (by go_simp) (by go_simp) (by go_simp) (by go_simp) (by go_simp) (by go_simp) (by go_simp) (by go_simp) (by go_simp) (by go_simp) (by go_simp) (by go_simp)).mono ?_; rintro e w' ⟨rfl, rfl⟩
  go_wp2_with fail
  have hst := lit look 0 0 w
  have hbl := Lit7.below look 0 0 w
  show Calls Tryz.prog 6 _ (Lit7 look 0 0 w) _
  generalize Lit7 look 0 0 w = W0 at *
  refine (stopB hst HW.out).mono ?_; rintro e w1 ⟨rfl, hb1, hst1⟩
  go_wp2_with fail
  refine (depth hst1).mono ?_; rintro e w' ⟨rfl, rfl⟩
  go_wp2_with fail
  refine (which6 hst1).mono ?_; rintro e w' ⟨rfl, rfl⟩
  go_wp2_with fail
  refine (stopB hst1 HW.out).mono ?_; rintro e w2 ⟨rfl, hb2, hst2⟩
  go_wp2_with fail
  refine (depth hst2).mono ?_; rintro e w' ⟨rfl, rfl⟩
  go_wp2_with fail
  refine (which6 hst2).mono ?_; rintro e w' ⟨rfl, rfl⟩
  go_wp2
  go_ret
  exact ⟨rfl, (hbl.trans hb1).trans hb2⟩

theorem c3neg (look pd bd : Int) (w : World) (h : pd < 0) :
    Calls Tryz.prog 3 #[.int .i64 look, .int .i64 pd, .int .i64 bd] w fun e w' => e = .returned (.bool true) ∧ Below w.heap.size w w' := by
  go_enter Tryz.func3, Tryz.ntmps3
  go_wp2
  go_ret
  exact ⟨rfl, Below.refl _ _⟩
theorem c3neg' (look pd bd : Int) (w : World) (h0 : 0 ≤ pd) (h : bd < 0) :
    Calls Tryz.prog 3 #[.int .i64 look, .int .i64 pd, .int .i64 bd] w fun e w' => e = .returned (.bool true) ∧ Below w.heap.size w w' := by
  go_enter Tryz.func3, Tryz.ntmps3
  go_wp2
  go_ret
  exact ⟨rfl, Below.refl _ _⟩
theorem law (look pd bd : Int) (hw : (Lit.int .i64 look).wf = true) (w : World) :
    Calls Tryz.prog 3 #[.int .i64 look, .int .i64 pd, .int .i64 bd] w fun e w' => e = .returned (.bool true) ∧ Below w.heap.size w w' := by
  by_cases h0 : pd < 0
  · exact c3neg look pd bd w h0
  by_cases h1 : bd < 0
  · exact c3neg' look pd bd w (by omega) h1
  by_cases hA : pd < bd
  · exact c3A look pd bd w (by omega) (by omega) hA hw
  by_cases hC : 0 < pd
  · exact c3C look pd bd w (by omega) (by omega) hA hC hw
  · exact c3B look pd bd w (by omega) (by omega) hw
end Go.Proofs.YtiahdmoigmoibaaGreat.stop
