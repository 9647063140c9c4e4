/-
  PROVED HERE: what Stop, ZZdepth and zzB2Which do in the memory that the law lays (structure St), by the three cases of the depths.
  CONDITIONS: St of the world at hand.
-/
import Derived.Test.YtiahdmoigmoibaaGreatStopA
import Derived.Test.YtiahdmoigmoibaaGreatStopB
import Derived.Test.YtiahdmoigmoibaaGreatStopC
import Derived.OpenShut
import Derived.ProofKit
namespace Go.Proofs.YtiahdmoigmoibaaGreat.stop
open Go.RowKit
set_option linter.unusedVariables false
set_option maxRecDepth 100000
theorem c6 {B : Nat} {Y : World} (p b : Nat) (x : Addr) (w : World) (h : Calls Tryz.prog 13 #[.pointer (some ⟨p, 0, none⟩), .iface 37 (.pointer (some x)), .pointer (some ⟨b, 0, none⟩)] w fun e w' => e = .returned (.bool false) ∧ Below B Y w') :
    Calls Tryz.prog 6 #[.pointer (some ⟨p, 0, none⟩), .pointer (some x), .pointer (some ⟨b, 0, none⟩)] w fun e w' => e = .returned (.bool false) ∧ Below B Y w' := by
  have H := Lib.hid h; clear h
  go_enter Tryz.func6, Tryz.ntmps6
  go_wp2_with (go_at_call 13; refine H.out.mono ?_; rintro e w' ⟨rfl, hq⟩)
  go_ret
  exact ⟨rfl, hq⟩

theorem c7 (p : Nat) (d : Int) (w : World) (h : w.cell? ⟨p, 8, none⟩ = some (.int .i64 d)) :
    Calls Tryz.prog 7 #[.pointer (some ⟨p, 0, none⟩)] w fun e w' => e = .returned (.int .i64 d) ∧ w = w' := by
  go_enter Tryz.func7, Tryz.ntmps7
  go_wp2
  go_ret
  exact ⟨rfl, rfl⟩

theorem comp37 : (Tryz.prog.info? 37).map (fun i => i.comparable) = some true := by kernel_rfl
theorem size44 : (Tryz.prog.info? 44).map (fun i => i.size != 0) = some true := by kernel_rfl
theorem c14s (p : Nat) (a : Addr) (w : World) (h : w.cell? ⟨p, 7, none⟩ = some (.iface 37 (.pointer (some a)))) :
    Calls Tryz.prog 14 #[.pointer (some ⟨p, 0, none⟩), .pointer (some a)] w fun e w' => e = .returned (.bool true) ∧ w = w' := by
  obtain ⟨i, hi, hc⟩ := Option.map_eq_some_iff.1 comp37
  obtain ⟨j, hj, hs⟩ := Option.map_eq_some_iff.1 size44
  have he := run_eql_iface_ptr_same w a Tryz.underlying25 Tryz.underlying37 hi hc hj
  clear hi hc hj hs
  go_enter Tryz.func14, Tryz.ntmps14
  go_wp2
  go_ret
  exact ⟨rfl, rfl⟩
theorem c14o (p : Nat) (a x : Addr) (ca cb : Array Value) (ta tb : TypeId) (w : World) (hne : a ≠ x) (ha : w.heap[a.block]? = some (.cells ca ta (0, 0))) (hb : w.heap[x.block]? = some (.cells cb tb (0, 0))) (h : w.cell? ⟨p, 7, none⟩ = some (.iface 37 (.pointer (some a)))) :
    Calls Tryz.prog 14 #[.pointer (some ⟨p, 0, none⟩), .pointer (some x)] w fun e w' => e = .returned (.bool false) ∧ w = w' := by
  obtain ⟨i, hi, hc⟩ := Option.map_eq_some_iff.1 comp37
  obtain ⟨j, hj, hs⟩ := Option.map_eq_some_iff.1 size44
  have he := run_eql_iface_ptr_other w Tryz.underlying25 Tryz.underlying37 hi hc hj (by simpa using hs) hne ha hb
  clear hi hc hj hs ha hb
  go_enter Tryz.func14, Tryz.ntmps14
  go_wp2
  go_ret
  exact ⟨rfl, rfl⟩

/-- what 'which' answers, by which of the three pointers is held -/
theorem c8_1 (p : Nat) (a b c : Addr) (w : World) (h : w.cell? ⟨p, 7, none⟩ = some (.iface 37 (.pointer (some a)))) :
    Calls Tryz.prog 8 #[.pointer (some ⟨p, 0, none⟩), .pointer (some a), .pointer (some b), .pointer (some c)] w fun e w' => e = .returned (.int .i64 1) ∧ w = w' := by
  go_enter Tryz.func8, Tryz.ntmps8
  go_wp2_with (go_at_call 14; refine (c14s p a w h).mono ?_; rintro e w' ⟨rfl, rfl⟩)
  go_ret
  exact ⟨rfl, rfl⟩
theorem c8_2 (p : Nat) (a b c : Addr) (ca cb : Array Value) (ta tb : TypeId) (w : World) (hne : b ≠ a) (ha : w.heap[a.block]? = some (.cells ca ta (0, 0))) (hb : w.heap[b.block]? = some (.cells cb tb (0, 0))) (h : w.cell? ⟨p, 7, none⟩ = some (.iface 37 (.pointer (some b)))) :
    Calls Tryz.prog 8 #[.pointer (some ⟨p, 0, none⟩), .pointer (some a), .pointer (some b), .pointer (some c)] w fun e w' => e = .returned (.int .i64 2) ∧ w = w' := by
  have A := Lib.hid ha; have B := Lib.hid hb; clear ha hb
  go_enter Tryz.func8, Tryz.ntmps8
  go_wp2_with fail
  refine (c14o p b a _ _ _ _ w hne B.out A.out h).mono ?_; rintro e w' ⟨rfl, rfl⟩
  go_wp2_with fail
  refine (c14s p b w h).mono ?_; rintro e w' ⟨rfl, rfl⟩
  go_wp2
  go_ret
  exact ⟨rfl, rfl⟩
theorem c8_3 (p : Nat) (a b c : Addr) (ca cb cc : Array Value) (ta tb tc : TypeId) (w : World) (hne : c ≠ a) (hne' : c ≠ b) (ha : w.heap[a.block]? = some (.cells ca ta (0, 0))) (hb : w.heap[b.block]? = some (.cells cb tb (0, 0))) (hc : w.heap[c.block]? = some (.cells cc tc (0, 0))) (h : w.cell? ⟨p, 7, none⟩ = some (.iface 37 (.pointer (some c)))) :
    Calls Tryz.prog 8 #[.pointer (some ⟨p, 0, none⟩), .pointer (some a), .pointer (some b), .pointer (some c)] w fun e w' => e = .returned (.int .i64 3) ∧ w = w' := by
  have A := Lib.hid ha; have B := Lib.hid hb; have C := Lib.hid hc; clear ha hb hc
  go_enter Tryz.func8, Tryz.ntmps8
  go_wp2_with fail
  refine (c14o p c a _ _ _ _ w hne C.out A.out h).mono ?_; rintro e w' ⟨rfl, rfl⟩
  go_wp2_with fail
  refine (c14o p c b _ _ _ _ w hne' C.out B.out h).mono ?_; rintro e w' ⟨rfl, rfl⟩
  go_wp2_with fail
  refine (c14s p c w h).mono ?_; rintro e w' ⟨rfl, rfl⟩
  go_wp2
  go_ret
  exact ⟨rfl, rfl⟩

/-- the memory between the calls: the parent context in block N + 3, the branch in N + 5, the three errors in N, N + 4, N + 6; the parent holds the error of block N + k at depth d -/
structure St (N k : Nat) (d bd look : Int) (w : World) : Prop where
  p0 : w.cell? ⟨N + 3, 0, none⟩ = some (.int .i64 0)
  p1 : w.cell? ⟨N + 3, 1, none⟩ = some (.int .i64 0)
  p2 : w.cell? ⟨N + 3, 2, none⟩ = some (.int .i64 0)
  p7 : w.cell? ⟨N + 3, 7, none⟩ = some (.iface 37 (.pointer (some ⟨N + k, 0, none⟩)))
  p8 : w.cell? ⟨N + 3, 8, none⟩ = some (.int .i64 d)
  p9 : w.cell? ⟨N + 3, 9, none⟩ = some (.int .i64 look)
  b0 : w.cell? ⟨N + 5, 0, none⟩ = some (.int .i64 0)
  b1 : w.cell? ⟨N + 5, 1, none⟩ = some (.int .i64 0)
  b2 : w.cell? ⟨N + 5, 2, none⟩ = some (.int .i64 0)
  b7 : w.cell? ⟨N + 5, 7, none⟩ = some (.iface 37 (.pointer (some ⟨N + 4, 0, none⟩)))
  b8 : w.cell? ⟨N + 5, 8, none⟩ = some (.int .i64 bd)
  f7 : w.frozen? ⟨N + 3, 7, none⟩ = false
  f8 : w.frozen? ⟨N + 3, 8, none⟩ = false
  size : N + 6 < w.heap.size
  e0 : ∃ c t, w.heap[N]? = some (.cells c t (0, 0))
  e4 : ∃ c t, w.heap[N + 4]? = some (.cells c t (0, 0))
  e6 : ∃ c t, w.heap[N + 6]? = some (.cells c t (0, 0))

theorem oth {w : World} {a b : Addr} {v : Value} (h : a ≠ b) : (w.setCell a v).cell? b = w.cell? b := World.cell?_setCell_other _ _ _ _ h
theorem sam {w : World} {a : Addr} {v u : Value} (h : w.cell? a = some u) : (w.setCell a v).cell? a = some v := World.cell?_setCell_same _ _ _ h
theorem St.next {N k k' : Nat} {d d' bd look : Int} {w w' : World} (h : St N k d bd look w)
    (hb : Below w.heap.size ((w.setCell ⟨N + 3, 7, none⟩ (.iface 37 (.pointer (some ⟨N + k', 0, none⟩)))).setCell ⟨N + 3, 8, none⟩ (.int .i64 d')) w') : St N k' d' bd look w' := by
  have hs := h.size
  have hz : w.heap.size ≤ w'.heap.size := Nat.le_trans (by simp [World.setCell]) hb.size
  refine { p0 := ?_, p1 := ?_, p2 := ?_, p7 := ?_, p8 := ?_, p9 := ?_, b0 := ?_, b1 := ?_, b2 := ?_, b7 := ?_, b8 := ?_, f7 := ?_, f8 := ?_, size := by omega, e0 := ?_, e4 := ?_, e6 := ?_ }
  · exact (hb.cell (p := ⟨N + 3, 0, none⟩) (by have := h.size; show N + 3 < _; omega)).trans (st_cell (n := 0) h.p0 (by decide) (by decide))
  · exact (hb.cell (p := ⟨N + 3, 1, none⟩) (by have := h.size; show N + 3 < _; omega)).trans (st_cell (n := 0) h.p1 (by decide) (by decide))
  · exact (hb.cell (p := ⟨N + 3, 2, none⟩) (by have := h.size; show N + 3 < _; omega)).trans (st_cell (n := 0) h.p2 (by decide) (by decide))
  · exact (hb.cell (p := ⟨N + 3, 7, none⟩) (by show N + 3 < _; omega)).trans ((oth (by simp)).trans (sam h.p7))
  · exact (hb.cell (p := ⟨N + 3, 8, none⟩) (by show N + 3 < _; omega)).trans (sam ((oth (by simp)).trans h.p8))
  · exact (hb.cell (p := ⟨N + 3, 9, none⟩) (by have := h.size; show N + 3 < _; omega)).trans (st_cell (n := 0) h.p9 (by decide) (by decide))
  · exact (hb.cell (p := ⟨N + 5, 0, none⟩) (by have := h.size; show N + 5 < _; omega)).trans (st_cell (n := 0) h.b0 (by decide) (by decide))
  · exact (hb.cell (p := ⟨N + 5, 1, none⟩) (by have := h.size; show N + 5 < _; omega)).trans (st_cell (n := 0) h.b1 (by decide) (by decide))
  · exact (hb.cell (p := ⟨N + 5, 2, none⟩) (by have := h.size; show N + 5 < _; omega)).trans (st_cell (n := 0) h.b2 (by decide) (by decide))
  · exact (hb.cell (p := ⟨N + 5, 7, none⟩) (by show N + 5 < _; omega)).trans (((oth (by simp)).trans (oth (by simp))).trans h.b7)
  · exact (hb.cell (p := ⟨N + 5, 8, none⟩) (by show N + 5 < _; omega)).trans (((oth (by simp)).trans (oth (by simp))).trans h.b8)
  · exact (hb.frozen (p := ⟨N + 3, 7, none⟩) (by show N + 3 < _; omega)).trans (by rw [World.frozen?_setCell, World.frozen?_setCell]; exact h.f7)
  · exact (hb.frozen (p := ⟨N + 3, 8, none⟩) (by show N + 3 < _; omega)).trans (by rw [World.frozen?_setCell, World.frozen?_setCell]; exact h.f8)
  · obtain ⟨c, t, e⟩ := h.e0; exact ⟨c, t, (hb.block (N) (by omega)).trans ((Below.heap_setCell _ _ _ _ (by simp)).trans ((Below.heap_setCell _ _ _ _ (by simp)).trans e))⟩
  · obtain ⟨c, t, e⟩ := h.e4; exact ⟨c, t, (hb.block (N + 4) (by omega)).trans ((Below.heap_setCell _ _ _ _ (by simp)).trans ((Below.heap_setCell _ _ _ _ (by simp)).trans e))⟩
  · obtain ⟨c, t, e⟩ := h.e6; exact ⟨c, t, (hb.block (N + 6) (by omega)).trans ((Below.heap_setCell _ _ _ _ (by simp)).trans ((Below.heap_setCell _ _ _ _ (by simp)).trans e))⟩

theorem below_two {N B : Nat} {w w' : World} {u v : Value} (hN : N ≤ B) (hB : Below B ((w.setCell ⟨N + 3, 7, none⟩ u).setCell ⟨N + 3, 8, none⟩ v) w') : Below N w w' :=
  (((Below.refl N w).setCell (p := ⟨N + 3, 7, none⟩) (by show N ≤ N + 3; omega) u).setCell (p := ⟨N + 3, 8, none⟩) (by show N ≤ N + 3; omega) v).trans (hB.mono hN)

theorem stopA {N k : Nat} {d bd look : Int} {w : World} (h : St N k d bd look w) (hd : d < bd) (hw : (Lit.int .i64 look).wf = true) :
    Calls Tryz.prog 6 #[.pointer (some ⟨N + 3, 0, none⟩), .pointer (some ⟨N + 6, 0, none⟩), .pointer (some ⟨N + 5, 0, none⟩)] w fun e w' => e = .returned (.bool false) ∧ Below N w w' ∧ St N 4 bd bd look w' := by
  have hs := h.size
  have key : Calls Tryz.prog 13 #[.pointer (some ⟨N + 3, 0, none⟩), .iface 37 (.pointer (some ⟨N + 6, 0, none⟩)), .pointer (some ⟨N + 5, 0, none⟩)] w fun e w' => e = .returned (.bool false) ∧ Below w.heap.size ((w.setCell ⟨N + 3, 7, none⟩ (.iface 37 (.pointer (some ⟨N + 4, 0, none⟩)))).setCell ⟨N + 3, 8, none⟩ (.int .i64 bd)) w' := by
    by_cases hl : look < 0
    · exact c13An (N + 3) (N + 5) ⟨N + 6, 0, none⟩ ⟨N + k, 0, none⟩ ⟨N + 4, 0, none⟩ d bd look w _ rfl (by omega) (by omega) hd hl h.p0 h.p1 h.p2 h.p7 h.p8 h.p9 h.b0 h.b1 h.b2 h.b7 h.b8 h.f7 h.f8
    · exact c13Ap (N + 3) (N + 5) ⟨N + 6, 0, none⟩ ⟨N + k, 0, none⟩ ⟨N + 4, 0, none⟩ d bd look w _ rfl (by omega) (by omega) hd hl (by omega) (by have := bounds_i64 hw; omega) h.p0 h.p1 h.p2 h.p7 h.p8 h.p9 h.b0 h.b1 h.b2 h.b7 h.b8 h.f7 h.f8
  exact (c6 _ _ _ _ key).mono fun e w' ⟨he, hb⟩ => ⟨he, below_two (by omega) hb, h.next hb⟩
theorem stopC {N k : Nat} {d bd look : Int} {w : World} (h : St N k d bd look w) (hd : ¬ d < bd) (h0 : 0 < d) (hw : (Lit.int .i64 look).wf = true) :
    Calls Tryz.prog 6 #[.pointer (some ⟨N + 3, 0, none⟩), .pointer (some ⟨N + 6, 0, none⟩), .pointer (some ⟨N + 5, 0, none⟩)] w fun e w' => e = .returned (.bool false) ∧ Below N w w' ∧ St N k d bd look w' := by
  have hs := h.size
  have key : Calls Tryz.prog 13 #[.pointer (some ⟨N + 3, 0, none⟩), .iface 37 (.pointer (some ⟨N + 6, 0, none⟩)), .pointer (some ⟨N + 5, 0, none⟩)] w fun e w' => e = .returned (.bool false) ∧ Below w.heap.size w w' := by
    by_cases hl : look < 0
    · exact c13Cn (N + 3) (N + 5) ⟨N + 6, 0, none⟩ ⟨N + k, 0, none⟩ ⟨N + 4, 0, none⟩ d bd look w (by omega) (by omega) hd h0 hl h.p0 h.p1 h.p2 h.p7 h.p8 h.p9 h.b0 h.b1 h.b2 h.b7 h.b8
    · exact c13Cp (N + 3) (N + 5) ⟨N + 6, 0, none⟩ ⟨N + k, 0, none⟩ ⟨N + 4, 0, none⟩ d bd look w (by omega) (by omega) hd h0 hl (by omega) (by have := bounds_i64 hw; omega) h.p0 h.p1 h.p2 h.p7 h.p8 h.p9 h.b0 h.b1 h.b2 h.b7 h.b8
  have self : (w.setCell ⟨N + 3, 7, none⟩ (.iface 37 (.pointer (some ⟨N + k, 0, none⟩)))).setCell ⟨N + 3, 8, none⟩ (.int .i64 d) = w := by rw [set_self h.p7, set_self h.p8]
  exact (c6 _ _ _ _ key).mono fun e w' ⟨he, hb⟩ => ⟨he, hb.mono (by omega), h.next (by rw [self]; exact hb)⟩
theorem stopB {N k : Nat} {look : Int} {w : World} (h : St N k 0 0 look w) (hw : (Lit.int .i64 look).wf = true) :
    Calls Tryz.prog 6 #[.pointer (some ⟨N + 3, 0, none⟩), .pointer (some ⟨N + 6, 0, none⟩), .pointer (some ⟨N + 5, 0, none⟩)] w fun e w' => e = .returned (.bool false) ∧ Below N w w' ∧ St N 6 0 0 look w' := by
  have hs := h.size
  have key : Calls Tryz.prog 13 #[.pointer (some ⟨N + 3, 0, none⟩), .iface 37 (.pointer (some ⟨N + 6, 0, none⟩)), .pointer (some ⟨N + 5, 0, none⟩)] w fun e w' => e = .returned (.bool false) ∧ Below w.heap.size (w.setCell ⟨N + 3, 7, none⟩ (.iface 37 (.pointer (some ⟨N + 6, 0, none⟩)))) w' := by
    by_cases hl : look < 0
    · exact c13Bn (N + 3) (N + 5) ⟨N + 6, 0, none⟩ ⟨N + k, 0, none⟩ ⟨N + 4, 0, none⟩ look w _ rfl (by omega) (by omega) hl h.p0 h.p1 h.p2 h.p7 h.p8 h.p9 h.b0 h.b1 h.b2 h.b7 h.b8 h.f7 h.f8
    · exact c13Bp (N + 3) (N + 5) ⟨N + 6, 0, none⟩ ⟨N + k, 0, none⟩ ⟨N + 4, 0, none⟩ look w _ rfl (by omega) (by omega) hl (by omega) (by have := bounds_i64 hw; omega) h.p0 h.p1 h.p2 h.p7 h.p8 h.p9 h.b0 h.b1 h.b2 h.b7 h.b8 h.f7 h.f8
  have self : (w.setCell ⟨N + 3, 7, none⟩ (.iface 37 (.pointer (some ⟨N + 6, 0, none⟩)))).setCell ⟨N + 3, 8, none⟩ (.int .i64 0) = w.setCell ⟨N + 3, 7, none⟩ (.iface 37 (.pointer (some ⟨N + 6, 0, none⟩))) := set_self (st7 h.p8 (by decide))
  exact (c6 _ _ _ _ key).mono fun e w' ⟨he, hb⟩ => ⟨he, below_two (B := w.heap.size) (u := .iface 37 (.pointer (some ⟨N + 6, 0, none⟩))) (v := .int .i64 0) (by omega) (by rw [self]; exact hb), h.next (by rw [self]; exact hb)⟩
theorem depth {N k : Nat} {d bd look : Int} {w : World} (h : St N k d bd look w) :
    Calls Tryz.prog 7 #[.pointer (some ⟨N + 3, 0, none⟩)] w fun e w' => e = .returned (.int .i64 d) ∧ w = w' := c7 _ _ _ h.p8
theorem which4 {N : Nat} {d bd look : Int} {w : World} (h : St N 4 d bd look w) :
    Calls Tryz.prog 8 #[.pointer (some ⟨N + 3, 0, none⟩), .pointer (some ⟨N, 0, none⟩), .pointer (some ⟨N + 4, 0, none⟩), .pointer (some ⟨N + 6, 0, none⟩)] w fun e w' => e = .returned (.int .i64 2) ∧ w = w' := by
  obtain ⟨_, _, h0⟩ := h.e0; obtain ⟨_, _, h4⟩ := h.e4
  exact c8_2 (N + 3) ⟨N, 0, none⟩ ⟨N + 4, 0, none⟩ ⟨N + 6, 0, none⟩ _ _ _ _ w (fun e => absurd (congrArg Addr.block e) (by simp)) h0 h4 h.p7
theorem which6 {N : Nat} {d bd look : Int} {w : World} (h : St N 6 d bd look w) :
    Calls Tryz.prog 8 #[.pointer (some ⟨N + 3, 0, none⟩), .pointer (some ⟨N, 0, none⟩), .pointer (some ⟨N + 4, 0, none⟩), .pointer (some ⟨N + 6, 0, none⟩)] w fun e w' => e = .returned (.int .i64 3) ∧ w = w' := by
  obtain ⟨_, _, h0⟩ := h.e0; obtain ⟨_, _, h4⟩ := h.e4; obtain ⟨_, _, h6⟩ := h.e6
  exact c8_3 (N + 3) ⟨N, 0, none⟩ ⟨N + 4, 0, none⟩ ⟨N + 6, 0, none⟩ _ _ _ _ _ _ w (fun e => absurd (congrArg Addr.block e) (by simp)) (fun e => absurd (congrArg Addr.block e) (by simp)) h0 h4 h6 h.p7
theorem which0 {N : Nat} {d bd look : Int} {w : World} (h : St N 0 d bd look w) :
    Calls Tryz.prog 8 #[.pointer (some ⟨N + 3, 0, none⟩), .pointer (some ⟨N, 0, none⟩), .pointer (some ⟨N + 4, 0, none⟩), .pointer (some ⟨N + 6, 0, none⟩)] w fun e w' => e = .returned (.int .i64 1) ∧ w = w' :=
  c8_1 (N + 3) ⟨N, 0, none⟩ ⟨N + 4, 0, none⟩ ⟨N + 6, 0, none⟩ w h.p7
end Go.Proofs.YtiahdmoigmoibaaGreat.stop
