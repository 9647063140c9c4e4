/-
  PROVED HERE: small lemmas on cells, and the contracts of the functions that lay the contexts (ZZnewCtx, ZZsetDeepest, zzB2Mk, Branch, ZZbranch, zzB2Br, Cursor, maxInt, hasInfiniteLookahead): what each returns and which blocks it lays.
  CONDITIONS: the cells that each contract names are there.
-/
import Derived.Test.YtiahdmoigmoibaaGreatProg
import Derived.WalkKit
import Derived.WalkSpells
import Derived.WalkLawsBesides
import Derived.LaidEql
import Derived.RegionTactic
import Derived.ChangeAlike
import Derived.Deep.QuietTactic
import Derived.BigQuiet
import Derived.IntWalk
import Derived.Lib.Hide
import Derived.Deep.RegionHeld3
namespace Go.Proofs.YtiahdmoigmoibaaGreat.stop
open Go.RowKit
set_option linter.unusedVariables false
set_option maxRecDepth 100000
theorem ca {w : World} {k i : Nat} {v : Value} {o : Obj} (hk : k < w.heap.size) (h : w.cell? ⟨k, i, none⟩ = some v) : (w.alloc o).cell? ⟨k, i, none⟩ = some v := by
  rw [← h]; exact Below.cell ((Below.refl w.heap.size w).alloc (Nat.le_refl _) o) (p := ⟨k, i, none⟩) hk
theorem quiet_left {P : Program} {f : FuncId} {args : Array Value} {w : World} {n : Nat} {v : Value}
    (h : Calls P f args (w.drewN n) fun e w' => e = .returned v ∧ w.drewN n = w') : Calls P f args (w.drewN n) fun e w'' => e = .returned v ∧ ∃ m, w'' = w.drewN m :=
  h.mono fun _ _ ⟨he, hm⟩ => ⟨he, n, hm.symm⟩
theorem bdrewN {B : Nat} {a w : World} (h : Below B a w) (n : Nat) : Below B a (w.drewN n) := ⟨h.os, h.tape, h.output, h.size, h.block⟩
theorem st_cell {w : World} {n p q o : Nat} {v7 v8 v : Value} (h : w.cell? ⟨q, o, none⟩ = some v) (h7 : o ≠ 7) (h8 : o ≠ 8) : (((w.drewN n).setCell ⟨p, 7, none⟩ v7).setCell ⟨p, 8, none⟩ v8).cell? ⟨q, o, none⟩ = some v := by
  rw [World.cell?_setCell_other (h := fun e => h8 (congrArg Addr.off e).symm), World.cell?_setCell_other (h := fun e => h7 (congrArg Addr.off e).symm)]; exact h
theorem lta {w : World} {k : Nat} (o : Obj) (h : k < w.heap.size) : k < (w.alloc o).heap.size := by simp; omega
theorem le_alloc {w : World} {k : Nat} (o : Obj) (h : k ≤ w.heap.size) : k ≤ (w.alloc o).heap.size := by simp; omega
theorem below_set {B : Nat} {a w : World} (h : Below B a w) (ad : Addr) (v : Value) : Below B (a.setCell ad v) (w.setCell ad v) := by
  refine ⟨h.os, h.tape, h.output, by simpa [World.setCell] using h.size, fun k hk => ?_⟩
  simp only [World.setCell, Array.getElem?_modify]
  rw [h.block k hk]
theorem set_self {w : World} {k i : Nat} {v : Value} (h : w.cell? ⟨k, i, none⟩ = some v) : w.setCell ⟨k, i, none⟩ v = w := by
  unfold World.cell? at h
  have hh : (w.heap.modify k fun
      | .cells c elem frozen => .cells (c.setIfInBounds i v) elem frozen
      | o => o) = w.heap := by
    apply Array.ext_getElem?
    intro j
    rw [Array.getElem?_modify]
    by_cases hj : k = j
    · subst hj
      cases ho : w.heap[k]? with
      | none => simp
      | some o =>
        cases o with
        | cells c e f =>
          simp only [ho] at h
          have h' : c[i]? = some v := by simpa using h
          have hc : c.setIfInBounds i v = c := by
            apply Array.ext_getElem?
            intro q
            rw [Array.getElem?_setIfInBounds]
            by_cases hq : i = q
            · subst hq
              rw [h']
              have : i < c.size := (Array.getElem?_eq_some_iff.1 h').1
              simp [this]
            · simp [hq]
          simp [hc]
        | _ => simp [ho] at h
    · simp [hj]
  show ({ w with heap := w.heap.modify k fun
      | .cells c elem frozen => .cells (c.setIfInBounds i v) elem frozen
      | o => o } : World) = w
  rw [hh]

set_option maxHeartbeats 1000000 in
theorem c15 (look : Int) (k : Nat) (w : World) (hk : k < w.heap.size)
  (h0 : w.cell? ⟨k, 0, none⟩ = some (.int .i64 0)) (h1 : w.cell? ⟨k, 1, none⟩ = some (.int .i64 0)) (h2 : w.cell? ⟨k, 2, none⟩ = some (.int .i64 0)) (h3 : w.cell? ⟨k, 3, none⟩ = some (.slice none 0 0)) (h4 : w.cell? ⟨k, 4, none⟩ = some (.map none)) :
    Calls Tryz.prog 15 #[.pointer (some ⟨k, 0, none⟩), .int .i64 look, .map none] w fun e w' => e = .returned (.agg #[.int .i64 0, .int .i64 0, .int .i64 0, .slice none 0 0, .map none, .int .i64 0, .nilIface, .nilIface, .int .i64 0, .int .i64 look, .map none, .slice none 0 0, .bool false]) ∧
      w.alloc (.cells #[.int .i64 0, .int .i64 0, .int .i64 0, .slice none 0 0, .map none, .int .i64 0, .nilIface, .nilIface, .int .i64 0, .int .i64 look, .map none, .slice none 0 0, .bool false] 65) = w' := by
  go_enter Tryz.func15, Tryz.ntmps15
  go_wp2
  exact bodyPost_ret (v := .agg #[.int .i64 0, .int .i64 0, .int .i64 0, .slice none 0 0, .map none, .int .i64 0, .nilIface, .nilIface, .int .i64 0, .int .i64 look, .map none, .slice none 0 0, .bool false]) (by simp [results, Tryz.results15, go_sem]) rfl ⟨rfl, rfl⟩

set_option maxHeartbeats 1000000 in
theorem c9 (look : Int) (w : World) :
    Calls Tryz.prog 9 #[.int .i64 look] w fun e w' => e = .returned (.pointer (some ⟨w.heap.size + 1 + 1, 0, none⟩)) ∧ ((w.alloc (.cells #[.int .i64 0, .int .i64 0, .int .i64 0, .slice none 0 0, .map none] 60)).alloc (.cells #[.int .i64 0, .int .i64 0, .int .i64 0, .slice none 0 0, .map none, .int .i64 0, .nilIface, .nilIface, .int .i64 0, .int .i64 look, .map none, .slice none 0 0, .bool false] 65)).alloc (.cells #[.int .i64 0, .int .i64 0, .int .i64 0, .slice none 0 0, .map none, .int .i64 0, .nilIface, .nilIface, .int .i64 0, .int .i64 look, .map none, .slice none 0 0, .bool false] 65) = w' := by
  go_enter Tryz.func9, Tryz.ntmps9
  go_wp2_with (go_at_call 15; refine (c15 _ _ _ (by simp) (by go_simp) (by go_simp) (by go_simp) (by go_simp) (by go_simp)).mono ?_; rintro e w' ⟨rfl, rfl⟩)
  go_ret
  exact ⟨rfl, rfl⟩

set_option maxHeartbeats 1000000 in
theorem c10 (d : Int) (k : Nat) (x : Option Addr) (w : World) (o7 o8 : Value) (h7 : w.cell? ⟨k, 7, none⟩ = some o7) (h8 : w.cell? ⟨k, 8, none⟩ = some o8) (f7 : w.frozen? ⟨k, 7, none⟩ = false) (f8 : w.frozen? ⟨k, 8, none⟩ = false) :
    Calls Tryz.prog 10 #[.pointer (some ⟨k, 0, none⟩), .int .i64 d, .pointer x] w fun e w' => e = .returned (.tuple #[]) ∧ (w.setCell ⟨k, 7, none⟩ (.iface 37 (.pointer x))).setCell ⟨k, 8, none⟩ (.int .i64 d) = w' := by
  go_enter Tryz.func10, Tryz.ntmps10
  go_wp2
  go_end0
  exact ⟨rfl, rfl⟩

set_option maxHeartbeats 1000000 in
theorem c4 (look d : Int) (m : ByteArray) (w : World) :
    Calls Tryz.prog 4 #[.int .i64 look, .int .i64 d, .string m, .int .i64 0] w fun e w' => e = .returned (.tuple #[.pointer (some ⟨w.heap.size + 1 + 1 + 1, 0, none⟩), .pointer (some ⟨w.heap.size, 0, none⟩)]) ∧ (((w.alloc (.cells #[.string m, .string ⟨#[]⟩, .int .i64 0, .int .i64 0, .int .i64 0] 44)).alloc (.cells #[.int .i64 0, .int .i64 0, .int .i64 0, .slice none 0 0, .map none] 60)).alloc (.cells #[.int .i64 0, .int .i64 0, .int .i64 0, .slice none 0 0, .map none, .int .i64 0, .nilIface, .nilIface, .int .i64 0, .int .i64 look, .map none, .slice none 0 0, .bool false] 65)).alloc (.cells #[.int .i64 0, .int .i64 0, .int .i64 0, .slice none 0 0, .map none, .int .i64 0, .nilIface, .iface 37 (.pointer (some ⟨w.heap.size, 0, none⟩)), .int .i64 d, .int .i64 look, .map none, .slice none 0 0, .bool false] 65) = w' := by
  go_enter Tryz.func4, Tryz.ntmps4
  go_wp2_with (first | (go_at_call 9; refine (c9 _ _).mono ?_; rintro e w' ⟨rfl, rfl⟩) | (go_at_call 10; refine (c10 _ _ _ _ _ _ (by go_simp; rfl) (by go_simp; rfl) (by go_simp) (by go_simp)).mono ?_; rintro e w' ⟨rfl, rfl⟩))
  refine wp_loop_rounds 1 ?_
  rw [rounds_succ]
  go_wp2
  go_ret2
  exact ⟨rfl, rfl⟩

set_option maxHeartbeats 1000000 in
theorem c17 (k : Nat) (a : Addr) (d look : Int) (w : World) (hk : k < w.heap.size) (h0 : w.cell? ⟨k, 0, none⟩ = some (.int .i64 0)) (h1 : w.cell? ⟨k, 1, none⟩ = some (.int .i64 0)) (h2 : w.cell? ⟨k, 2, none⟩ = some (.int .i64 0)) (h3 : w.cell? ⟨k, 3, none⟩ = some (.slice none 0 0)) (h4 : w.cell? ⟨k, 4, none⟩ = some (.map none)) (h5 : w.cell? ⟨k, 5, none⟩ = some (.int .i64 0)) (h6 : w.cell? ⟨k, 6, none⟩ = some (.nilIface)) (h7 : w.cell? ⟨k, 7, none⟩ = some (.iface 37 (.pointer (some a)))) (h8 : w.cell? ⟨k, 8, none⟩ = some (.int .i64 d)) (h9 : w.cell? ⟨k, 9, none⟩ = some (.int .i64 look)) (h10 : w.cell? ⟨k, 10, none⟩ = some (.map none)) (h11 : w.cell? ⟨k, 11, none⟩ = some (.slice none 0 0)) (h12 : w.cell? ⟨k, 12, none⟩ = some (.bool false)) :
    Calls Tryz.prog 17 #[.pointer (some ⟨k, 0, none⟩)] w fun e w' => e = .returned (.pointer (some ⟨w.heap.size, 0, none⟩)) ∧ w.alloc (.cells #[.int .i64 0, .int .i64 0, .int .i64 0, .slice none 0 0, .map none, .int .i64 0, .nilIface, .iface 37 (.pointer (some a)), .int .i64 d, .int .i64 look, .map none, .slice none 0 0, .bool false] 65) = w' := by
  go_enter Tryz.func17, Tryz.ntmps17
  go_wp2
  go_ret
  exact ⟨rfl, rfl⟩

set_option maxHeartbeats 1000000 in
theorem c12 (k : Nat) (a : Addr) (d look : Int) (w : World) (hk : k < w.heap.size) (h0 : w.cell? ⟨k, 0, none⟩ = some (.int .i64 0)) (h1 : w.cell? ⟨k, 1, none⟩ = some (.int .i64 0)) (h2 : w.cell? ⟨k, 2, none⟩ = some (.int .i64 0)) (h3 : w.cell? ⟨k, 3, none⟩ = some (.slice none 0 0)) (h4 : w.cell? ⟨k, 4, none⟩ = some (.map none)) (h5 : w.cell? ⟨k, 5, none⟩ = some (.int .i64 0)) (h6 : w.cell? ⟨k, 6, none⟩ = some (.nilIface)) (h7 : w.cell? ⟨k, 7, none⟩ = some (.iface 37 (.pointer (some a)))) (h8 : w.cell? ⟨k, 8, none⟩ = some (.int .i64 d)) (h9 : w.cell? ⟨k, 9, none⟩ = some (.int .i64 look)) (h10 : w.cell? ⟨k, 10, none⟩ = some (.map none)) (h11 : w.cell? ⟨k, 11, none⟩ = some (.slice none 0 0)) (h12 : w.cell? ⟨k, 12, none⟩ = some (.bool false)) :
    Calls Tryz.prog 12 #[.pointer (some ⟨k, 0, none⟩)] w fun e w' => e = .returned (.pointer (some ⟨w.heap.size, 0, none⟩)) ∧ w.alloc (.cells #[.int .i64 0, .int .i64 0, .int .i64 0, .slice none 0 0, .map none, .int .i64 0, .nilIface, .iface 37 (.pointer (some a)), .int .i64 d, .int .i64 look, .map none, .slice none 0 0, .bool false] 65) = w' := by
  go_enter Tryz.func12, Tryz.ntmps12
  go_wp2_with (go_at_call 17; refine (c17 k a d look w hk h0 h1 h2 h3 h4 h5 h6 h7 h8 h9 h10 h11 h12).mono ?_; rintro e w' ⟨rfl, rfl⟩)
  go_ret
  exact ⟨rfl, rfl⟩

set_option maxHeartbeats 1000000 in
theorem c5 (k : Nat) (a : Addr) (d look bd : Int) (m : ByteArray) (w : World) (hk : k < w.heap.size) (hk' : k < w.heap.size + 1) (h0 : w.cell? ⟨k, 0, none⟩ = some (.int .i64 0)) (h1 : w.cell? ⟨k, 1, none⟩ = some (.int .i64 0)) (h2 : w.cell? ⟨k, 2, none⟩ = some (.int .i64 0)) (h3 : w.cell? ⟨k, 3, none⟩ = some (.slice none 0 0)) (h4 : w.cell? ⟨k, 4, none⟩ = some (.map none)) (h5 : w.cell? ⟨k, 5, none⟩ = some (.int .i64 0)) (h6 : w.cell? ⟨k, 6, none⟩ = some (.nilIface)) (h7 : w.cell? ⟨k, 7, none⟩ = some (.iface 37 (.pointer (some a)))) (h8 : w.cell? ⟨k, 8, none⟩ = some (.int .i64 d)) (h9 : w.cell? ⟨k, 9, none⟩ = some (.int .i64 look)) (h10 : w.cell? ⟨k, 10, none⟩ = some (.map none)) (h11 : w.cell? ⟨k, 11, none⟩ = some (.slice none 0 0)) (h12 : w.cell? ⟨k, 12, none⟩ = some (.bool false)) :
    Calls Tryz.prog 5 #[.pointer (some ⟨k, 0, none⟩), .int .i64 bd, .string m, .int .i64 0] w fun e w' => e = .returned (.tuple #[.pointer (some ⟨w.heap.size + 1, 0, none⟩), .pointer (some ⟨w.heap.size, 0, none⟩)]) ∧ (w.alloc (.cells #[.string m, .string ⟨#[]⟩, .int .i64 0, .int .i64 0, .int .i64 0] 44)).alloc (.cells #[.int .i64 0, .int .i64 0, .int .i64 0, .slice none 0 0, .map none, .int .i64 0, .nilIface, .iface 37 (.pointer (some ⟨w.heap.size, 0, none⟩)), .int .i64 bd, .int .i64 look, .map none, .slice none 0 0, .bool false] 65) = w' := by
  go_enter Tryz.func5, Tryz.ntmps5
  go_wp2_with (first | (go_at_call 12; refine (c12 k a d look _ (by simp; omega) (ca hk h0) (ca hk h1) (ca hk h2) (ca hk h3) (ca hk h4) (ca hk h5) (ca hk h6) (ca hk h7) (ca hk h8) (ca hk h9) (ca hk h10) (ca hk h11) (ca hk h12)).mono ?_; rintro e w' ⟨rfl, rfl⟩) | (go_at_call 10; refine (c10 _ _ _ _ _ _ (by go_simp; rfl) (by go_simp; rfl) (by go_simp) (by go_simp)).mono ?_; rintro e w' ⟨rfl, rfl⟩))
  refine wp_loop_rounds 1 ?_
  rw [rounds_succ]
  go_wp2
  go_ret2
  exact ⟨rfl, rfl⟩

theorem c18 (a b c : Int) (w : World) :
    Calls Tryz.prog 18 #[.agg #[.int .i64 a, .int .i64 b, .int .i64 c]] w fun e w' => e = .returned (.int .i64 c) ∧ w.alloc (.cells #[.int .i64 a, .int .i64 b, .int .i64 c] 56) = w' := by
  go_enter Tryz.func18, Tryz.ntmps18
  go_wp2
  go_ret
  exact ⟨rfl, rfl⟩

theorem c20n (p : Nat) (look : Int) (w : World) (hl : look < 0) (h : w.cell? ⟨p, 9, none⟩ = some (.int .i64 look)) :
    Calls Tryz.prog 20 #[.pointer (some ⟨p, 0, none⟩)] w fun e w' => e = .returned (.bool true) ∧ w = w' := by
  go_enter Tryz.func20, Tryz.ntmps20
  go_wp2
  go_ret
  exact ⟨rfl, rfl⟩

theorem c20p (p : Nat) (look : Int) (w : World) (hl : ¬ look < 0) (h : w.cell? ⟨p, 9, none⟩ = some (.int .i64 look)) :
    Calls Tryz.prog 20 #[.pointer (some ⟨p, 0, none⟩)] w fun e w' => e = .returned (.bool false) ∧ w = w' := by
  go_enter Tryz.func20, Tryz.ntmps20
  go_wp2
  go_ret
  exact ⟨rfl, rfl⟩

theorem st7 {w : World} {p q o : Nat} {v7 v : Value} (h : w.cell? ⟨q, o, none⟩ = some v) (h7 : o ≠ 7) : (w.setCell ⟨p, 7, none⟩ v7).cell? ⟨q, o, none⟩ = some v := by
  rw [World.cell?_setCell_other (h := fun e => h7 (congrArg Addr.off e).symm)]; exact h
theorem c19 (w : World) :
    Calls Tryz.prog 19 #[.int .i64 0, .int .i64 0] w fun e w' => e = .returned (.int .i64 0) ∧ w = w' := by
  go_enter Tryz.func19, Tryz.ntmps19
  go_wp2
  go_ret
  exact ⟨rfl, rfl⟩
end Go.Proofs.YtiahdmoigmoibaaGreat.stop
