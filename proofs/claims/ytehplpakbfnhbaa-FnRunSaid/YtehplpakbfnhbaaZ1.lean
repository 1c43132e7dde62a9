/-
  What the closure of ZZRun hands back: the state behind a call.
-/
import Derived.Test.YtehplpakbfnhbaaC3
import Derived.Deep.RegionHeld3
namespace Go.Proofs.Ytehplpakbfnhbaa
open Go.RowKit
set_option linter.unusedVariables false

def ocells (c : C) (r : R) : Array Value := #[.int .i64 c.cw, .int .i64 c.fl, .int .i64 c.thr, .int .i64 c.pend, .bool c.can, .bool c.one, .bool c.inr, .string c.name, .int .i64 r.mn, .int .i64 r.sm, .int .i64 r.var]

theorem below_setAt {B : Nat} {a w : World} {g i : Nat} {u : Value} (h : Below B a w) (hg : B ≤ g) : Below B a (w.setCell ⟨g, i, none⟩ u) := h.setCell hg u

set_option maxRecDepth 100000 in
set_option maxHeartbeats 4000000 in
theorem look_any (bc br g r : Nat) (c : C) (R0 : R) (w : World) (hc : Blk w bc 46 #[.pointer (some ⟨g, 0, none⟩)]) (hr : Blk w br 48 #[.pointer (some ⟨r, 0, none⟩)]) (hG : Blk w g 59 (ccells c)) (hR : Blk w r 54 (rcells R0))
    (b0 : 0 ≤ c.maxd) (b1 : c.maxd < 1000000) (d0 : -1000000000000 < c.fl) (d1 : c.fl < 1000000000000) :
    Calls Try.prog 14 #[.pointer (some ⟨bc, 0, none⟩), .pointer (some ⟨br, 0, none⟩)] w fun e w' => e = .returned (.agg (ocells c R0)) ∧ Below w.heap.size w w' := by
  have x0 : w.cell? ⟨bc, 0, none⟩ = some (.pointer (some ⟨g, 0, none⟩)) := hc.cellAt 0 rfl
  have x1 : w.cell? ⟨br, 0, none⟩ = some (.pointer (some ⟨r, 0, none⟩)) := hr.cellAt 0 rfl
  have c1 : w.cell? ⟨g, 1, none⟩ = some (.int .i64 c.cw) := hG.cellAt 1 rfl
  have c2 : w.cell? ⟨g, 2, none⟩ = some (.int .i64 c.fl) := hG.cellAt 2 rfl
  have c3 : w.cell? ⟨g, 3, none⟩ = some (.int .i64 c.thr) := hG.cellAt 3 rfl
  have c6 : w.cell? ⟨g, 6, none⟩ = some (.int .i64 c.pend) := hG.cellAt 6 rfl
  have c7 : w.cell? ⟨g, 7, none⟩ = some (.bool c.one) := hG.cellAt 7 rfl
  have c8 : w.cell? ⟨g, 8, none⟩ = some (.bool c.inr) := hG.cellAt 8 rfl
  have r0 : w.cell? ⟨r, 0, none⟩ = some (.int .i64 R0.mn) := hR.cellAt 0 rfl
  have r2 : w.cell? ⟨r, 2, none⟩ = some (.int .i64 R0.sm) := hR.cellAt 2 rfl
  have r3 : w.cell? ⟨r, 3, none⟩ = some (.int .i64 R0.var) := hR.cellAt 3 rfl
  have l0 := hc.lt
  have l1 := hr.lt
  have l2 := hG.lt
  have l3 := hR.lt
  have n0 : bc ≠ w.heap.size := Nat.ne_of_lt l0
  have n1 : br ≠ w.heap.size := Nat.ne_of_lt l1
  have n2 : g ≠ w.heap.size := Nat.ne_of_lt l2
  have n3 : r ≠ w.heap.size := Nat.ne_of_lt l3
  have HG := Lib.hid hG
  clear hc hr hG hR
  go_enter Try.func14, Try.ntmps14
  go_wp2
  go_region_held3 (fun V => V.cell? ⟨bc, 0, none⟩ = some (.pointer (some ⟨g, 0, none⟩)) ∧ V.cell? ⟨br, 0, none⟩ = some (.pointer (some ⟨r, 0, none⟩)) ∧ V.cell? ⟨g, 1, none⟩ = some (.int .i64 c.cw) ∧ V.cell? ⟨g, 2, none⟩ = some (.int .i64 c.fl) ∧ V.cell? ⟨g, 3, none⟩ = some (.int .i64 c.thr) ∧ V.cell? ⟨g, 6, none⟩ = some (.int .i64 c.pend) ∧ V.cell? ⟨g, 7, none⟩ = some (.bool c.one) ∧ V.cell? ⟨g, 8, none⟩ = some (.bool c.inr) ∧ V.cell? ⟨r, 0, none⟩ = some (.int .i64 R0.mn) ∧ V.cell? ⟨r, 2, none⟩ = some (.int .i64 R0.sm) ∧ V.cell? ⟨r, 3, none⟩ = some (.int .i64 R0.var)) (first | (go_keep; done) | (go_simp; done)) (first | (go_at_call 15; refine (can_any g c _ (by repeat (with_reducible first | exact HG.out | apply Blk.drew | apply Blk.drewN | apply Blk.alloc)) b0 b1 d0 d1).mono ?_; rintro q w2 ⟨rfl, n, rfl⟩) | (go_at_call 16; refine (state_any g c _ (by repeat (with_reducible first | exact HG.out | apply Blk.drew | apply Blk.drewN | apply Blk.alloc))).mono ?_; rintro q w2 ⟨rfl, n, rfl⟩) | (go_at_call 17; refine (string_any _ _).mono ?_; rintro q w2 ⟨rfl, rfl⟩))
  go_wp2
  refine bodyPost_ret (v := .agg (ocells c R0)) (by simp [results, Try.results14, go_sem, ocells]) rfl ⟨rfl, ?_⟩
  repeat (with_reducible first | exact Below.refl _ _ | apply Below.drew | apply below_drewN | refine Below.alloc ?_ (Nat.le_refl _) _ | refine below_setAt ?_ (Nat.le_refl _))
end Go.Proofs.Ytehplpakbfnhbaa
