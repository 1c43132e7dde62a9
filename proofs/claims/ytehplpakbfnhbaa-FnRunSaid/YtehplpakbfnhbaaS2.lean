/-
  spec: Next: a step of the machine.
-/
import Derived.Test.YtehplpakbfnhbaaS1
import Derived.Deep.Cut
namespace Go.Proofs.Ytehplpakbfnhbaa
open Go.RowKit
set_option linter.unusedVariables false
set_option linter.unusedSimpArgs false

theorem scB_lost (c : C) (kk : Nat) (num size time : Int) (el : Bool) (first : Int) (r : R) (last : Int) (k : Bool) : scB (c.lost kk num size time el true first) r last k = scB { c with fl := c.fl - size, ll := if c.ll < time then time else c.ll } r last k := by
  unfold C.lost C.lostP C.setP C.lostF
  (repeat' split) <;> first | rfl | simp_all
theorem ll_lost (c : C) (kk : Nat) (num size time : Int) (el : Bool) (first : Int) : (c.lost kk num size time el true first).ll = if c.ll < time then time else c.ll := by
  unfold C.lost C.lostP C.setP C.lostF
  (repeat' split) <;> first | rfl | simp_all
theorem scB_lost0 (c : C) (kk : Nat) (num size time : Int) (el : Bool) (first : Int) (r : R) (last : Int) (k : Bool) : scB (c.lost kk num size time el false first) r last k = scB c r last k := by
  unfold C.lost C.lostP C.setP C.lostF
  (repeat' split) <;> first | rfl | simp_all
theorem ll_lost0 (c : C) (kk : Nat) (num size time : Int) (el : Bool) (first : Int) : (c.lost kk num size time el false first).ll = c.ll := by
  unfold C.lost C.lostP C.setP C.lostF
  (repeat' split) <;> first | rfl | simp_all
theorem below_setS {B : Nat} {a w : World} {g i : Nat} {u : Value} (h : Below B a w) (hg : B ≤ g) : Below B a (w.setCell ⟨g, i, none⟩ u) := h.setCell hg u
theorem scB_one (c : C) (r : R) (last : Int) (k : Bool) : (scB c r last k).all (·.oneCell') = true := by simp [scB, Value.oneCell']
theorem below_row {B : Nat} {a w : World} {g : Nat} (h : Below B a w) (hg : B ≤ g) (cs : Array Value) : Below B a (w.setRow g cs) := ⟨h.os, h.tape, h.output, by rw [setRow_size]; exact h.size, fun k hk => (setRow_other w g k cs (by omega)).trans (h.block k hk)⟩
theorem blk_at (w : World) (n : Nat) (t : TypeId) (cs : Array Value) (h : w.heap.size = n) : Blk (w.alloc (.cells cs t)) n t cs := h ▸ Blk.new w t cs

set_option maxRecDepth 100000 in
set_option maxHeartbeats 8000000 in
theorem next_any (c : C) (r : R) (last : Int) (o : Op) (n : Int) (w : World) (h : Good o) (hc : CInv n c) (hr : RInv r) (hn : n ≤ 1000) (hl : 0 ≤ c.ll → last = c.ll) (k : Bool) :
    Calls Try.prog 8 #[.agg #[.int .i64 c.cw, .int .i64 c.fl, .int .i64 c.thr, .int .i64 c.pend, .bool k, .bool c.one, .bool c.inr, .bool c.und, .int .i64 r.mn, .int .i64 r.sm, .int .i64 r.var, .int .i64 c.rs, .int .i64 last, .bool (decide (0 ≤ c.ll)), .int .i64 c.maxd], .agg #[.int .i64 o.kind, .int .i64 o.space, .int .i64 o.now, .int .i64 o.time, .int .i64 o.num, .int .i64 o.size, .bool o.el, .bool o.inf, .bool o.v, .int .i64 o.lat, .int .i64 o.del, .int .i64 o.lim]] w fun e w' => ∃ last', e = .returned (.agg (scB (stepC c r o) (stepR r o) last' (stepC c r o).can)) ∧ (0 ≤ (stepC c r o).ll → last' = (stepC c r o).ll) ∧ Below w.heap.size w w' := by
  have HL := Lib.hid hl
  have HC := Lib.hid hc
  have HR := Lib.hid hr
  have HO := Lib.hid h
  have fl0 := hc.f0
  have fl1 := hc.f1
  have pd0 := hc.p0
  have pd1 := hc.w1
  have cw0 := hc.w0
  have md0 := hc.m0
  have md1 := hc.m1
  have z0 := h.z0
  have z1 := h.z1
  clear hl hc hr h
  go_enter Try.func8, Try.ntmps8
  go_upto_region 0 with (fail)
  go_cut [0, 1, 2, 3, 4] (fun _ _ a b d W => a = .pointer (some ⟨w.heap.size, 0, none⟩) ∧ b = .pointer (some ⟨w.heap.size + 1, 0, none⟩) ∧ d = .pointer (some ⟨w.heap.size + 2, 0, none⟩) ∧ Blk W w.heap.size 35 (scB c r last k) ∧ Blk W (w.heap.size + 1) 28 #[.int .i64 o.kind, .int .i64 o.space, .int .i64 o.now, .int .i64 o.time, .int .i64 o.num, .int .i64 o.size, .bool o.el, .bool o.inf, .bool o.v, .int .i64 o.lat, .int .i64 o.del, .int .i64 o.lim] ∧ Blk W (w.heap.size + 2) 35 #[.int .i64 0, .int .i64 0, .int .i64 0, .int .i64 0, .bool false, .bool false, .bool false, .bool false, .int .i64 0, .int .i64 0, .int .i64 0, .int .i64 0, .int .i64 0, .bool false, .int .i64 0] ∧ Below w.heap.size w W)
  case first =>
    go_wp2
    all_goals go_meet
    all_goals (case rel => exact ⟨rfl, rfl, rfl, ((blk_at w _ 35 _ rfl).alloc _).alloc _, (blk_at _ _ 28 _ (by simp)).alloc _, blk_at _ _ 35 _ (by simp), (((Below.refl _ _).alloc (Nat.le_refl _) _).alloc (by simp) _).alloc (by simp; omega) _⟩)
  case rest =>
    obtain ⟨rfl, rfl, rfl, hG, hP, hZ, hB⟩ := hcut
    go_step
    go_step
    go_cut [] (fun W => ∃ last', Blk W w.heap.size 35 (scB (stepC c r o) (stepR r o) last' k) ∧ (0 ≤ (stepC c r o).ll → last' = (stepC c r o).ll) ∧ Blk W (w.heap.size + 2) 35 #[.int .i64 0, .int .i64 0, .int .i64 0, .int .i64 0, .bool false, .bool false, .bool false, .bool false, .int .i64 0, .int .i64 0, .int .i64 0, .int .i64 0, .int .i64 0, .bool false, .int .i64 0] ∧ Below w.heap.size w W)
    case first =>
      have c0 : wc.cell? ⟨w.heap.size, 0, none⟩ = some (.int .i64 c.cw) := hG.cellAt 0 rfl
      have c1 : wc.cell? ⟨w.heap.size, 1, none⟩ = some (.int .i64 c.fl) := hG.cellAt 1 rfl
      have c2 : wc.cell? ⟨w.heap.size, 2, none⟩ = some (.int .i64 c.thr) := hG.cellAt 2 rfl
      have c3 : wc.cell? ⟨w.heap.size, 3, none⟩ = some (.int .i64 c.pend) := hG.cellAt 3 rfl
      have c4 : wc.cell? ⟨w.heap.size, 4, none⟩ = some (.bool k) := hG.cellAt 4 rfl
      have c5 : wc.cell? ⟨w.heap.size, 5, none⟩ = some (.bool c.one) := hG.cellAt 5 rfl
      have c6 : wc.cell? ⟨w.heap.size, 6, none⟩ = some (.bool c.inr) := hG.cellAt 6 rfl
      have c7 : wc.cell? ⟨w.heap.size, 7, none⟩ = some (.bool c.und) := hG.cellAt 7 rfl
      have c8 : wc.cell? ⟨w.heap.size, 8, none⟩ = some (.int .i64 r.mn) := hG.cellAt 8 rfl
      have c9 : wc.cell? ⟨w.heap.size, 9, none⟩ = some (.int .i64 r.sm) := hG.cellAt 9 rfl
      have c10 : wc.cell? ⟨w.heap.size, 10, none⟩ = some (.int .i64 r.var) := hG.cellAt 10 rfl
      have c11 : wc.cell? ⟨w.heap.size, 11, none⟩ = some (.int .i64 c.rs) := hG.cellAt 11 rfl
      have c12 : wc.cell? ⟨w.heap.size, 12, none⟩ = some (.int .i64 last) := hG.cellAt 12 rfl
      have c13 : wc.cell? ⟨w.heap.size, 13, none⟩ = some (.bool (decide (0 ≤ c.ll))) := hG.cellAt 13 rfl
      have c14 : wc.cell? ⟨w.heap.size, 14, none⟩ = some (.int .i64 c.maxd) := hG.cellAt 14 rfl
      have fg0 := hG.frozen 0
      have fg1 := hG.frozen 1
      have fg2 := hG.frozen 2
      have fg3 := hG.frozen 3
      have fg4 := hG.frozen 4
      have fg5 := hG.frozen 5
      have fg6 := hG.frozen 6
      have fg7 := hG.frozen 7
      have fg8 := hG.frozen 8
      have fg9 := hG.frozen 9
      have fg10 := hG.frozen 10
      have fg11 := hG.frozen 11
      have fg12 := hG.frozen 12
      have fg13 := hG.frozen 13
      have fg14 := hG.frozen 14
      have i1 : wc.cell? ⟨w.heap.size + 1, 1, none⟩ = some (.int .i64 o.space) := hP.cellAt 1 rfl
      have i2 : wc.cell? ⟨w.heap.size + 1, 2, none⟩ = some (.int .i64 o.now) := hP.cellAt 2 rfl
      have i3 : wc.cell? ⟨w.heap.size + 1, 3, none⟩ = some (.int .i64 o.time) := hP.cellAt 3 rfl
      have i4 : wc.cell? ⟨w.heap.size + 1, 4, none⟩ = some (.int .i64 o.num) := hP.cellAt 4 rfl
      have i5 : wc.cell? ⟨w.heap.size + 1, 5, none⟩ = some (.int .i64 o.size) := hP.cellAt 5 rfl
      have i6 : wc.cell? ⟨w.heap.size + 1, 6, none⟩ = some (.bool o.el) := hP.cellAt 6 rfl
      have i7 : wc.cell? ⟨w.heap.size + 1, 7, none⟩ = some (.bool o.inf) := hP.cellAt 7 rfl
      have i8 : wc.cell? ⟨w.heap.size + 1, 8, none⟩ = some (.bool o.v) := hP.cellAt 8 rfl
      have i9 : wc.cell? ⟨w.heap.size + 1, 9, none⟩ = some (.int .i64 o.lat) := hP.cellAt 9 rfl
      have i10 : wc.cell? ⟨w.heap.size + 1, 10, none⟩ = some (.int .i64 o.del) := hP.cellAt 10 rfl
      have i11 : wc.cell? ⟨w.heap.size + 1, 11, none⟩ = some (.int .i64 o.lim) := hP.cellAt 11 rfl
      have i00 : wc.cell? ⟨w.heap.size + 1, 0, none⟩ = some (.int .i64 o.kind) := hP.cellAt 0 rfl
      have HG := Lib.hid hG
      have HP := Lib.hid hP
      have HZ := Lib.hid hZ
      have HB := Lib.hid hB
      have lt2 := hZ.lt
      have nz : w.heap.size + 2 ≠ w.heap.size := by omega
      clear hG hP hZ hB
      have hk : o.kind = 0 ∨ o.kind = 1 ∨ o.kind = 2 ∨ o.kind = 3 ∨ o.kind = 4 ∨ o.kind = 5 ∨ o.kind = 6 := by have h1 := HO.out.k0; have h2 := HO.out.k1; omega
      rcases hk with hk | hk | hk | hk | hk | hk | hk
      · as_aux_lemma =>
        have i0 : wc.cell? ⟨w.heap.size + 1, 0, none⟩ = some (.int .i64 0) := by rw [← hk]; exact i00
        clear i00
        cases hinf : o.inf
        · have eC : stepC c r o = c := by unfold stepC; rw [if_pos hk]; simp [C.sent, hinf]
          have eR : stepR r o = r := by unfold stepR; rw [if_neg (by omega)]
          rw [hinf] at i7
          go_wp2
          all_goals go_meet
          all_goals (case rel => exact ⟨last, by rw [eC, eR]; exact (by repeat (with_reducible first | exact HG.out | apply Blk.drew | apply Blk.drewN | apply Blk.alloc | apply Blk.set_)), by rw [eC]; exact HL.out, by repeat (with_reducible first | exact HZ.out | apply Blk.drew | apply Blk.drewN | apply Blk.alloc | refine Blk.far ?_ nz _), by repeat (with_reducible first | exact HB.out | apply Below.drew | refine below_setS ?_ (Nat.le_refl _))⟩)
        · have eC : stepC c r o = { c with fl := c.fl + o.size, one := false } := by unfold stepC; rw [if_pos hk]; simp [C.sent, hinf]
          have eR : stepR r o = r := by unfold stepR; rw [if_neg (by omega)]
          rw [hinf] at i7
          go_wp2
          all_goals go_meet
          all_goals (case rel => exact ⟨last, by rw [eC, eR]; exact Blk.to (by repeat (with_reducible first | exact HG.out | apply Blk.drew | apply Blk.drewN | apply Blk.alloc | apply Blk.set_)) (by simp [scB]), by rw [eC]; exact HL.out, by repeat (with_reducible first | exact HZ.out | apply Blk.drew | apply Blk.drewN | apply Blk.alloc | refine Blk.far ?_ nz _), by repeat (with_reducible first | exact HB.out | apply Below.drew | refine below_setS ?_ (Nat.le_refl _))⟩)
      · as_aux_lemma =>
        have i0 : wc.cell? ⟨w.heap.size + 1, 0, none⟩ = some (.int .i64 1) := by rw [← hk]; exact i00
        clear i00
        cases hinf : o.inf
        · have eC : stepC c r o = c := by unfold stepC; rw [if_neg (by omega)]; rw [if_pos hk]; simp [C.acked, hinf]
          have eR : stepR r o = r := by unfold stepR; rw [if_neg (by omega)]
          rw [hinf] at i7
          go_wp2
          all_goals go_meet
          all_goals (case rel => exact ⟨last, by rw [eC, eR]; exact (by repeat (with_reducible first | exact HG.out | apply Blk.drew | apply Blk.drewN | apply Blk.alloc | apply Blk.set_)), by rw [eC]; exact HL.out, by repeat (with_reducible first | exact HZ.out | apply Blk.drew | apply Blk.drewN | apply Blk.alloc | refine Blk.far ?_ nz _), by repeat (with_reducible first | exact HB.out | apply Below.drew | refine below_setS ?_ (Nat.le_refl _))⟩)
        · rw [hinf] at i7
          cases hund : c.und
          · rw [hund] at c7
            by_cases ht : o.time < c.rs
            · have eC : stepC c r o = { c with fl := c.fl - o.size } := by unfold stepC; rw [if_neg (by omega)]; rw [if_pos hk]; simp [C.acked, hinf, hund, ht]
              have eR : stepR r o = r := by unfold stepR; rw [if_neg (by omega)]
              go_wp2
              all_goals go_meet
              all_goals (case rel => exact ⟨last, by rw [eC, eR]; exact Blk.to (by repeat (with_reducible first | exact HG.out | apply Blk.drew | apply Blk.drewN | apply Blk.alloc | apply Blk.set_)) (by simp [scB]), by rw [eC]; exact HL.out, by repeat (with_reducible first | exact HZ.out | apply Blk.drew | apply Blk.drewN | apply Blk.alloc | refine Blk.far ?_ nz _), by repeat (with_reducible first | exact HB.out | apply Below.drew | refine below_setS ?_ (Nat.le_refl _))⟩)
            · have eC : stepC c r o = { c with fl := c.fl - o.size, pend := c.pend + o.size } := by unfold stepC; rw [if_neg (by omega)]; rw [if_pos hk]; simp [C.acked, hinf, hund, ht]
              have eR : stepR r o = r := by unfold stepR; rw [if_neg (by omega)]
              go_wp2
              all_goals go_meet
              all_goals (case rel => exact ⟨last, by rw [eC, eR]; exact Blk.to (by repeat (with_reducible first | exact HG.out | apply Blk.drew | apply Blk.drewN | apply Blk.alloc | apply Blk.set_)) (by simp [scB]), by rw [eC]; exact HL.out, by repeat (with_reducible first | exact HZ.out | apply Blk.drew | apply Blk.drewN | apply Blk.alloc | refine Blk.far ?_ nz _), by repeat (with_reducible first | exact HB.out | apply Below.drew | refine below_setS ?_ (Nat.le_refl _))⟩)
          · have eC : stepC c r o = { c with fl := c.fl - o.size } := by unfold stepC; rw [if_neg (by omega)]; rw [if_pos hk]; simp [C.acked, hinf, hund]
            have eR : stepR r o = r := by unfold stepR; rw [if_neg (by omega)]
            rw [hund] at c7
            go_wp2
            all_goals go_meet
            all_goals (case rel => exact ⟨last, by rw [eC, eR]; exact Blk.to (by repeat (with_reducible first | exact HG.out | apply Blk.drew | apply Blk.drewN | apply Blk.alloc | apply Blk.set_)) (by simp [scB]), by rw [eC]; exact HL.out, by repeat (with_reducible first | exact HZ.out | apply Blk.drew | apply Blk.drewN | apply Blk.alloc | refine Blk.far ?_ nz _), by repeat (with_reducible first | exact HB.out | apply Below.drew | refine below_setS ?_ (Nat.le_refl _))⟩)
      · as_aux_lemma =>
        have i0 : wc.cell? ⟨w.heap.size + 1, 0, none⟩ = some (.int .i64 2) := by rw [← hk]; exact i00
        clear i00
        have eR : stepR r o = r := by unfold stepR; rw [if_neg (by omega)]
        have tm0 := HO.out.t0
        cases hinf : o.inf
        · rw [hinf] at i7
          have eC : stepC c r o = c.lost o.space.toNat o.num o.size o.time o.el false r.first := by unfold stepC; rw [if_neg (by omega), if_neg (by omega), if_pos hk, hinf]
          have eS : scB (stepC c r o) (stepR r o) last k = scB c r last k := by rw [eC, eR, scB_lost0]
          go_wp2
          all_goals go_meet
          all_goals (case rel => exact ⟨last, by rw [eS]; exact (by repeat (with_reducible first | exact HG.out | apply Blk.drew | apply Blk.drewN | apply Blk.alloc | apply Blk.set_)), by rw [eC, ll_lost0]; exact HL.out, by repeat (with_reducible first | exact HZ.out | apply Blk.drew | apply Blk.drewN | apply Blk.alloc | refine Blk.far ?_ nz _), by repeat (with_reducible first | exact HB.out | apply Below.drew | refine below_setS ?_ (Nat.le_refl _))⟩)
        · rw [hinf] at i7
          have eC : stepC c r o = c.lost o.space.toNat o.num o.size o.time o.el true r.first := by unfold stepC; rw [if_neg (by omega), if_neg (by omega), if_pos hk, hinf]
          by_cases hz : 0 ≤ c.ll
          · have hlast := HL.out hz
            rw [decide_eq_true hz] at c13
            by_cases ht : last < o.time
            · have eS : scB (stepC c r o) (stepR r o) o.time k = scB { c with fl := c.fl - o.size, ll := o.time } r o.time k := by rw [eC, eR, scB_lost, if_pos (by omega)]
              go_wp2
              all_goals go_meet
              all_goals (case rel => exact ⟨o.time, by rw [eS]; exact Blk.to (by repeat (with_reducible first | exact HG.out | apply Blk.drew | apply Blk.drewN | apply Blk.alloc | apply Blk.set_)) (by simp [scB, tm0, hz]), by rw [eC, ll_lost, if_pos (by omega)]; exact fun _ => rfl, by repeat (with_reducible first | exact HZ.out | apply Blk.drew | apply Blk.drewN | apply Blk.alloc | refine Blk.far ?_ nz _), by repeat (with_reducible first | exact HB.out | apply Below.drew | refine below_setS ?_ (Nat.le_refl _))⟩)
            · have eS : scB (stepC c r o) (stepR r o) last k = scB { c with fl := c.fl - o.size } r last k := by rw [eC, eR, scB_lost, if_neg (by omega)]
              go_wp2
              all_goals go_meet
              all_goals (case rel => exact ⟨last, by rw [eS]; exact Blk.to (by repeat (with_reducible first | exact HG.out | apply Blk.drew | apply Blk.drewN | apply Blk.alloc | apply Blk.set_)) (by simp [scB, tm0, hz]), by rw [eC, ll_lost, if_neg (by omega)]; exact HL.out, by repeat (with_reducible first | exact HZ.out | apply Blk.drew | apply Blk.drewN | apply Blk.alloc | refine Blk.far ?_ nz _), by repeat (with_reducible first | exact HB.out | apply Below.drew | refine below_setS ?_ (Nat.le_refl _))⟩)
          · rw [decide_eq_false hz] at c13
            have eS : scB (stepC c r o) (stepR r o) o.time k = scB { c with fl := c.fl - o.size, ll := o.time } r o.time k := by rw [eC, eR, scB_lost, if_pos (by omega)]
            go_wp2
            all_goals go_meet
            all_goals (case rel => exact ⟨o.time, by rw [eS]; exact Blk.to (by repeat (with_reducible first | exact HG.out | apply Blk.drew | apply Blk.drewN | apply Blk.alloc | apply Blk.set_)) (by simp [scB, tm0, hz]), by rw [eC, ll_lost, if_pos (by omega)]; exact fun _ => rfl, by repeat (with_reducible first | exact HZ.out | apply Blk.drew | apply Blk.drewN | apply Blk.alloc | refine Blk.far ?_ nz _), by repeat (with_reducible first | exact HB.out | apply Below.drew | refine below_setS ?_ (Nat.le_refl _))⟩)
      · as_aux_lemma =>
        have i0 : wc.cell? ⟨w.heap.size + 1, 0, none⟩ = some (.int .i64 3) := by rw [← hk]; exact i00
        clear i00
        cases hinf : o.inf
        · have eC : stepC c r o = c := by unfold stepC; rw [if_neg (by omega)]; rw [if_neg (by omega)]; rw [if_neg (by omega)]; rw [if_pos hk]; simp [C.drop, hinf]
          have eR : stepR r o = r := by unfold stepR; rw [if_neg (by omega)]
          rw [hinf] at i7
          go_wp2
          all_goals go_meet
          all_goals (case rel => exact ⟨last, by rw [eC, eR]; exact (by repeat (with_reducible first | exact HG.out | apply Blk.drew | apply Blk.drewN | apply Blk.alloc | apply Blk.set_)), by rw [eC]; exact HL.out, by repeat (with_reducible first | exact HZ.out | apply Blk.drew | apply Blk.drewN | apply Blk.alloc | refine Blk.far ?_ nz _), by repeat (with_reducible first | exact HB.out | apply Below.drew | refine below_setS ?_ (Nat.le_refl _))⟩)
        · have eC : stepC c r o = { c with fl := c.fl - o.size } := by unfold stepC; rw [if_neg (by omega)]; rw [if_neg (by omega)]; rw [if_neg (by omega)]; rw [if_pos hk]; simp [C.drop, hinf]
          have eR : stepR r o = r := by unfold stepR; rw [if_neg (by omega)]
          rw [hinf] at i7
          go_wp2
          all_goals go_meet
          all_goals (case rel => exact ⟨last, by rw [eC, eR]; exact Blk.to (by repeat (with_reducible first | exact HG.out | apply Blk.drew | apply Blk.drewN | apply Blk.alloc | apply Blk.set_)) (by simp [scB]), by rw [eC]; exact HL.out, by repeat (with_reducible first | exact HZ.out | apply Blk.drew | apply Blk.drewN | apply Blk.alloc | refine Blk.far ?_ nz _), by repeat (with_reducible first | exact HB.out | apply Below.drew | refine below_setS ?_ (Nat.le_refl _))⟩)
      · as_aux_lemma =>
        have i0 : wc.cell? ⟨w.heap.size + 1, 0, none⟩ = some (.int .i64 4) := by rw [← hk]; exact i00
        clear i00
        have eR : stepR r o = r := by unfold stepR; rw [if_neg (by omega)]
        have eC : stepC c r o = { c.turn o.now with ll := -1 } := by unfold stepC; rw [if_neg (by omega), if_neg (by omega), if_neg (by omega), if_neg (by omega), if_pos hk]; rfl
        have eLL : 0 ≤ (stepC c r o).ll → last = (stepC c r o).ll := by rw [eC]; intro h; exact absurd h (by show ¬ (0:Int) ≤ -1; omega)
        have HLL := Lib.hid eLL
        clear eLL
        have thr0 := HC.out.t0
        have thr1 := HC.out.t1
        obtain ⟨b, hb⟩ : ∃ b, lossB c.ll c.rs = b := ⟨_, rfl⟩
        have EB := Lib.hid hb
        clear hb
        go_upto_region 22 with (fail)
        go_cut [80] (fun v W => v = .bool b ∧ W = wc)
        case first => as_aux_lemma =>
          by_cases hz : 0 ≤ c.ll
          · have hlast := HL.out hz
            rw [decide_eq_true hz] at c13
            by_cases hge : c.rs ≤ last
            · have eb : b = true := by rw [← EB.out]; unfold lossB; rw [decide_eq_false (show ¬ c.ll < 0 by omega), decide_eq_false (show ¬ c.ll < c.rs by omega)]; rfl
              go_wp2
              all_goals go_meet
              all_goals (case rel => exact ⟨by rw [eb]; first | done | exact vbool (by first | rfl | exact decide_eq_true (by omega) | exact decide_eq_false (by omega)), rfl⟩)
            · have eb : b = false := by rw [← EB.out]; unfold lossB; rw [decide_eq_false (show ¬ c.ll < 0 by omega), decide_eq_true (show c.ll < c.rs by omega)]; rfl
              go_wp2
              all_goals go_meet
              all_goals (case rel => exact ⟨by rw [eb]; first | done | exact vbool (by first | rfl | exact decide_eq_true (by omega) | exact decide_eq_false (by omega)), rfl⟩)
          · rw [decide_eq_false hz] at c13
            have eb : b = false := by rw [← EB.out]; unfold lossB; rw [decide_eq_true (show c.ll < 0 by omega)]; rfl
            go_wp2
            all_goals go_meet
            all_goals (case rel => exact ⟨by rw [eb]; first | done | exact vbool (by first | rfl | exact decide_eq_true (by omega) | exact decide_eq_false (by omega)), rfl⟩)
        case rest =>
          obtain ⟨rfl, rfl⟩ := hcut
          cases b
          · by_cases hp : 0 < c.pend
            · as_aux_lemma =>
              have ET := Lib.hid (show c.turn o.now = c.grown by simp [C.turn, EB.out, hp])
              have md2 : c.maxd ≤ 65527 := by omega
              go_upto_if 116 with (fail)
              go_cut [5] (fun _ W => Blk W w.heap.size 35 (scB { c with inr := false, pend := c.pend - slowD c.thr c.cw c.pend, cw := c.cw + slowD c.thr c.cw c.pend } r last k) ∧ Blk W (w.heap.size + 2) 35 #[.int .i64 0, .int .i64 0, .int .i64 0, .int .i64 0, .bool false, .bool false, .bool false, .bool false, .int .i64 0, .int .i64 0, .int .i64 0, .int .i64 0, .int .i64 0, .bool false, .int .i64 0] ∧ Below w.heap.size w W)
              case first => as_aux_lemma =>
                by_cases hs : c.cw < c.thr
                · by_cases hd : c.thr - c.cw ≤ c.pend
                  · have ED := Lib.hid (show slowD c.thr c.cw c.pend = c.thr - c.cw by unfold slowD; rw [if_pos hs]; omega)
                    go_wp2
                    go_meet
                    case rel => exact ⟨Blk.to (by repeat (with_reducible first | exact HG.out | apply Blk.drew | apply Blk.drewN | apply Blk.alloc | apply Blk.set_)) (by rw [ED.out]; simp [scB]), by repeat (with_reducible first | exact HZ.out | apply Blk.drew | apply Blk.drewN | apply Blk.alloc | refine Blk.far ?_ nz _), by repeat (with_reducible first | exact HB.out | apply Below.drew | refine below_setS ?_ (Nat.le_refl _))⟩
                  · have ED := Lib.hid (show slowD c.thr c.cw c.pend = c.pend by unfold slowD; rw [if_pos hs]; omega)
                    go_wp2
                    go_meet
                    case rel => exact ⟨Blk.to (by repeat (with_reducible first | exact HG.out | apply Blk.drew | apply Blk.drewN | apply Blk.alloc | apply Blk.set_)) (by rw [ED.out]; simp [scB]), by repeat (with_reducible first | exact HZ.out | apply Blk.drew | apply Blk.drewN | apply Blk.alloc | refine Blk.far ?_ nz _), by repeat (with_reducible first | exact HB.out | apply Below.drew | refine below_setS ?_ (Nat.le_refl _))⟩
                · have ED := Lib.hid (show slowD c.thr c.cw c.pend = 0 by unfold slowD; rw [if_neg hs])
                  go_wp2
                  go_meet
                  case rel => exact ⟨Blk.to (by repeat (with_reducible first | exact HG.out | apply Blk.drew | apply Blk.drewN | apply Blk.alloc | apply Blk.set_)) (by rw [ED.out]; simp [scB]), by repeat (with_reducible first | exact HZ.out | apply Blk.drew | apply Blk.drewN | apply Blk.alloc | refine Blk.far ?_ nz _), by repeat (with_reducible first | exact HB.out | apply Below.drew | refine below_setS ?_ (Nat.le_refl _))⟩
              case rest => as_aux_lemma =>
                obtain ⟨G1, Z1, B1⟩ := hcut
                have HD := Lib.hid (slowD_b c.thr c.cw c.pend (by omega))
                obtain ⟨P, hP⟩ : ∃ P, c.pend - slowD c.thr c.cw c.pend = P := ⟨_, rfl⟩
                obtain ⟨Q, hQ⟩ : ∃ Q, c.cw + slowD c.thr c.cw c.pend = Q := ⟨_, rfl⟩
                have EG := Lib.hid (show c.grown = { c with inr := false, pend := (grow c.maxd c.pend.toNat P Q).1, cw := (grow c.maxd c.pend.toNat P Q).2 } by unfold C.grown; rw [hP, hQ])
                rw [hP, hQ] at G1
                have g0 : 0 ≤ P := by have := HD.out; omega
                have g1 : P ≤ c.pend := by have := HD.out; omega
                have g2 : 2 * c.maxd ≤ Q := by have := HD.out; omega
                have g3 : P + Q < 1000000000000 := by have := HD.out; omega
                clear hP hQ HD HG HZ HB
                go_wp2
                go_loopg [] c.pend.toNat (fun n W => ∃ p q : Int, Blk W w.heap.size 35 (scB { c with inr := false, pend := p, cw := q } r last k) ∧ Blk W (w.heap.size + 2) 35 #[.int .i64 0, .int .i64 0, .int .i64 0, .int .i64 0, .bool false, .bool false, .bool false, .bool false, .int .i64 0, .int .i64 0, .int .i64 0, .int .i64 0, .int .i64 0, .bool false, .int .i64 0] ∧ Below w.heap.size w W ∧ grow c.maxd n p q = grow c.maxd c.pend.toNat P Q ∧ p.toNat ≤ n ∧ 0 ≤ p ∧ 2 * c.maxd ≤ q ∧ p + q < 1000000000000)
                case atStart => exact ⟨P, Q, G1, Z1, B1, rfl, by omega, g0, g2, g3⟩
                case round =>
                  obtain ⟨p, q, G2, Z2, B2, e1, e2, e3, e4, e5⟩ := hrel
                  have HG := Lib.hid G2
                  have HZ := Lib.hid Z2
                  have HB := Lib.hid B2
                  have E1 := Lib.hid e1
                  clear G2 Z2 B2 e1 G1 Z1 B1
                  have y0 : wr.cell? ⟨w.heap.size, 0, none⟩ = some (.int .i64 q) := HG.out.cellAt 0 rfl
                  have y3 : wr.cell? ⟨w.heap.size, 3, none⟩ = some (.int .i64 p) := HG.out.cellAt 3 rfl
                  have y14 : wr.cell? ⟨w.heap.size, 14, none⟩ = some (.int .i64 c.maxd) := HG.out.cellAt 14 rfl
                  have y13 : wr.cell? ⟨w.heap.size, 13, none⟩ = some (.bool (decide (0 ≤ c.ll))) := HG.out.cellAt 13 rfl
                  have f0 := HG.out.frozen 0
                  have f3 := HG.out.frozen 3
                  have f13 := HG.out.frozen 13
                  by_cases hq : q < p
                  · obtain ⟨n, rfl⟩ : ∃ n, gk = n + 1 := ⟨gk - 1, by omega⟩
                    have E2 := Lib.hid (show grow c.maxd n (p - q) (q + c.maxd) = grow c.maxd c.pend.toNat P Q by rw [← E1.out]; simp [grow, hq])
                    have hn : (p - q).toNat ≤ n := by omega
                    go_wp2
                    go_roundg n
                    case measure => omega
                    case rel => exact ⟨p - q, q + c.maxd, Blk.to (by repeat (with_reducible first | exact HG.out | apply Blk.drew | apply Blk.drewN | apply Blk.alloc | apply Blk.set_)) (by simp [scB]), by repeat (with_reducible first | exact HZ.out | apply Blk.drew | apply Blk.drewN | apply Blk.alloc | refine Blk.far ?_ nz _), by repeat (with_reducible first | exact HB.out | apply Below.drew | refine below_setS ?_ (Nat.le_refl _)), E2.out, hn, by omega, by omega, by omega⟩
                  · have E2 := Lib.hid (show grow c.maxd c.pend.toNat P Q = (p, q) by rw [← E1.out]; cases gk <;> simp [grow, hq])
                    go_wp2
                    go_meet
                    case rel => exact ⟨last, Blk.to (by repeat (with_reducible first | exact HG.out | apply Blk.drew | apply Blk.drewN | apply Blk.alloc | apply Blk.set_)) (by rw [eC, eR, ET.out, EG.out, E2.out]; simp [scB]), HLL.out, by repeat (with_reducible first | exact HZ.out | apply Blk.drew | apply Blk.drewN | apply Blk.alloc | refine Blk.far ?_ nz _), by repeat (with_reducible first | exact HB.out | apply Below.drew | refine below_setS ?_ (Nat.le_refl _))⟩
            · as_aux_lemma =>
              have ET := Lib.hid (show c.turn o.now = c by simp [C.turn, EB.out, hp])
              go_wp2
              go_meet
              case rel => exact ⟨last, Blk.to (by repeat (with_reducible first | exact HG.out | apply Blk.drew | apply Blk.drewN | apply Blk.alloc | apply Blk.set_)) (by rw [eC, eR, ET.out]; simp [scB]), HLL.out, by repeat (with_reducible first | exact HZ.out | apply Blk.drew | apply Blk.drewN | apply Blk.alloc | refine Blk.far ?_ nz _), by repeat (with_reducible first | exact HB.out | apply Below.drew | refine below_setS ?_ (Nat.le_refl _))⟩
          · as_aux_lemma =>
            have ET := Lib.hid (show c.turn o.now = c.halved o.now by unfold C.turn; rw [if_pos EB.out])
            go_upto_region 25 with (fail)
            refine wp_let (fun W => Blk W w.heap.size 35 (scB { c with rs := o.now, inr := true, one := true, thr := c.cw / 2 } r last k) ∧ Blk W (w.heap.size + 2) 35 #[.int .i64 0, .int .i64 0, .int .i64 0, .int .i64 0, .bool false, .bool false, .bool false, .bool false, .int .i64 0, .int .i64 0, .int .i64 0, .int .i64 0, .int .i64 0, .bool false, .int .i64 0] ∧ Below w.heap.size w W) ⟨Blk.to (by repeat (with_reducible first | exact HG.out | apply Blk.drew | apply Blk.drewN | apply Blk.alloc | apply Blk.set_)) (by simp [scB]), by repeat (with_reducible first | exact HZ.out | apply Blk.drew | apply Blk.drewN | apply Blk.alloc | refine Blk.far ?_ nz _), by repeat (with_reducible first | exact HB.out | apply Below.drew | refine below_setS ?_ (Nat.le_refl _))⟩ ?_
            rintro W1 ⟨hG, hZ, hB⟩
            clear HG HZ HB
            have y2 : W1.cell? ⟨w.heap.size, 2, none⟩ = some (.int .i64 (c.cw / 2)) := hG.cellAt 2 rfl
            have y14 : W1.cell? ⟨w.heap.size, 14, none⟩ = some (.int .i64 c.maxd) := hG.cellAt 14 rfl
            have y0 : W1.cell? ⟨w.heap.size, 0, none⟩ = some (.int .i64 c.cw) := hG.cellAt 0 rfl
            have y3 : W1.cell? ⟨w.heap.size, 3, none⟩ = some (.int .i64 c.pend) := hG.cellAt 3 rfl
            have y13 : W1.cell? ⟨w.heap.size, 13, none⟩ = some (.bool (decide (0 ≤ c.ll))) := hG.cellAt 13 rfl
            have f0 := hG.frozen 0
            have f3 := hG.frozen 3
            have f13 := hG.frozen 13
            have HG := Lib.hid hG
            have HZ := Lib.hid hZ
            have HB := Lib.hid hB
            have MC := Lib.hid (show ∀ V : World, Calls Try.prog 10 #[.int .i64 c.maxd] V (fun q w' => q = .returned (.int .i64 (2 * c.maxd)) ∧ V = w') from fun V => least_any c.maxd V (by omega) (by omega))
            clear hG hZ hB
            by_cases hm : c.cw / 2 < 2 * c.maxd
            · have EM := Lib.hid (show max (c.cw / 2) (2 * c.maxd) = 2 * c.maxd by omega)
              go_region_held3 (fun V => V.cell? ⟨w.heap.size, 2, none⟩ = some (.int .i64 (c.cw / 2)) ∧ V.cell? ⟨w.heap.size, 14, none⟩ = some (.int .i64 c.maxd)) (first | (go_keep; done) | (go_simp; done)) (first | (go_at_call 10; refine (MC.out _).mono ?_; rintro q w' ⟨rfl, rfl⟩))
              go_wp2
              go_meet
              case rel => exact ⟨last, Blk.to (by repeat (with_reducible first | exact HG.out | apply Blk.drew | apply Blk.drewN | apply Blk.alloc | apply Blk.set_)) (by rw [eC, eR, ET.out]; simp [scB, C.halved, EM.out]), HLL.out, by repeat (with_reducible first | exact HZ.out | apply Blk.drew | apply Blk.drewN | apply Blk.alloc | refine Blk.far ?_ nz _), by repeat (with_reducible first | exact HB.out | apply Below.drew | refine below_setS ?_ (Nat.le_refl _))⟩
            · have EM := Lib.hid (show max (c.cw / 2) (2 * c.maxd) = c.cw / 2 by omega)
              go_region_held3 (fun V => V.cell? ⟨w.heap.size, 2, none⟩ = some (.int .i64 (c.cw / 2)) ∧ V.cell? ⟨w.heap.size, 14, none⟩ = some (.int .i64 c.maxd)) (first | (go_keep; done) | (go_simp; done)) (first | (go_at_call 10; refine (MC.out _).mono ?_; rintro q w' ⟨rfl, rfl⟩))
              go_wp2
              go_meet
              case rel => exact ⟨last, Blk.to (by repeat (with_reducible first | exact HG.out | apply Blk.drew | apply Blk.drewN | apply Blk.alloc | apply Blk.set_)) (by rw [eC, eR, ET.out]; simp [scB, C.halved, EM.out]), HLL.out, by repeat (with_reducible first | exact HZ.out | apply Blk.drew | apply Blk.drewN | apply Blk.alloc | refine Blk.far ?_ nz _), by repeat (with_reducible first | exact HB.out | apply Below.drew | refine below_setS ?_ (Nat.le_refl _))⟩
      · as_aux_lemma =>
        have i0 : wc.cell? ⟨w.heap.size + 1, 0, none⟩ = some (.int .i64 5) := by rw [← hk]; exact i00
        clear i00
        have eC : stepC c r o = { c with und := o.v } := by unfold stepC; rw [if_neg (by omega)]; rw [if_neg (by omega)]; rw [if_neg (by omega)]; rw [if_neg (by omega)]; rw [if_neg (by omega)]; rw [if_pos hk]
        have eR : stepR r o = r := by unfold stepR; rw [if_neg (by omega)]
        go_wp2
        all_goals go_meet
        all_goals (case rel => exact ⟨last, by rw [eC, eR]; exact Blk.to (by repeat (with_reducible first | exact HG.out | apply Blk.drew | apply Blk.drewN | apply Blk.alloc | apply Blk.set_)) (by simp [scB]), by rw [eC]; exact HL.out, by repeat (with_reducible first | exact HZ.out | apply Blk.drew | apply Blk.drewN | apply Blk.alloc | refine Blk.far ?_ nz _), by repeat (with_reducible first | exact HB.out | apply Below.drew | refine below_setS ?_ (Nat.le_refl _))⟩)
      · as_aux_lemma =>
        have i0 : wc.cell? ⟨w.heap.size + 1, 0, none⟩ = some (.int .i64 6) := by rw [← hk]; exact i00
        clear i00
        have eR : stepR r o = r.sample o.now o.v o.lat o.del o.lim := by unfold stepR; rw [if_pos hk]
        have eC : stepC c r o = c := by unfold stepC; rw [if_neg (by omega), if_neg (by omega), if_neg (by omega), if_neg (by omega), if_neg (by omega), if_neg (by omega)]
        have sc := ssample_any w.heap.size c r last k o wc HG.out HO.out HR.out
        rw [hk] at sc
        have SC := Lib.hid sc
        clear sc
        have eLL : 0 ≤ (stepC c r o).ll → last = (stepC c r o).ll := by rw [eC]; exact HL.out
        have HLL := Lib.hid eLL
        clear eLL
        clear c0 c1 c2 c3 c4 c5 c6 c7 c8 c9 c10 c11 c12 c13 c14 fg0 fg1 fg2 fg3 fg4 fg5 fg6 fg7 fg8 fg9 fg10 fg11 fg12 fg13 fg14 i1 i2 i3 i4 i5 i6 i7 i8 i9 i10 i11
        go_wp2_with (first | (refine wpList_load_row (by rfl) 28 _ (by rfl) (w.heap.size + 1) (by rfl) 28 #[.int .i64 o.kind, .int .i64 o.space, .int .i64 o.now, .int .i64 o.time, .int .i64 o.num, .int .i64 o.size, .bool o.el, .bool o.inf, .bool o.v, .int .i64 o.lat, .int .i64 o.del, .int .i64 o.lim] (0, 0) _ HP.out Try.underlying28 (by rfl) (by kernel_rfl) ?_) | (go_at_call 11; refine SC.out.mono ?_; rintro q W1 ⟨rfl, hG1, hO1⟩; have G1 := Lib.hid hG1; have Z1 := Lib.hid (Blk.grown HZ.out hO1 (by intro h; injection h with h; omega)); have B1 := Lib.hid (HB.out.grown hO1 HB.out.size (by intro k h; injection h with h; omega)); clear hG1 hO1))
        all_goals go_meet
        all_goals (case rel => exact ⟨last, by rw [eC, eR]; exact G1.out, HLL.out, Z1.out, B1.out⟩)
    case rest => as_aux_lemma =>
      obtain ⟨last', hG, hL, hZ, hB⟩ := hcut
      have hci : CInv (n + 1) (stepC c r o) := stepC_inv HC.out (by omega) (by omega) HO.out
      obtain ⟨C1, hC1⟩ : ∃ C1, stepC c r o = C1 := ⟨_, rfl⟩
      obtain ⟨R1, hR1⟩ : ∃ R1, stepR r o = R1 := ⟨_, rfl⟩
      rw [hC1, hR1] at hG
      rw [hC1] at hL hci
      have EC := Lib.hid hC1
      have ER := Lib.hid hR1
      have HL1 := Lib.hid hL
      clear HC HR HL hC1 hR1 hL fl0 fl1 pd0 pd1 cw0 md0 md1 z0 z1
      have m0 := hci.m0
      have m1 := hci.m1
      have f0 := hci.f0
      have f1 := hci.f1
      clear hci
      go_upto_region 41 with (fail)
      go_cut [] (fun W => Blk W w.heap.size 35 (scB C1 R1 last' C1.can) ∧ Blk W (w.heap.size + 2) 35 #[.int .i64 0, .int .i64 0, .int .i64 0, .int .i64 0, .bool false, .bool false, .bool false, .bool false, .int .i64 0, .int .i64 0, .int .i64 0, .int .i64 0, .int .i64 0, .bool false, .int .i64 0] ∧ Below w.heap.size w W)
      case first =>
        have c0 : wc.cell? ⟨w.heap.size, 0, none⟩ = some (.int .i64 C1.cw) := hG.cellAt 0 rfl
        have c1 : wc.cell? ⟨w.heap.size, 1, none⟩ = some (.int .i64 C1.fl) := hG.cellAt 1 rfl
        have c2 : wc.cell? ⟨w.heap.size, 2, none⟩ = some (.int .i64 C1.thr) := hG.cellAt 2 rfl
        have c3 : wc.cell? ⟨w.heap.size, 3, none⟩ = some (.int .i64 C1.pend) := hG.cellAt 3 rfl
        have c4 : wc.cell? ⟨w.heap.size, 4, none⟩ = some (.bool k) := hG.cellAt 4 rfl
        have c5 : wc.cell? ⟨w.heap.size, 5, none⟩ = some (.bool C1.one) := hG.cellAt 5 rfl
        have c6 : wc.cell? ⟨w.heap.size, 6, none⟩ = some (.bool C1.inr) := hG.cellAt 6 rfl
        have c7 : wc.cell? ⟨w.heap.size, 7, none⟩ = some (.bool C1.und) := hG.cellAt 7 rfl
        have c8 : wc.cell? ⟨w.heap.size, 8, none⟩ = some (.int .i64 R1.mn) := hG.cellAt 8 rfl
        have c9 : wc.cell? ⟨w.heap.size, 9, none⟩ = some (.int .i64 R1.sm) := hG.cellAt 9 rfl
        have c10 : wc.cell? ⟨w.heap.size, 10, none⟩ = some (.int .i64 R1.var) := hG.cellAt 10 rfl
        have c11 : wc.cell? ⟨w.heap.size, 11, none⟩ = some (.int .i64 C1.rs) := hG.cellAt 11 rfl
        have c12 : wc.cell? ⟨w.heap.size, 12, none⟩ = some (.int .i64 last') := hG.cellAt 12 rfl
        have c13 : wc.cell? ⟨w.heap.size, 13, none⟩ = some (.bool (decide (0 ≤ C1.ll))) := hG.cellAt 13 rfl
        have c14 : wc.cell? ⟨w.heap.size, 14, none⟩ = some (.int .i64 C1.maxd) := hG.cellAt 14 rfl
        have fg4 := hG.frozen 4
        have lt2 := hZ.lt
        have nz : w.heap.size + 2 ≠ w.heap.size := by omega
        have HG := Lib.hid hG
        have HZ := Lib.hid hZ
        have HB := Lib.hid hB
        clear hG hZ hB
        cases h1 : C1.one
        · rw [h1] at c5
          by_cases h2 : C1.fl + C1.maxd ≤ C1.cw
          · have EK := Lib.hid (show C1.can = true by unfold C.can; rw [h1, decide_eq_true h2]; rfl)
            go_wp2
            all_goals go_meet
            all_goals (case rel => exact ⟨Blk.to (by repeat (with_reducible first | exact HG.out | apply Blk.drew | apply Blk.drewN | apply Blk.alloc | apply Blk.set_)) (by rw [EK.out]; simp [scB]), by repeat (with_reducible first | exact HZ.out | apply Blk.drew | apply Blk.drewN | apply Blk.alloc | refine Blk.far ?_ nz _), by repeat (with_reducible first | exact HB.out | apply Below.drew | refine below_setS ?_ (Nat.le_refl _))⟩)
          · have EK := Lib.hid (show C1.can = false by unfold C.can; rw [h1, decide_eq_false h2]; rfl)
            go_wp2
            all_goals go_meet
            all_goals (case rel => exact ⟨Blk.to (by repeat (with_reducible first | exact HG.out | apply Blk.drew | apply Blk.drewN | apply Blk.alloc | apply Blk.set_)) (by rw [EK.out]; simp [scB]), by repeat (with_reducible first | exact HZ.out | apply Blk.drew | apply Blk.drewN | apply Blk.alloc | refine Blk.far ?_ nz _), by repeat (with_reducible first | exact HB.out | apply Below.drew | refine below_setS ?_ (Nat.le_refl _))⟩)
        · rw [h1] at c5
          have EK := Lib.hid (show C1.can = true by unfold C.can; rw [h1]; rfl)
          go_wp2
          all_goals go_meet
          all_goals (case rel => exact ⟨Blk.to (by repeat (with_reducible first | exact HG.out | apply Blk.drew | apply Blk.drewN | apply Blk.alloc | apply Blk.set_)) (by rw [EK.out]; simp [scB]), by repeat (with_reducible first | exact HZ.out | apply Blk.drew | apply Blk.drewN | apply Blk.alloc | refine Blk.far ?_ nz _), by repeat (with_reducible first | exact HB.out | apply Below.drew | refine below_setS ?_ (Nat.le_refl _))⟩)
      case rest =>
        obtain ⟨hG, hZ, hB⟩ := hcut
        have HG := Lib.hid hG
        have HZ := Lib.hid hZ
        have HB := Lib.hid hB
        clear hG hZ hB
        go_wp2_with (first | (refine wpList_load_row (by rfl) 35 _ (by rfl) w.heap.size (by rfl) 35 (scB C1 R1 last' C1.can) (0, 0) _ HG.out Try.underlying35 (by rfl) (by kernel_rfl) ?_) | (refine wpList_store_row (by rfl) 35 _ _ (by rfl) (w.heap.size + 2) (scB C1 R1 last' C1.can) (by rfl) (by rfl) 35 _ HZ.out (by kernel_rfl) (by rfl) (scB_one _ _ _ _) ?_))
        all_goals (try simp only [Exit.inBlock, Exit.then])
        all_goals exact bodyPost_ret (v := .agg (scB C1 R1 last' C1.can)) (results_cell_row Try.results8 _ _ (w.heap.size + 2) 35 _ (0, 0) _ rfl (setRow_heap _ _ _ _ _ _ HZ.out) Try.underlying35 rfl (by kernel_rfl)) rfl ⟨last', by rw [EC.out, ER.out], by rw [EC.out]; exact HL1.out, below_row HB.out (by omega) _⟩
end Go.Proofs.Ytehplpakbfnhbaa
