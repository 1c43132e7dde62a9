/-
  spec: First, Least and sample: what they compute.
-/
import Derived.Test.YtehplpakbfnhbaaM1
import Derived.Deep.RegionHeld3
import Derived.BigRegion
import Derived.BigQuiet
namespace Go.Proofs.Ytehplpakbfnhbaa
open Go.RowKit
set_option linter.unusedVariables false
set_option linter.unusedSimpArgs false

/-- The state of the specification, cell by cell; k: whether one may send, as it was last reckoned. -/
def scB (c : C) (r : R) (last : Int) (k : Bool) : Array Value := #[.int .i64 c.cw, .int .i64 c.fl, .int .i64 c.thr, .int .i64 c.pend, .bool k, .bool c.one, .bool c.inr, .bool c.und, .int .i64 r.mn, .int .i64 r.sm, .int .i64 r.var, .int .i64 c.rs, .int .i64 last, .bool (decide (0 ≤ c.ll)), .int .i64 c.maxd]

theorem vint {a b : Int} (h : a = b) : Value.int .i64 a = Value.int .i64 b := by rw [h]
theorem vbool {a b : Bool} (h : a = b) : Value.bool a = Value.bool b := by rw [h]
set_option maxHeartbeats 1000000 in
theorem first_any (size : Int) (w : World) (h0 : 1200 ≤ size) (h1 : size ≤ 65527) :
    Calls Try.prog 7 #[.int .i64 size] w fun e w' => e = .returned (.agg (scB (C.new size) R.new 0 true)) ∧ Below w.heap.size w w' := by
  go_enter Try.func7, Try.ntmps7
  go_wp2
  all_goals exact bodyPost_ret (v := .agg (scB (C.new size) R.new 0 true)) (results_cell_row Try.results7 _ _ w.heap.size 35 _ (0, 0) _ rfl (Blk.to (Blk.new w 35 _) (by simp [scB, C.new, R.new]; omega)) Try.underlying35 rfl (by kernel_rfl)) rfl ⟨rfl, (Below.refl _ _).alloc (Nat.le_refl _) _⟩

theorem least_any (m : Int) (w : World) (h0 : 0 ≤ m) (h1 : m ≤ 65527) :
    Calls Try.prog 10 #[.int .i64 m] w fun e w' => e = .returned (.int .i64 (2 * m)) ∧ w = w' := by
  go_enter Try.func10, Try.ntmps10
  go_wp2
  go_ret
  exact ⟨rfl, rfl⟩

set_option maxRecDepth 100000 in
set_option maxHeartbeats 2000000 in
theorem ssample_first (g : Nat) (c : C) (r : R) (last : Int) (k : Bool) (o : Op) (w : World) (hg : Blk w g 35 (scB c r last k)) (h : Good o) (hm : r.mn < 0) :
    Calls Try.prog 11 #[.pointer (some ⟨g, 0, none⟩), .agg #[.int .i64 o.kind, .int .i64 o.space, .int .i64 o.now, .int .i64 o.time, .int .i64 o.num, .int .i64 o.size, .bool o.el, .bool o.inf, .bool o.v, .int .i64 o.lat, .int .i64 o.del, .int .i64 o.lim]] w fun e w' => e = .returned (.tuple #[]) ∧ Blk w' g 35 (scB c { mn := o.lat, latest := o.lat, sm := o.lat, var := o.lat / 2, first := o.now } last k) ∧ w.grownBy w' (some g) := by
  have l0 := h.l0
  have l1 := h.l1
  clear h
  have c0 : w.cell? ⟨g, 0, none⟩ = some (.int .i64 c.cw) := hg.cellAt 0 rfl
  have c1 : w.cell? ⟨g, 1, none⟩ = some (.int .i64 c.fl) := hg.cellAt 1 rfl
  have c2 : w.cell? ⟨g, 2, none⟩ = some (.int .i64 c.thr) := hg.cellAt 2 rfl
  have c3 : w.cell? ⟨g, 3, none⟩ = some (.int .i64 c.pend) := hg.cellAt 3 rfl
  have c4 : w.cell? ⟨g, 4, none⟩ = some (.bool k) := hg.cellAt 4 rfl
  have c5 : w.cell? ⟨g, 5, none⟩ = some (.bool c.one) := hg.cellAt 5 rfl
  have c6 : w.cell? ⟨g, 6, none⟩ = some (.bool c.inr) := hg.cellAt 6 rfl
  have c7 : w.cell? ⟨g, 7, none⟩ = some (.bool c.und) := hg.cellAt 7 rfl
  have c8 : w.cell? ⟨g, 8, none⟩ = some (.int .i64 r.mn) := hg.cellAt 8 rfl
  have c9 : w.cell? ⟨g, 9, none⟩ = some (.int .i64 r.sm) := hg.cellAt 9 rfl
  have c10 : w.cell? ⟨g, 10, none⟩ = some (.int .i64 r.var) := hg.cellAt 10 rfl
  have c11 : w.cell? ⟨g, 11, none⟩ = some (.int .i64 c.rs) := hg.cellAt 11 rfl
  have c12 : w.cell? ⟨g, 12, none⟩ = some (.int .i64 last) := hg.cellAt 12 rfl
  have c13 : w.cell? ⟨g, 13, none⟩ = some (.bool (decide (0 ≤ c.ll))) := hg.cellAt 13 rfl
  have c14 : w.cell? ⟨g, 14, none⟩ = some (.int .i64 c.maxd) := hg.cellAt 14 rfl
  have f8 := hg.frozen 8
  have f9 := hg.frozen 9
  have f10 := hg.frozen 10
  have lg := hg.lt
  have ng : g ≠ w.heap.size := by omega
  have G := Lib.hid hg
  clear hg
  go_enter Try.func11, Try.ntmps11
  go_upto_region 2 with (fail)
  go_region_held3 (fun V => V.cell? ⟨w.heap.size, 9, none⟩ = some (.int .i64 o.lat)) (first | (go_keep; done) | (go_simp; done)) (fail)
  all_goals go_wp2
  all_goals refine bodyPost_ret (results_none rfl _ _ _) rfl ?_
  have hq : IntKind.i64.wrap (o.lat.tdiv 2) = o.lat / 2 := Go.IntWalk.i64_quo _ _ ⟨by omega, by omega, by omega⟩
  all_goals exact ⟨rfl, Blk.to (by repeat (with_reducible first | exact G.out | apply Blk.drew | apply Blk.drewN | apply Blk.alloc | apply Blk.set_)) (by simp [scB, hq]), by repeat (with_reducible first | exact World.grownBy.refl w _ | apply only_drew | apply only_drewN | apply only_alloc | refine only_setCell ?_ (.inl rfl) _)⟩

set_option maxRecDepth 100000 in
set_option maxHeartbeats 2000000 in
theorem ssample_more (g : Nat) (c : C) (r : R) (last : Int) (k : Bool) (o : Op) (w : World) (hg : Blk w g 35 (scB c r last k)) (h : Good o) (hr : RInv r) (hm : 0 ≤ r.mn) :
    Calls Try.prog 11 #[.pointer (some ⟨g, 0, none⟩), .agg #[.int .i64 o.kind, .int .i64 o.space, .int .i64 o.now, .int .i64 o.time, .int .i64 o.num, .int .i64 o.size, .bool o.el, .bool o.inf, .bool o.v, .int .i64 o.lat, .int .i64 o.del, .int .i64 o.lim]] w fun e w' => e = .returned (.tuple #[]) ∧ Blk w' g 35 (scB c (r.sample o.now o.v o.lat o.del o.lim) last k) ∧ w.grownBy w' (some g) := by
  have l0 := h.l0
  have l1 := h.l1
  have d0 := h.d0
  have d1 := h.d1
  have i0 := h.m0
  have i1 := h.m1
  have r1 := hr.m1
  have q0 := hr.s0
  have q1 := hr.s1
  have v0 := hr.v0
  have v1 := hr.v1
  clear h hr
  have c8 : w.cell? ⟨g, 8, none⟩ = some (.int .i64 r.mn) := hg.cellAt 8 rfl
  have lg := hg.lt
  have ng : g ≠ w.heap.size := by omega
  have G := Lib.hid hg
  clear hg
  go_enter Try.func11, Try.ntmps11
  go_upto_region 3 with (fail)
  refine wp_let (fun W => Blk W g 35 (scB c r last k) ∧ Blk W w.heap.size 28 #[.int .i64 o.kind, .int .i64 o.space, .int .i64 o.now, .int .i64 o.time, .int .i64 o.num, .int .i64 o.size, .bool o.el, .bool o.inf, .bool o.v, .int .i64 o.lat, .int .i64 o.del, .int .i64 o.lim] ∧ w.grownBy W (some g)) ⟨G.out.alloc _, Blk.new _ _ _, only_alloc (World.grownBy.refl w _) _⟩ ?_
  rintro W0 ⟨hG, hB, hO⟩
  clear c8
  have c8 : W0.cell? ⟨g, 8, none⟩ = some (.int .i64 r.mn) := hG.cellAt 8 rfl
  have c9 : W0.cell? ⟨g, 9, none⟩ = some (.int .i64 r.sm) := hG.cellAt 9 rfl
  have c10 : W0.cell? ⟨g, 10, none⟩ = some (.int .i64 r.var) := hG.cellAt 10 rfl
  have fg8 := hG.frozen 8
  have fg9 := hG.frozen 9
  have fg10 := hG.frozen 10
  have b8 : W0.cell? ⟨w.heap.size, 8, none⟩ = some (.bool o.v) := hB.cellAt 8 rfl
  have b9 : W0.cell? ⟨w.heap.size, 9, none⟩ = some (.int .i64 o.lat) := hB.cellAt 9 rfl
  have b10 : W0.cell? ⟨w.heap.size, 10, none⟩ = some (.int .i64 o.del) := hB.cellAt 10 rfl
  have b11 : W0.cell? ⟨w.heap.size, 11, none⟩ = some (.int .i64 o.lim) := hB.cellAt 11 rfl
  have lg0 := hG.lt
  have lb0 := hB.lt
  have HG := Lib.hid hG
  have HB := Lib.hid hB
  have HO := Lib.hid hO
  clear hG hB hO
  go_cut [] (fun W => Blk W g 35 (scB c { r with mn := min r.mn o.lat } last k) ∧ Blk W w.heap.size 28 #[.int .i64 o.kind, .int .i64 o.space, .int .i64 o.now, .int .i64 o.time, .int .i64 o.num, .int .i64 o.size, .bool o.el, .bool o.inf, .bool o.v, .int .i64 o.lat, .int .i64 o.del, .int .i64 o.lim] ∧ w.grownBy W (some g))
  case first =>
    go_region
    all_goals go_wp2
    all_goals go_meet
    all_goals (case rel => exact ⟨Blk.to (by repeat (with_reducible first | exact HG.out | apply Blk.drew | apply Blk.drewN | apply Blk.alloc | apply Blk.set_)) (by simp [scB]; omega), by repeat (with_reducible first | exact HB.out | apply Blk.drew | apply Blk.drewN | apply Blk.alloc | refine Blk.far ?_ (Ne.symm ng) _), by repeat (with_reducible first | exact HO.out | apply only_drew | apply only_drewN | apply only_alloc | refine only_setCell ?_ (.inl rfl) _)⟩)
  case rest =>
    obtain ⟨hG, hB, hO⟩ := hcut
    clear HG HB HO fg8 fg9 fg10 lg0 lb0 c8 c9 c10 b8 b9 b10 b11
    obtain ⟨mn', hmn⟩ : ∃ mn', min r.mn o.lat = mn' := ⟨_, rfl⟩
    rw [hmn] at hG
    have HMN := Lib.hid hmn
    have mn0 : 0 ≤ mn' := by omega
    have mn1 : mn' ≤ 1099511627776 := by omega
    clear hmn
    have c8 : wc.cell? ⟨g, 8, none⟩ = some (.int .i64 mn') := hG.cellAt 8 rfl
    have c9 : wc.cell? ⟨g, 9, none⟩ = some (.int .i64 r.sm) := hG.cellAt 9 rfl
    have c10 : wc.cell? ⟨g, 10, none⟩ = some (.int .i64 r.var) := hG.cellAt 10 rfl
    have fg8 := hG.frozen 8
    have fg9 := hG.frozen 9
    have fg10 := hG.frozen 10
    have b8 : wc.cell? ⟨w.heap.size, 8, none⟩ = some (.bool o.v) := hB.cellAt 8 rfl
    have b9 : wc.cell? ⟨w.heap.size, 9, none⟩ = some (.int .i64 o.lat) := hB.cellAt 9 rfl
    have b10 : wc.cell? ⟨w.heap.size, 10, none⟩ = some (.int .i64 o.del) := hB.cellAt 10 rfl
    have b11 : wc.cell? ⟨w.heap.size, 11, none⟩ = some (.int .i64 o.lim) := hB.cellAt 11 rfl
    have lg0 := hG.lt
    have lb0 := hB.lt
    have HG := Lib.hid hG
    have HB := Lib.hid hB
    have HO := Lib.hid hO
    clear hG hB hO
    go_upto_if 40 with (fail)
    go_cut [1, 4, 40] (fun _ v _ W => v = .int .i64 (if o.v = true then min o.del o.lim else o.del) ∧ W = wc)
    case first =>
      cases hv : o.v
      · go_wp2
        all_goals go_meet
        all_goals (case rel => exact ⟨by rw [if_neg (by rw [hv]; decide)], rfl⟩)
      · go_wp2
        all_goals go_meet
        all_goals (case rel => exact ⟨by rw [if_pos hv]; exact vint (by first | omega | (split <;> omega) | (simp only [Int.min_def]; split <;> omega)), rfl⟩)
    case rest =>
      obtain ⟨rfl, rfl⟩ := hcut
      obtain ⟨d, hd⟩ : ∃ d, (if o.v = true then min o.del o.lim else o.del) = d := ⟨_, rfl⟩
      have dd0 : 0 ≤ d := by rw [← hd]; split <;> omega
      have dd1 : d ≤ 1099511627776 := by rw [← hd]; split <;> omega
      rw [hd]
      have HD := Lib.hid hd
      clear hd
      go_upto_if 55 with (go_region)
      go_cut [5] (fun v W => v = .int .i64 ((r.adj o.v o.lat o.del o.lim)) ∧ Blk W g 35 (scB c { r with mn := mn' } last k) ∧ w.grownBy W (some g))
      case first =>
        by_cases hc : mn' + d ≤ o.lat
        · have e : r.adj o.v o.lat o.del o.lim = o.lat - d := by unfold R.adj; rw [HMN.out, HD.out, if_neg (by omega)]
          go_wp2
          all_goals go_meet
          all_goals (case rel => exact ⟨by rw [e], by repeat (with_reducible first | exact HG.out | apply Blk.drew | apply Blk.drewN | apply Blk.alloc | apply Blk.set_), by repeat (with_reducible first | exact HO.out | apply only_drew | apply only_drewN | apply only_alloc | refine only_setCell ?_ (.inl rfl) _)⟩)
        · have e : r.adj o.v o.lat o.del o.lim = o.lat := by unfold R.adj; rw [HMN.out, HD.out, if_pos (by omega)]
          go_wp2
          all_goals go_meet
          all_goals (case rel => exact ⟨by rw [e], by repeat (with_reducible first | exact HG.out | apply Blk.drew | apply Blk.drewN | apply Blk.alloc | apply Blk.set_), by repeat (with_reducible first | exact HO.out | apply only_drew | apply only_drewN | apply only_alloc | refine only_setCell ?_ (.inl rfl) _)⟩)
      case rest =>
        obtain ⟨rfl, hG, hO⟩ := hcut
        have ad0 : 0 ≤ r.adj o.v o.lat o.del o.lim ∧ r.adj o.v o.lat o.del o.lim ≤ o.lat := by
          unfold R.adj
          rw [HMN.out, HD.out]
          split <;> omega
        obtain ⟨av, hav⟩ : ∃ av, r.adj o.v o.lat o.del o.lim = av := ⟨_, rfl⟩
        rw [hav] at ad0
        rw [hav]
        have HAV := Lib.hid hav
        obtain ⟨a0, a1⟩ := ad0
        clear hav fg8 fg9 fg10 lg0 lb0 c8 c9 c10 b8 b9 b10 b11 HG HB HO
        have c9 : wc.cell? ⟨g, 9, none⟩ = some (.int .i64 r.sm) := hG.cellAt 9 rfl
        have c10 : wc.cell? ⟨g, 10, none⟩ = some (.int .i64 r.var) := hG.cellAt 10 rfl
        have fg9 := hG.frozen 9
        have fg10 := hG.frozen 10
        have HG := Lib.hid hG
        have HO := Lib.hid hO
        clear hG hO
        obtain ⟨z0, z1⟩ := absI_b (r.sm - av) 2199023255552 (by omega) (by omega)
        go_upto_region 10 with (fail)
        go_cut [] (fun W => Blk W g 35 (scB c { r with mn := mn', var := (3 * r.var + absI (r.sm - av)) / 4 } last k) ∧ w.grownBy W (some g))
        case first =>
          by_cases hs : r.sm - av < 0
          · have e : absI (r.sm - av) = av - r.sm := by unfold absI; rw [if_pos hs]; omega
            rw [e] at z0 z1
            go_region
            all_goals go_wp2
            all_goals go_meet
            all_goals (case rel => exact ⟨by rw [e]; exact Blk.to (by repeat (with_reducible first | exact HG.out | apply Blk.drew | apply Blk.drewN | apply Blk.alloc | apply Blk.set_)) (by simp [scB]), by repeat (with_reducible first | exact HO.out | apply only_drew | apply only_drewN | apply only_alloc | refine only_setCell ?_ (.inl rfl) _)⟩)
          · have e : absI (r.sm - av) = r.sm - av := by unfold absI; rw [if_neg hs]
            rw [e] at z0 z1
            go_region
            all_goals go_wp2
            all_goals go_meet
            all_goals (case rel => exact ⟨by rw [e]; exact Blk.to (by repeat (with_reducible first | exact HG.out | apply Blk.drew | apply Blk.drewN | apply Blk.alloc | apply Blk.set_)) (by simp [scB]), by repeat (with_reducible first | exact HO.out | apply only_drew | apply only_drewN | apply only_alloc | refine only_setCell ?_ (.inl rfl) _)⟩)
        case rest =>
          obtain ⟨hG, hO⟩ := hcut
          clear c9 c10 fg9 fg10 HG HO
          have c9 : wc.cell? ⟨g, 9, none⟩ = some (.int .i64 r.sm) := hG.cellAt 9 rfl
          have fg9 := hG.frozen 9
          have HG := Lib.hid hG
          have HO := Lib.hid hO
          clear hG hO
          go_wp2
          go_end0
          have eF : r.sample o.now o.v o.lat o.del o.lim = { r with mn := mn', latest := o.lat, sm := (7 * r.sm + av) / 8, var := (3 * r.var + absI (r.sm - av)) / 4 } := by
            unfold R.sample
            rw [if_neg (by omega), HMN.out, HAV.out]
          exact ⟨rfl, by rw [eF]; exact Blk.to (by repeat (with_reducible first | exact HG.out | apply Blk.drew | apply Blk.drewN | apply Blk.alloc | apply Blk.set_)) (by simp [scB]), by repeat (with_reducible first | exact HO.out | apply only_drew | apply only_drewN | apply only_alloc | refine only_setCell ?_ (.inl rfl) _)⟩

theorem ssample_any (g : Nat) (c : C) (r : R) (last : Int) (k : Bool) (o : Op) (w : World) (hg : Blk w g 35 (scB c r last k)) (h : Good o) (hr : RInv r) :
    Calls Try.prog 11 #[.pointer (some ⟨g, 0, none⟩), .agg #[.int .i64 o.kind, .int .i64 o.space, .int .i64 o.now, .int .i64 o.time, .int .i64 o.num, .int .i64 o.size, .bool o.el, .bool o.inf, .bool o.v, .int .i64 o.lat, .int .i64 o.del, .int .i64 o.lim]] w fun e w' => e = .returned (.tuple #[]) ∧ Blk w' g 35 (scB c (r.sample o.now o.v o.lat o.del o.lim) last k) ∧ w.grownBy w' (some g) := by
  by_cases hm : r.mn < 0
  · have e : r.sample o.now o.v o.lat o.del o.lim = { mn := o.lat, latest := o.lat, sm := o.lat, var := o.lat / 2, first := o.now } := by unfold R.sample; rw [if_pos hm]
    rw [e]
    exact ssample_first g c r last k o w hg h hm
  · exact ssample_more g c r last k o w hg h hr (by omega)
end Go.Proofs.Ytehplpakbfnhbaa
