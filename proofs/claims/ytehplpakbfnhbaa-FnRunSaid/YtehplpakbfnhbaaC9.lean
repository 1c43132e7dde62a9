/-
  What packetBatchEnd does to the controller's block.
-/
import Derived.Test.YtehplpakbfnhbaaC8
namespace Go.Proofs.Ytehplpakbfnhbaa
open Go.RowKit
set_option linter.unusedVariables false
set_option linter.unusedSimpArgs false

set_option maxRecDepth 100000 in
set_option maxHeartbeats 40000000 in
theorem batch_any (g r : Nat) (c : C) (R0 : R) (now lim : Int) (w : World) (hg : Blk w g 59 (ccells c)) (hr : Blk w r 54 (rcells R0)) (m0 : 1200 ≤ c.maxd) (m1 : c.maxd ≤ 65527) (w0 : 2 * c.maxd ≤ c.cw) (w1 : c.cw + c.pend < 1000000000000) (t0 : 0 ≤ c.thr) (t1 : c.thr ≤ 9223372036854775807)
    (p0 : 0 ≤ c.pend) (r0 : -1 ≤ c.rs) (r1 : c.rs < 3000000) (l0 : -1 ≤ c.ll) (l1 : c.ll < 3000000) (i0 : 0 ≤ lim) (i1 : lim ≤ 1099511627776) (u0 : 0 ≤ R0.sm) (u1 : R0.sm ≤ 1099511627776) (v0 : 0 ≤ R0.var) (v1 : R0.var ≤ 1099511627776)
    (pinv : c.PInv) (sp : Int) (hsp : sp = 0 ∨ sp = 1 ∨ sp = 2) :
    Calls Try.prog 23 #[.pointer (some ⟨g, 0, none⟩), .agg #[.int .u64 (tw now), .int .i64 (te now)], .int .u8 sp, .pointer (some ⟨r, 0, none⟩), .int .i64 lim] w fun q w' => q = .returned (.tuple #[]) ∧ Blk w' g 59 (ccells (c.batch now)) ∧ w.grownBy w' (some g) := by
  have G := Lib.hid hg
  have GR := Lib.hid hr
  have hne : r ≠ g := fun h => Blk.ne_ hg hr (by decide) h.symm
  clear hg hr
  have PI := Lib.hid pinv
  have SP := Lib.hid hsp
  clear pinv hsp
  go_enter Try.func23, Try.ntmps23
  go_wp2
  go_cut [31] (fun v W => v = .bool (lossB c.ll c.rs) ∧ Blk W g 59 (ccells c) ∧ Blk W r 54 (rcells R0) ∧ Blk W w.heap.size 52 #[.int .u64 (tw now), .int .i64 (te now)] ∧ w.grownBy W (some g))
  case first => as_aux_lemma =>
    refine wp_let (fun W => Blk W g 59 (ccells c) ∧ Blk W r 54 (rcells R0) ∧ Blk W w.heap.size 52 #[.int .u64 (tw now), .int .i64 (te now)] ∧ w.grownBy W (some g)) ⟨G.out.alloc _, GR.out.alloc _, Blk.new w 52 _, only_alloc (World.grownBy.refl w _) _⟩ ?_
    rintro W ⟨G1, R1, B1, O1⟩
    have HG := Lib.hid G1
    have HR := Lib.hid R1
    have HB := Lib.hid B1
    have HO := Lib.hid O1
    clear G1 R1 B1 O1
    have x4 : W.cell? ⟨g, 4, none⟩ = some (.int .u64 (tw c.rs)) := HG.out.cellAt 4 rfl
    have x5 : W.cell? ⟨g, 5, none⟩ = some (.int .i64 (te c.rs)) := HG.out.cellAt 5 rfl
    have x6 : W.cell? ⟨g, 10, none⟩ = some (.int .u64 (tw c.ll)) := HG.out.cellAt 10 rfl
    have x7 : W.cell? ⟨g, 11, none⟩ = some (.int .i64 (te c.ll)) := HG.out.cellAt 11 rfl
    by_cases hz : c.ll < 0
    · have z1 : decide (c.ll < 0) = true := by simpa using hz
      have HV := Lib.hid (show lossB c.ll c.rs = false by simp [lossB, hz])
      clear hz
      refine wp_region_held_drew (S := (fun V => V.cell? ⟨g, 10, none⟩ = some (.int .u64 (tw c.ll)) ∧ V.cell? ⟨g, 11, none⟩ = some (.int .i64 (te c.ll)))) (by kernel_rfl) (by go_keep) (fun hHeld => ?_)
      refine wpAnyH_take (i := 0) (oi := { dst := some 14, op := Op.move (Operand.tmp 0), type := 46, pos := "congestion_reno.go:194", after := #[], guard := none }) (v := _) rfl (by kernel_rfl) (by kernel_rfl) (by kernel_rfl) (fun _ _ _ h => h) (Or.inl ⟨by rfl, by intro w hSw; (try dsimp only at hSw); go_simp; try with_reducible rfl⟩) (by assumption) ?_
      try simp only [Act.put, List.setIfInBounds_toArray, List.set_cons_zero, List.set_cons_succ]
      refine wpAnyH_take (i := 1) (oi := { dst := some 15, op := Op.nilCheck (Operand.tmp 14), type := 0, pos := "congestion_reno.go:194", after := #[{ on := 0, ground := Ground.data }], guard := none }) (v := _) rfl (by kernel_rfl) (by kernel_rfl) (by kernel_rfl) (fun _ _ _ h => h) (Or.inl ⟨by rfl, by intro w hSw; (try dsimp only at hSw); go_simp; try with_reducible rfl⟩) (by assumption) ?_
      try simp only [Act.put, List.setIfInBounds_toArray, List.set_cons_zero, List.set_cons_succ]
      refine wpAnyH_take (i := 2) (oi := { dst := some 16, op := Op.fieldAddr 59 (Operand.tmp 15) 9, type := 0, pos := "congestion_reno.go:194", after := #[{ on := 1, ground := Ground.data }], guard := none }) (v := _) rfl (by kernel_rfl) (by kernel_rfl) (by kernel_rfl) (fun _ _ _ h => h) (Or.inl ⟨by rfl, by intro w hSw; (try dsimp only at hSw); go_simp; try with_reducible rfl⟩) (by assumption) ?_
      try simp only [Act.put, List.setIfInBounds_toArray, List.set_cons_zero, List.set_cons_succ]
      refine wpAnyH_take (i := 3) (oi := { dst := some 17, op := Op.load 52 (Operand.tmp 16), type := 52, pos := "congestion_reno.go:194", after := #[{ on := 2, ground := Ground.data }], guard := none }) (v := _) rfl (by kernel_rfl) (by kernel_rfl) (by kernel_rfl) (fun _ _ _ h => h) (Or.inl ⟨by rfl, by intro w hSw; (try dsimp only at hSw); go_simp; try with_reducible rfl⟩) (by assumption) ?_
      try simp only [Act.put, List.setIfInBounds_toArray, List.set_cons_zero, List.set_cons_succ]
      refine wpAnyH_ready (rs := [4]) (by kernel_rfl) (by simp) ?_
      refine AllReadyH.cons (o := { dst := some 18, op := Op.call { callee := Callee.value (Operand.func 30), args := #[Operand.tmp 17], argTypes := #[52] }, type := 4, pos := "congestion_reno.go:194", after := #[{ on := 3, ground := Ground.data }], guard := none }) rfl (fun K hK => ?_) AllReadyH.nil
      go_simp
      (go_at_call 30; refine (isZero_b _ _ _ z1).mono ?_; rintro q w2 ⟨rfl, hb⟩; have G2 := Lib.hid (Blk.below HG.out.drew hb HG.out.lt); have R2 := Lib.hid (Blk.below HR.out.drew hb HR.out.lt); have B2 := Lib.hid (Blk.below HB.out.drew hb HB.out.lt); have O2 := Lib.hid (grownBy_trans (only_drew HO.out) (only_of_below hb _)); have x42 : w2.cell? ⟨g, 4, none⟩ = some (.int .u64 (tw c.rs)) := G2.out.cellAt 4 rfl; have x52 : w2.cell? ⟨g, 5, none⟩ = some (.int .i64 (te c.rs)) := G2.out.cellAt 5 rfl; have x62 : w2.cell? ⟨g, 10, none⟩ = some (.int .u64 (tw c.ll)) := G2.out.cellAt 10 rfl; have x72 : w2.cell? ⟨g, 11, none⟩ = some (.int .i64 (te c.ll)) := G2.out.cellAt 11 rfl)
      refine hK.out _ _ (by go_keep) (fun hHeld2 => ?_)
      clear hK K
      try simp only [Act.put, List.setIfInBounds_toArray, List.set_cons_zero, List.set_cons_succ]
      refine wpAnyH_take (i := 5) (oi := { dst := some 19, op := Op.unOp UnOp.not 4 (Operand.tmp 18), type := 4, pos := "congestion_reno.go:194", after := #[{ on := 4, ground := Ground.data }], guard := none }) (v := _) rfl (by kernel_rfl) (by kernel_rfl) (by kernel_rfl) (fun _ _ _ h => h) (Or.inl ⟨by rfl, by intro w hSw; (try dsimp only at hSw); go_simp; try with_reducible rfl⟩) (by assumption) ?_
      try simp only [Act.put, List.setIfInBounds_toArray, List.set_cons_zero, List.set_cons_succ]
      refine wpAnyH_take (i := 6) (oi := { dst := some 20, op := Op.move (Operand.tmp 19), type := 4, pos := "congestion_reno.go:194", after := #[{ on := 5, ground := Ground.data }, { on := 4, ground := Ground.chain }], guard := none }) (v := _) rfl (by kernel_rfl) (by kernel_rfl) (by kernel_rfl) (fun _ _ _ h => h) (Or.inl ⟨by rfl, by intro w hSw; (try dsimp only at hSw); go_simp; try with_reducible rfl⟩) (by assumption) ?_
      try simp only [Act.put, List.setIfInBounds_toArray, List.set_cons_zero, List.set_cons_succ]
      refine wpAnyH_take (i := 7) (oi := { dst := some 21, op := Op.move (Operand.tmp 0), type := 46, pos := "congestion_reno.go:194", after := #[{ on := 6, ground := Ground.guard }], guard := some (6, true) }) (v := undef) rfl (by kernel_rfl) (by kernel_rfl) (by kernel_rfl) (fun _ _ _ h => h) (Or.inr ⟨by rfl, rfl⟩) (by assumption) ?_
      try simp only [Act.put, List.setIfInBounds_toArray, List.set_cons_zero, List.set_cons_succ]
      refine wpAnyH_take (i := 8) (oi := { dst := some 22, op := Op.nilCheck (Operand.tmp 21), type := 0, pos := "congestion_reno.go:194", after := #[{ on := 7, ground := Ground.data }, { on := 6, ground := Ground.guard }], guard := some (6, true) }) (v := undef) rfl (by kernel_rfl) (by kernel_rfl) (by kernel_rfl) (fun _ _ _ h => h) (Or.inr ⟨by rfl, rfl⟩) (by assumption) ?_
      try simp only [Act.put, List.setIfInBounds_toArray, List.set_cons_zero, List.set_cons_succ]
      refine wpAnyH_take (i := 9) (oi := { dst := some 23, op := Op.fieldAddr 59 (Operand.tmp 22) 9, type := 0, pos := "congestion_reno.go:194", after := #[{ on := 8, ground := Ground.data }, { on := 6, ground := Ground.guard }], guard := some (6, true) }) (v := undef) rfl (by kernel_rfl) (by kernel_rfl) (by kernel_rfl) (fun _ _ _ h => h) (Or.inr ⟨by rfl, rfl⟩) (by assumption) ?_
      try simp only [Act.put, List.setIfInBounds_toArray, List.set_cons_zero, List.set_cons_succ]
      refine wpAnyH_take (i := 10) (oi := { dst := some 24, op := Op.load 52 (Operand.tmp 23), type := 52, pos := "congestion_reno.go:194", after := #[{ on := 9, ground := Ground.data }, { on := 6, ground := Ground.guard }], guard := some (6, true) }) (v := undef) rfl (by kernel_rfl) (by kernel_rfl) (by kernel_rfl) (fun _ _ _ h => h) (Or.inr ⟨by rfl, rfl⟩) (by assumption) ?_
      try simp only [Act.put, List.setIfInBounds_toArray, List.set_cons_zero, List.set_cons_succ]
      refine wpAnyH_take (i := 11) (oi := { dst := some 25, op := Op.move (Operand.tmp 0), type := 46, pos := "congestion_reno.go:194", after := #[{ on := 6, ground := Ground.guard }], guard := some (6, true) }) (v := undef) rfl (by kernel_rfl) (by kernel_rfl) (by kernel_rfl) (fun _ _ _ h => h) (Or.inr ⟨by rfl, rfl⟩) (by assumption) ?_
      try simp only [Act.put, List.setIfInBounds_toArray, List.set_cons_zero, List.set_cons_succ]
      refine wpAnyH_take (i := 12) (oi := { dst := some 26, op := Op.nilCheck (Operand.tmp 25), type := 0, pos := "congestion_reno.go:194", after := #[{ on := 11, ground := Ground.data }, { on := 6, ground := Ground.guard }], guard := some (6, true) }) (v := undef) rfl (by kernel_rfl) (by kernel_rfl) (by kernel_rfl) (fun _ _ _ h => h) (Or.inr ⟨by rfl, rfl⟩) (by assumption) ?_
      try simp only [Act.put, List.setIfInBounds_toArray, List.set_cons_zero, List.set_cons_succ]
      refine wpAnyH_take (i := 13) (oi := { dst := some 27, op := Op.fieldAddr 59 (Operand.tmp 26) 4, type := 0, pos := "congestion_reno.go:194", after := #[{ on := 12, ground := Ground.data }, { on := 6, ground := Ground.guard }], guard := some (6, true) }) (v := undef) rfl (by kernel_rfl) (by kernel_rfl) (by kernel_rfl) (fun _ _ _ h => h) (Or.inr ⟨by rfl, rfl⟩) (by assumption) ?_
      try simp only [Act.put, List.setIfInBounds_toArray, List.set_cons_zero, List.set_cons_succ]
      refine wpAnyH_take (i := 14) (oi := { dst := some 28, op := Op.load 52 (Operand.tmp 27), type := 52, pos := "congestion_reno.go:194", after := #[{ on := 13, ground := Ground.data }, { on := 6, ground := Ground.guard }], guard := some (6, true) }) (v := undef) rfl (by kernel_rfl) (by kernel_rfl) (by kernel_rfl) (fun _ _ _ h => h) (Or.inr ⟨by rfl, rfl⟩) (by assumption) ?_
      try simp only [Act.put, List.setIfInBounds_toArray, List.set_cons_zero, List.set_cons_succ]
      refine wpAnyH_take (i := 15) (oi := { dst := some 29, op := Op.call { callee := Callee.value (Operand.func 29), args := #[Operand.tmp 24, Operand.tmp 28], argTypes := #[52, 52] }, type := 4, pos := "congestion_reno.go:194", after := #[{ on := 10, ground := Ground.data }, { on := 14, ground := Ground.data }, { on := 6, ground := Ground.chain }, { on := 6, ground := Ground.guard }], guard := some (6, true) }) (v := undef) rfl (by kernel_rfl) (by kernel_rfl) (by kernel_rfl) (fun _ _ _ h => h) (Or.inr ⟨by rfl, rfl⟩) (by assumption) ?_
      try simp only [Act.put, List.setIfInBounds_toArray, List.set_cons_zero, List.set_cons_succ]
      refine wpAnyH_take (i := 16) (oi := { dst := some 30, op := Op.unOp UnOp.not 4 (Operand.tmp 29), type := 4, pos := "congestion_reno.go:194", after := #[{ on := 15, ground := Ground.data }, { on := 6, ground := Ground.guard }], guard := some (6, true) }) (v := undef) rfl (by kernel_rfl) (by kernel_rfl) (by kernel_rfl) (fun _ _ _ h => h) (Or.inr ⟨by rfl, rfl⟩) (by assumption) ?_
      try simp only [Act.put, List.setIfInBounds_toArray, List.set_cons_zero, List.set_cons_succ]
      refine wpAnyH_take (i := 17) (oi := { dst := some 31, op := Op.pick (Operand.tmp 20) (Operand.tmp 30) (Operand.const (Value.bool false)), type := 4, pos := "congestion_reno.go:194", after := #[{ on := 6, ground := Ground.data }, { on := 16, ground := Ground.data }], guard := none }) (v := _) rfl (by kernel_rfl) (by kernel_rfl) (by kernel_rfl) (fun _ _ _ h => h) (Or.inl ⟨by rfl, by intro w hSw; (try dsimp only at hSw); go_simp; try with_reducible rfl⟩) (by assumption) ?_
      try simp only [Act.put, List.setIfInBounds_toArray, List.set_cons_zero, List.set_cons_succ]
      refine wpAnyH_done (by kernel_rfl) ?_ _
      all_goals (go_wp2; go_meet; case rel => exact ⟨by rw [HV.out], G2.out, R2.out, B2.out, O2.out⟩)
    · have z1 : decide (c.ll < 0) = false := by simpa using hz
      by_cases hl : c.ll < c.rs
      · have z2 : decide (c.ll < c.rs) = true := by simpa using hl
        have HV := Lib.hid (show lossB c.ll c.rs = false by simp [lossB, hl])
        clear hz hl
        go_region_held3 (fun V => V.cell? ⟨g, 4, none⟩ = some (.int .u64 (tw c.rs)) ∧ V.cell? ⟨g, 5, none⟩ = some (.int .i64 (te c.rs)) ∧ V.cell? ⟨g, 10, none⟩ = some (.int .u64 (tw c.ll)) ∧ V.cell? ⟨g, 11, none⟩ = some (.int .i64 (te c.ll))) (go_keep) (first | (go_at_call 30; refine (isZero_b _ _ _ z1).mono ?_; rintro q w2 ⟨rfl, hb⟩; have G2 := Lib.hid (Blk.below HG.out.drew hb HG.out.lt); have R2 := Lib.hid (Blk.below HR.out.drew hb HR.out.lt); have B2 := Lib.hid (Blk.below HB.out.drew hb HB.out.lt); have O2 := Lib.hid (grownBy_trans (only_drew HO.out) (only_of_below hb _)); have x42 : w2.cell? ⟨g, 4, none⟩ = some (.int .u64 (tw c.rs)) := G2.out.cellAt 4 rfl; have x52 : w2.cell? ⟨g, 5, none⟩ = some (.int .i64 (te c.rs)) := G2.out.cellAt 5 rfl; have x62 : w2.cell? ⟨g, 10, none⟩ = some (.int .u64 (tw c.ll)) := G2.out.cellAt 10 rfl; have x72 : w2.cell? ⟨g, 11, none⟩ = some (.int .i64 (te c.ll)) := G2.out.cellAt 11 rfl) | (go_at_call 29; refine (before_b _ _ _ _ z2 l0 l1 r0 r1).mono ?_; rintro q w3 ⟨rfl, hb3⟩; have G3 := Lib.hid (Blk.below G2.out hb3 G2.out.lt); have R3 := Lib.hid (Blk.below R2.out hb3 R2.out.lt); have B3 := Lib.hid (Blk.below B2.out hb3 B2.out.lt); have O3 := Lib.hid (grownBy_trans O2.out (only_of_below hb3 _)); have x43 : w3.cell? ⟨g, 4, none⟩ = some (.int .u64 (tw c.rs)) := G3.out.cellAt 4 rfl; have x53 : w3.cell? ⟨g, 5, none⟩ = some (.int .i64 (te c.rs)) := G3.out.cellAt 5 rfl; have x63 : w3.cell? ⟨g, 10, none⟩ = some (.int .u64 (tw c.ll)) := G3.out.cellAt 10 rfl; have x73 : w3.cell? ⟨g, 11, none⟩ = some (.int .i64 (te c.ll)) := G3.out.cellAt 11 rfl))
        all_goals (go_wp2; go_meet; case rel => exact ⟨by rw [HV.out], G3.out, R3.out, B3.out, O3.out⟩)
      · have z2 : decide (c.ll < c.rs) = false := by simpa using hl
        have HV := Lib.hid (show lossB c.ll c.rs = true by unfold lossB; rw [z1, z2]; rfl)
        clear hz hl
        go_region_held3 (fun V => V.cell? ⟨g, 4, none⟩ = some (.int .u64 (tw c.rs)) ∧ V.cell? ⟨g, 5, none⟩ = some (.int .i64 (te c.rs)) ∧ V.cell? ⟨g, 10, none⟩ = some (.int .u64 (tw c.ll)) ∧ V.cell? ⟨g, 11, none⟩ = some (.int .i64 (te c.ll))) (go_keep) (first | (go_at_call 30; refine (isZero_b _ _ _ z1).mono ?_; rintro q w2 ⟨rfl, hb⟩; have G2 := Lib.hid (Blk.below HG.out.drew hb HG.out.lt); have R2 := Lib.hid (Blk.below HR.out.drew hb HR.out.lt); have B2 := Lib.hid (Blk.below HB.out.drew hb HB.out.lt); have O2 := Lib.hid (grownBy_trans (only_drew HO.out) (only_of_below hb _)); have x42 : w2.cell? ⟨g, 4, none⟩ = some (.int .u64 (tw c.rs)) := G2.out.cellAt 4 rfl; have x52 : w2.cell? ⟨g, 5, none⟩ = some (.int .i64 (te c.rs)) := G2.out.cellAt 5 rfl; have x62 : w2.cell? ⟨g, 10, none⟩ = some (.int .u64 (tw c.ll)) := G2.out.cellAt 10 rfl; have x72 : w2.cell? ⟨g, 11, none⟩ = some (.int .i64 (te c.ll)) := G2.out.cellAt 11 rfl) | (go_at_call 29; refine (before_b _ _ _ _ z2 l0 l1 r0 r1).mono ?_; rintro q w3 ⟨rfl, hb3⟩; have G3 := Lib.hid (Blk.below G2.out hb3 G2.out.lt); have R3 := Lib.hid (Blk.below R2.out hb3 R2.out.lt); have B3 := Lib.hid (Blk.below B2.out hb3 B2.out.lt); have O3 := Lib.hid (grownBy_trans O2.out (only_of_below hb3 _)); have x43 : w3.cell? ⟨g, 4, none⟩ = some (.int .u64 (tw c.rs)) := G3.out.cellAt 4 rfl; have x53 : w3.cell? ⟨g, 5, none⟩ = some (.int .i64 (te c.rs)) := G3.out.cellAt 5 rfl; have x63 : w3.cell? ⟨g, 10, none⟩ = some (.int .u64 (tw c.ll)) := G3.out.cellAt 10 rfl; have x73 : w3.cell? ⟨g, 11, none⟩ = some (.int .i64 (te c.ll)) := G3.out.cellAt 11 rfl))
        all_goals (go_wp2; go_meet; case rel => exact ⟨by rw [HV.out], G3.out, R3.out, B3.out, O3.out⟩)
  case rest =>
    obtain ⟨hv, G1, R1, B1, O1⟩ := hcut
    obtain ⟨b, hb⟩ : ∃ b, lossB c.ll c.rs = b := ⟨_, rfl⟩
    rw [hb] at hv
    subst hv
    have EB := Lib.hid hb
    have HG := Lib.hid G1
    have HR := Lib.hid R1
    have HB := Lib.hid B1
    have HO := Lib.hid O1
    clear hb G1 R1 B1 O1 G GR
    go_upto_if 31 with (fail)
    go_cut [] (fun W => Blk W g 59 (ccells (c.turn now)) ∧ Blk W r 54 (rcells R0) ∧ w.grownBy W (some g))
    case first =>
      have y1 : wc.cell? ⟨g, 1, none⟩ = some (.int .i64 c.cw) := HG.out.cellAt 1 rfl
      have y3 : wc.cell? ⟨g, 3, none⟩ = some (.int .i64 c.thr) := HG.out.cellAt 3 rfl
      have y4 : wc.cell? ⟨g, 4, none⟩ = some (.int .u64 (tw c.rs)) := HG.out.cellAt 4 rfl
      have y5 : wc.cell? ⟨g, 5, none⟩ = some (.int .i64 (te c.rs)) := HG.out.cellAt 5 rfl
      have y6 : wc.cell? ⟨g, 6, none⟩ = some (.int .i64 c.pend) := HG.out.cellAt 6 rfl
      have y7 : wc.cell? ⟨g, 7, none⟩ = some (.bool c.one) := HG.out.cellAt 7 rfl
      have y8 : wc.cell? ⟨g, 8, none⟩ = some (.bool c.inr) := HG.out.cellAt 8 rfl
      have z0 : wc.cell? ⟨w.heap.size, 0, none⟩ = some (.int .u64 (tw now)) := HB.out.cellAt 0 rfl
      have z1 : wc.cell? ⟨w.heap.size, 1, none⟩ = some (.int .i64 (te now)) := HB.out.cellAt 1 rfl
      have f1 := HG.out.frozen 1
      have f3 := HG.out.frozen 3
      have f4 := HG.out.frozen 4
      have f5 := HG.out.frozen 5
      have f6 := HG.out.frozen 6
      have f7 := HG.out.frozen 7
      have f8 := HG.out.frozen 8
      have ng : g ≠ w.heap.size := fun h => Blk.ne_ HG.out HB.out (by decide) h
      cases b with
      | true =>
        as_aux_lemma =>
        go_wp2
        refine wp_let (fun W => Blk W g 59 (ccells { c with rs := now, thr := c.cw / 2 }) ∧ Blk W r 54 (rcells R0) ∧ w.grownBy W (some g)) ?_ ?_
        · exact ⟨Blk.to (by repeat (with_reducible first | exact HG.out | apply Blk.drew | apply Blk.drewN | apply Blk.alloc | apply Blk.set_)) (by simp [ccells]), by repeat (with_reducible first | exact HR.out | apply Blk.drew | apply Blk.drewN | apply Blk.alloc | refine Blk.far ?_ hne _), by repeat (with_reducible first | exact HO.out | apply only_drew | apply only_drewN | apply only_alloc | refine only_setCell ?_ (.inl rfl) _)⟩
        · clear y1 y3 y4 y5 y6 y7 y8 z0 z1 f1 f3 f4 f5 f6 f7 f8 HG HR HB HO ng
          rintro W ⟨G1, R1, O1⟩
          have HG := Lib.hid G1
          have HR := Lib.hid R1
          have HO := Lib.hid O1
          clear G1 R1 O1
          have y0 : W.cell? ⟨g, 0, none⟩ = some (.int .i64 c.maxd) := HG.out.cellAt 0 rfl
          have y1 : W.cell? ⟨g, 1, none⟩ = some (.int .i64 c.cw) := HG.out.cellAt 1 rfl
          have y3 : W.cell? ⟨g, 3, none⟩ = some (.int .i64 (c.cw / 2)) := HG.out.cellAt 3 rfl
          have y6 : W.cell? ⟨g, 6, none⟩ = some (.int .i64 c.pend) := HG.out.cellAt 6 rfl
          have y7 : W.cell? ⟨g, 7, none⟩ = some (.bool c.one) := HG.out.cellAt 7 rfl
          have y8 : W.cell? ⟨g, 8, none⟩ = some (.bool c.inr) := HG.out.cellAt 8 rfl
          have f1 := HG.out.frozen 1
          have f6 := HG.out.frozen 6
          have f7 := HG.out.frozen 7
          have f8 := HG.out.frozen 8
          have MC := Lib.hid (show ∀ V : World, V.cell? ⟨g, 0, none⟩ = W.cell? ⟨g, 0, none⟩ → Calls Try.prog 26 #[.pointer (some ⟨g, 0, none⟩)] V (fun q w' => q = .returned (.int .i64 (2 * c.maxd)) ∧ V = w') from fun V h => min_cell g c.maxd V (h.trans y0) (by omega) (by omega))
          by_cases hm : c.cw / 2 < 2 * c.maxd
          · have EM := Lib.hid (show max (c.cw / 2) (2 * c.maxd) = 2 * c.maxd by omega)
            go_region_held3 (fun V => V.cell? ⟨g, 0, none⟩ = some (.int .i64 c.maxd) ∧ V.cell? ⟨g, 3, none⟩ = some (.int .i64 (c.cw / 2))) (first | (go_keep; done) | (go_simp; done)) (first | (go_at_call 26; refine (MC.out _ (by rfl)).mono ?_; rintro q w' ⟨rfl, rfl⟩))
            go_wp2
            go_meet
            case rel => (exact ⟨Blk.to (by repeat (with_reducible first | exact HG.out | apply Blk.drew | apply Blk.drewN | apply Blk.alloc | apply Blk.set_)) (by simp [ccells, C.turn, C.halved, EB.out, EM.out]), by repeat (with_reducible first | exact HR.out | apply Blk.drew | apply Blk.drewN | apply Blk.alloc | refine Blk.far ?_ hne _), by repeat (with_reducible first | exact HO.out | apply only_drew | apply only_drewN | apply only_alloc | refine only_setCell ?_ (.inl rfl) _)⟩)
          · have EM := Lib.hid (show max (c.cw / 2) (2 * c.maxd) = c.cw / 2 by omega)
            go_region_held3 (fun V => V.cell? ⟨g, 0, none⟩ = some (.int .i64 c.maxd) ∧ V.cell? ⟨g, 3, none⟩ = some (.int .i64 (c.cw / 2))) (first | (go_keep; done) | (go_simp; done)) (first | (go_at_call 26; refine (MC.out _ (by rfl)).mono ?_; rintro q w' ⟨rfl, rfl⟩))
            go_wp2
            go_meet
            case rel => (exact ⟨Blk.to (by repeat (with_reducible first | exact HG.out | apply Blk.drew | apply Blk.drewN | apply Blk.alloc | apply Blk.set_)) (by simp [ccells, C.turn, C.halved, EB.out, EM.out]), by repeat (with_reducible first | exact HR.out | apply Blk.drew | apply Blk.drewN | apply Blk.alloc | refine Blk.far ?_ hne _), by repeat (with_reducible first | exact HO.out | apply only_drew | apply only_drewN | apply only_alloc | refine only_setCell ?_ (.inl rfl) _)⟩)
      | false =>
        by_cases hp : 0 < c.pend
        · as_aux_lemma =>
          have ET := Lib.hid (show c.turn now = c.grown by simp [C.turn, EB.out, hp])
          have w2 : c.cw < 1000000000000 := by omega
          have w3 : c.pend < 1000000000000 := by omega
          have mm : 0 ≤ c.maxd := by omega
          clear z0 z1 y4 y5 y7 f3 f4 f5 f7 ng
          go_wp2
          go_quiet (fail)
          go_upto_if 79 with (fail)
          go_cut [] (fun W => Blk W g 59 (ccells { c with inr := false, pend := c.pend - slowD c.thr c.cw c.pend, cw := c.cw + slowD c.thr c.cw c.pend }) ∧ Blk W r 54 (rcells R0) ∧ w.grownBy W (some g))
          case first =>
            by_cases hs : c.cw < c.thr
            · by_cases hd : c.thr - c.cw ≤ c.pend
              · have ED := Lib.hid (show slowD c.thr c.cw c.pend = c.thr - c.cw by unfold slowD; rw [if_pos hs]; omega)
                go_wp2
                go_region
                go_wp2
                go_meet
                case rel => exact ⟨Blk.to (by repeat (with_reducible first | exact HG.out | apply Blk.drew | apply Blk.drewN | apply Blk.alloc | apply Blk.set_)) (by rw [ED.out]; simp [ccells]), by repeat (with_reducible first | exact HR.out | apply Blk.drew | apply Blk.drewN | apply Blk.alloc | refine Blk.far ?_ hne _), by repeat (with_reducible first | exact HO.out | apply only_drew | apply only_drewN | apply only_alloc | refine only_setCell ?_ (.inl rfl) _)⟩
              · have ED := Lib.hid (show slowD c.thr c.cw c.pend = c.pend by unfold slowD; rw [if_pos hs]; omega)
                go_wp2
                go_region
                go_wp2
                go_meet
                case rel => exact ⟨Blk.to (by repeat (with_reducible first | exact HG.out | apply Blk.drew | apply Blk.drewN | apply Blk.alloc | apply Blk.set_)) (by rw [ED.out]; simp [ccells]), by repeat (with_reducible first | exact HR.out | apply Blk.drew | apply Blk.drewN | apply Blk.alloc | refine Blk.far ?_ hne _), by repeat (with_reducible first | exact HO.out | apply only_drew | apply only_drewN | apply only_alloc | refine only_setCell ?_ (.inl rfl) _)⟩
            · have ED := Lib.hid (show slowD c.thr c.cw c.pend = 0 by unfold slowD; rw [if_neg hs])
              go_wp2
              go_meet
              case rel => exact ⟨Blk.to (by repeat (with_reducible first | exact HG.out | apply Blk.drew | apply Blk.drewN | apply Blk.alloc | apply Blk.set_)) (by rw [ED.out]; simp [ccells]), by repeat (with_reducible first | exact HR.out | apply Blk.drew | apply Blk.drewN | apply Blk.alloc | refine Blk.far ?_ hne _), by repeat (with_reducible first | exact HO.out | apply only_drew | apply only_drewN | apply only_alloc | refine only_setCell ?_ (.inl rfl) _)⟩
          case rest =>
            obtain ⟨G1, R1, O1⟩ := hcut
            have HD := Lib.hid (slowD_b c.thr c.cw c.pend (by omega))
            obtain ⟨P, hP⟩ : ∃ P, c.pend - slowD c.thr c.cw c.pend = P := ⟨_, rfl⟩
            obtain ⟨Q, hQ⟩ : ∃ Q, c.cw + slowD c.thr c.cw c.pend = Q := ⟨_, rfl⟩
            have EG := Lib.hid (show c.grown = { c with inr := false, pend := (grow c.maxd c.pend.toNat P Q).1, cw := (grow c.maxd c.pend.toNat P Q).2 } by unfold C.grown; rw [hP, hQ])
            rw [hP, hQ] at G1
            have g0 : 0 ≤ P := by have := HD.out; omega
            have g1 : P ≤ c.pend := by have := HD.out; omega
            have g2 : 2 * c.maxd ≤ Q := by have := HD.out; omega
            have g3 : P + Q < 1000000000000 := by have := HD.out; omega
            clear hP hQ HD y1 y3 y6 y8 f1 f6 f8 HG HR HB HO
            go_wp2
            go_loopg [] c.pend.toNat (fun n W => ∃ p q : Int, Blk W g 59 (ccells { c with inr := false, pend := p, cw := q }) ∧ Blk W r 54 (rcells R0) ∧ w.grownBy W (some g) ∧ grow c.maxd n p q = grow c.maxd c.pend.toNat P Q ∧ p.toNat ≤ n ∧ 0 ≤ p ∧ 2 * c.maxd ≤ q ∧ p + q < 1000000000000)
            case atStart => exact ⟨P, Q, G1, R1, O1, rfl, by omega, g0, g2, g3⟩
            case round =>
              obtain ⟨p, q, G2, R2, O2, e1, e2, e3, e4, e5⟩ := hrel
              have HG := Lib.hid G2
              have HR := Lib.hid R2
              have HO := Lib.hid O2
              have E1 := Lib.hid e1
              clear G2 R2 O2 e1 G1 R1 O1
              have y0 : wr.cell? ⟨g, 0, none⟩ = some (.int .i64 c.maxd) := HG.out.cellAt 0 rfl
              have y1 : wr.cell? ⟨g, 1, none⟩ = some (.int .i64 q) := HG.out.cellAt 1 rfl
              have y6 : wr.cell? ⟨g, 6, none⟩ = some (.int .i64 p) := HG.out.cellAt 6 rfl
              have f1 := HG.out.frozen 1
              have f6 := HG.out.frozen 6
              by_cases hq : q < p
              · obtain ⟨n, rfl⟩ : ∃ n, gk = n + 1 := ⟨gk - 1, by omega⟩
                have E2 := Lib.hid (show grow c.maxd n (p - q) (q + c.maxd) = grow c.maxd c.pend.toNat P Q by rw [← E1.out]; simp [grow, hq])
                have hn : (p - q).toNat ≤ n := by omega
                go_wp2
                go_quiet (fail)
                go_wp2
                go_region
                go_wp2
                go_region
                go_wp2
                go_roundg n
                case measure => omega
                case rel => exact ⟨p - q, q + c.maxd, Blk.to (by repeat (with_reducible first | exact HG.out | apply Blk.drew | apply Blk.drewN | apply Blk.alloc | apply Blk.set_)) (by simp [ccells]), by repeat (with_reducible first | exact HR.out | apply Blk.drew | apply Blk.drewN | apply Blk.alloc | refine Blk.far ?_ hne _), by repeat (with_reducible first | exact HO.out | apply only_drew | apply only_drewN | apply only_alloc | refine only_setCell ?_ (.inl rfl) _), E2.out, hn, by omega, by omega, by omega⟩
              · have E2 := Lib.hid (show grow c.maxd c.pend.toNat P Q = (p, q) by rw [← E1.out]; cases gk <;> simp [grow, hq])
                go_wp2
                go_quiet (fail)
                go_wp2
                go_meet
                case rel => exact ⟨Blk.to (by repeat (with_reducible first | exact HG.out | apply Blk.drew | apply Blk.drewN | apply Blk.alloc | apply Blk.set_)) (by rw [ET.out, EG.out, E2.out]), by repeat (with_reducible first | exact HR.out | apply Blk.drew | apply Blk.drewN | apply Blk.alloc | refine Blk.far ?_ hne _), by repeat (with_reducible first | exact HO.out | apply only_drew | apply only_drewN | apply only_alloc | refine only_setCell ?_ (.inl rfl) _)⟩
        · have ET := Lib.hid (show c.turn now = c by simp [C.turn, EB.out, hp])
          go_wp2
          go_meet
          case rel =>
            exact ⟨HG.out.to (by rw [ET.out]), HR.out, HO.out⟩
    case rest =>
      have hsp := SP.out
      clear SP
      rcases hsp with rfl | rfl | rfl
      · as_aux_lemma =>
        obtain ⟨a0, a1, b0, b1, ab⟩ := PI.out 0
        simp only [C.ps, C.pe] at a0 a1 b0 b1 ab
        have AB := Lib.hid ab
        clear ab PI
        obtain ⟨G1, R1, O1⟩ := hcut
        have hll := turn_ll c now
        have hs := turn_ps c now 0
        have he := turn_pe c now 0
        simp only [C.ps, C.pe] at hs he
        have EQ := Lib.hid (show c.batch now = { c.turn now with ll := -1 } from rfl)
        generalize c.turn now = c1 at G1 hll hs he EQ
        rw [← hll] at l0 l1
        have AC := Lib.hid (show c1.e0 < 0 ↔ c1.s0 < 0 by rw [hs, he]; exact AB.out)
        rw [← hs] at a0 a1
        rw [← he] at b0 b1
        clear HG HR HB HO EB AB hll hs he
        have HG := Lib.hid G1
        have HR := Lib.hid R1
        have HO := Lib.hid O1
        clear G1 R1 O1
        have x6 : wc.cell? ⟨g, 10, none⟩ = some (.int .u64 (tw c1.ll)) := HG.out.cellAt 10 rfl
        have x7 : wc.cell? ⟨g, 11, none⟩ = some (.int .i64 (te c1.ll)) := HG.out.cellAt 11 rfl
        have f6 := HG.out.frozen 10
        have f7 := HG.out.frozen 11
        by_cases hz : c1.ll < 0
        · have z1 : decide (c1.ll < 0) = true := by simpa using hz
          clear hz
          go_wp2_with (go_at_call 30; refine (isZero_b _ _ _ z1).mono ?_; rintro q w2 ⟨rfl, hb⟩; have G2 := Lib.hid (Blk.below HG.out hb HG.out.lt); have O2 := Lib.hid (grownBy_trans HO.out (only_of_below hb _)); have y6 : w2.cell? ⟨g, 10, none⟩ = some (.int .u64 (tw c1.ll)) := G2.out.cellAt 10 rfl; have y7 : w2.cell? ⟨g, 11, none⟩ = some (.int .i64 (te c1.ll)) := G2.out.cellAt 11 rfl; have h6 := G2.out.frozen 10; have h7 := G2.out.frozen 11)
          go_end0
          exact ⟨rfl, Blk.to (by repeat (with_reducible first | exact G2.out | apply Blk.drew | apply Blk.alloc | apply Blk.set_)) (by rw [EQ.out]; simp [ccells, tw, te]), by repeat (with_reducible first | exact O2.out | apply only_drew | apply only_alloc | refine only_setCell ?_ (.inl rfl) _)⟩
        · have z1 : decide (c1.ll < 0) = false := by simpa using hz
          clear hz
          go_wp2_with (go_at_call 30; refine (isZero_b _ _ _ z1).mono ?_; rintro q w2 ⟨rfl, hb⟩; have G2 := Lib.hid (Blk.below HG.out hb HG.out.lt); have R2 := Lib.hid (Blk.below HR.out hb HR.out.lt); have O2 := Lib.hid (grownBy_trans HO.out (only_of_below hb _)))
          refine wp_let (fun W => Blk W g 59 (ccells c1) ∧ Blk W r 54 (rcells R0) ∧ w.grownBy W (some g)) ⟨G2.out, R2.out, O2.out⟩ ?_
          rintro W ⟨G3, R3, O3⟩
          clear x6 x7 f6 f7 HG HR HO G2 R2 O2 hb
          have HG := Lib.hid G3
          have HR := Lib.hid R3
          have HO := Lib.hid O3
          clear G3 R3 O3
          have s2 : W.cell? ⟨r, 2, none⟩ = some (.int .i64 R0.sm) := HR.out.cellAt 2 rfl
          have s3 : W.cell? ⟨r, 3, none⟩ = some (.int .i64 R0.var) := HR.out.cellAt 3 rfl
          have q0 : W.cell? ⟨g, 12, none⟩ = some (.int .u64 (tw c1.s0)) := HG.out.cellAt 12 rfl
          have q1 : W.cell? ⟨g, 13, none⟩ = some (.int .i64 (te c1.s0)) := HG.out.cellAt 13 rfl
          have q2 : W.cell? ⟨g, 14, none⟩ = some (.int .u64 (tw c1.e0)) := HG.out.cellAt 14 rfl
          have q3 : W.cell? ⟨g, 15, none⟩ = some (.int .i64 (te c1.e0)) := HG.out.cellAt 15 rfl
          have lg := HG.out.lt
          have lr := HR.out.lt
          go_cut [11] (fun v V => (∃ d : Int, v = .int .i64 d ∧ 3000000 ≤ d) ∧ Blk V g 59 (ccells c1) ∧ w.grownBy V (some g))
          case first =>
            by_cases hv : 4 * R0.var < 1000000
            · go_region
              go_wp2
              go_meet
              case rel => exact ⟨⟨_, rfl, by omega⟩, by repeat (with_reducible first | exact HG.out | apply Blk.drew | apply Blk.drewN | apply Blk.alloc | apply Blk.set_), by repeat (with_reducible first | exact HO.out | apply only_drew | apply only_drewN | apply only_alloc | refine only_setCell ?_ (.inl rfl) _)⟩
            · go_region
              go_wp2
              go_meet
              case rel => exact ⟨⟨_, rfl, by omega⟩, by repeat (with_reducible first | exact HG.out | apply Blk.drew | apply Blk.drewN | apply Blk.alloc | apply Blk.set_), by repeat (with_reducible first | exact HO.out | apply only_drew | apply only_drewN | apply only_alloc | refine only_setCell ?_ (.inl rfl) _)⟩
          case rest =>
            obtain ⟨⟨d, rfl, hd⟩, G4, O4⟩ := hcut
            clear q0 q1 q2 q3 lg lr s2 s3 HG HR HO
            have HG := Lib.hid G4
            have HO := Lib.hid O4
            clear G4 O4
            have q0 : wc.cell? ⟨g, 12, none⟩ = some (.int .u64 (tw c1.s0)) := HG.out.cellAt 12 rfl
            have q1 : wc.cell? ⟨g, 13, none⟩ = some (.int .i64 (te c1.s0)) := HG.out.cellAt 13 rfl
            have q2 : wc.cell? ⟨g, 14, none⟩ = some (.int .u64 (tw c1.e0)) := HG.out.cellAt 14 rfl
            have q3 : wc.cell? ⟨g, 15, none⟩ = some (.int .i64 (te c1.e0)) := HG.out.cellAt 15 rfl
            have lg := HG.out.lt
            have hx : c1.e0 - c1.s0 < d := by have hAC := AC.out; omega
            go_wp2_with (go_at_call 32; refine (sub_at _ _ _ b0 b1 a0 a1 AC.out).mono ?_; rintro q w4 ⟨rfl, hb4⟩; have HG4 := Lib.hid (Blk.below ((HG.out.alloc _).alloc _) hb4 ((HG.out.alloc _).alloc _).lt); have HO4 := Lib.hid (grownBy_trans (only_alloc (only_alloc HO.out _) _) (only_of_below hb4 _)); have x6 : w4.cell? ⟨g, 10, none⟩ = some (.int .u64 (tw c1.ll)) := HG4.out.cellAt 10 rfl; have x7 : w4.cell? ⟨g, 11, none⟩ = some (.int .i64 (te c1.ll)) := HG4.out.cellAt 11 rfl; have f6 := HG4.out.frozen 10; have f7 := HG4.out.frozen 11)
            go_end0
            exact ⟨rfl, Blk.to (by repeat (with_reducible first | exact HG4.out | apply Blk.drew | apply Blk.alloc | apply Blk.set_)) (by rw [EQ.out]; simp [ccells, tw, te]), by repeat (with_reducible first | exact HO4.out | apply only_drew | apply only_alloc | refine only_setCell ?_ (.inl rfl) _)⟩
      · as_aux_lemma =>
        obtain ⟨a0, a1, b0, b1, ab⟩ := PI.out 1
        simp only [C.ps, C.pe] at a0 a1 b0 b1 ab
        have AB := Lib.hid ab
        clear ab PI
        obtain ⟨G1, R1, O1⟩ := hcut
        have hll := turn_ll c now
        have hs := turn_ps c now 1
        have he := turn_pe c now 1
        simp only [C.ps, C.pe] at hs he
        have EQ := Lib.hid (show c.batch now = { c.turn now with ll := -1 } from rfl)
        generalize c.turn now = c1 at G1 hll hs he EQ
        rw [← hll] at l0 l1
        have AC := Lib.hid (show c1.e1 < 0 ↔ c1.s1 < 0 by rw [hs, he]; exact AB.out)
        rw [← hs] at a0 a1
        rw [← he] at b0 b1
        clear HG HR HB HO EB AB hll hs he
        have HG := Lib.hid G1
        have HR := Lib.hid R1
        have HO := Lib.hid O1
        clear G1 R1 O1
        have x6 : wc.cell? ⟨g, 10, none⟩ = some (.int .u64 (tw c1.ll)) := HG.out.cellAt 10 rfl
        have x7 : wc.cell? ⟨g, 11, none⟩ = some (.int .i64 (te c1.ll)) := HG.out.cellAt 11 rfl
        have f6 := HG.out.frozen 10
        have f7 := HG.out.frozen 11
        by_cases hz : c1.ll < 0
        · have z1 : decide (c1.ll < 0) = true := by simpa using hz
          clear hz
          go_wp2_with (go_at_call 30; refine (isZero_b _ _ _ z1).mono ?_; rintro q w2 ⟨rfl, hb⟩; have G2 := Lib.hid (Blk.below HG.out hb HG.out.lt); have O2 := Lib.hid (grownBy_trans HO.out (only_of_below hb _)); have y6 : w2.cell? ⟨g, 10, none⟩ = some (.int .u64 (tw c1.ll)) := G2.out.cellAt 10 rfl; have y7 : w2.cell? ⟨g, 11, none⟩ = some (.int .i64 (te c1.ll)) := G2.out.cellAt 11 rfl; have h6 := G2.out.frozen 10; have h7 := G2.out.frozen 11)
          go_end0
          exact ⟨rfl, Blk.to (by repeat (with_reducible first | exact G2.out | apply Blk.drew | apply Blk.alloc | apply Blk.set_)) (by rw [EQ.out]; simp [ccells, tw, te]), by repeat (with_reducible first | exact O2.out | apply only_drew | apply only_alloc | refine only_setCell ?_ (.inl rfl) _)⟩
        · have z1 : decide (c1.ll < 0) = false := by simpa using hz
          clear hz
          go_wp2_with (go_at_call 30; refine (isZero_b _ _ _ z1).mono ?_; rintro q w2 ⟨rfl, hb⟩; have G2 := Lib.hid (Blk.below HG.out hb HG.out.lt); have R2 := Lib.hid (Blk.below HR.out hb HR.out.lt); have O2 := Lib.hid (grownBy_trans HO.out (only_of_below hb _)))
          refine wp_let (fun W => Blk W g 59 (ccells c1) ∧ Blk W r 54 (rcells R0) ∧ w.grownBy W (some g)) ⟨G2.out, R2.out, O2.out⟩ ?_
          rintro W ⟨G3, R3, O3⟩
          clear x6 x7 f6 f7 HG HR HO G2 R2 O2 hb
          have HG := Lib.hid G3
          have HR := Lib.hid R3
          have HO := Lib.hid O3
          clear G3 R3 O3
          have s2 : W.cell? ⟨r, 2, none⟩ = some (.int .i64 R0.sm) := HR.out.cellAt 2 rfl
          have s3 : W.cell? ⟨r, 3, none⟩ = some (.int .i64 R0.var) := HR.out.cellAt 3 rfl
          have q0 : W.cell? ⟨g, 17, none⟩ = some (.int .u64 (tw c1.s1)) := HG.out.cellAt 17 rfl
          have q1 : W.cell? ⟨g, 18, none⟩ = some (.int .i64 (te c1.s1)) := HG.out.cellAt 18 rfl
          have q2 : W.cell? ⟨g, 19, none⟩ = some (.int .u64 (tw c1.e1)) := HG.out.cellAt 19 rfl
          have q3 : W.cell? ⟨g, 20, none⟩ = some (.int .i64 (te c1.e1)) := HG.out.cellAt 20 rfl
          have lg := HG.out.lt
          have lr := HR.out.lt
          go_cut [11] (fun v V => (∃ d : Int, v = .int .i64 d ∧ 3000000 ≤ d) ∧ Blk V g 59 (ccells c1) ∧ w.grownBy V (some g))
          case first =>
            by_cases hv : 4 * R0.var < 1000000
            · go_region
              go_wp2
              go_meet
              case rel => exact ⟨⟨_, rfl, by omega⟩, by repeat (with_reducible first | exact HG.out | apply Blk.drew | apply Blk.drewN | apply Blk.alloc | apply Blk.set_), by repeat (with_reducible first | exact HO.out | apply only_drew | apply only_drewN | apply only_alloc | refine only_setCell ?_ (.inl rfl) _)⟩
            · go_region
              go_wp2
              go_meet
              case rel => exact ⟨⟨_, rfl, by omega⟩, by repeat (with_reducible first | exact HG.out | apply Blk.drew | apply Blk.drewN | apply Blk.alloc | apply Blk.set_), by repeat (with_reducible first | exact HO.out | apply only_drew | apply only_drewN | apply only_alloc | refine only_setCell ?_ (.inl rfl) _)⟩
          case rest =>
            obtain ⟨⟨d, rfl, hd⟩, G4, O4⟩ := hcut
            clear q0 q1 q2 q3 lg lr s2 s3 HG HR HO
            have HG := Lib.hid G4
            have HO := Lib.hid O4
            clear G4 O4
            have q0 : wc.cell? ⟨g, 17, none⟩ = some (.int .u64 (tw c1.s1)) := HG.out.cellAt 17 rfl
            have q1 : wc.cell? ⟨g, 18, none⟩ = some (.int .i64 (te c1.s1)) := HG.out.cellAt 18 rfl
            have q2 : wc.cell? ⟨g, 19, none⟩ = some (.int .u64 (tw c1.e1)) := HG.out.cellAt 19 rfl
            have q3 : wc.cell? ⟨g, 20, none⟩ = some (.int .i64 (te c1.e1)) := HG.out.cellAt 20 rfl
            have lg := HG.out.lt
            have hx : c1.e1 - c1.s1 < d := by have hAC := AC.out; omega
            go_wp2_with (go_at_call 32; refine (sub_at _ _ _ b0 b1 a0 a1 AC.out).mono ?_; rintro q w4 ⟨rfl, hb4⟩; have HG4 := Lib.hid (Blk.below ((HG.out.alloc _).alloc _) hb4 ((HG.out.alloc _).alloc _).lt); have HO4 := Lib.hid (grownBy_trans (only_alloc (only_alloc HO.out _) _) (only_of_below hb4 _)); have x6 : w4.cell? ⟨g, 10, none⟩ = some (.int .u64 (tw c1.ll)) := HG4.out.cellAt 10 rfl; have x7 : w4.cell? ⟨g, 11, none⟩ = some (.int .i64 (te c1.ll)) := HG4.out.cellAt 11 rfl; have f6 := HG4.out.frozen 10; have f7 := HG4.out.frozen 11)
            go_end0
            exact ⟨rfl, Blk.to (by repeat (with_reducible first | exact HG4.out | apply Blk.drew | apply Blk.alloc | apply Blk.set_)) (by rw [EQ.out]; simp [ccells, tw, te]), by repeat (with_reducible first | exact HO4.out | apply only_drew | apply only_alloc | refine only_setCell ?_ (.inl rfl) _)⟩
      · as_aux_lemma =>
        obtain ⟨a0, a1, b0, b1, ab⟩ := PI.out 2
        simp only [C.ps, C.pe] at a0 a1 b0 b1 ab
        have AB := Lib.hid ab
        clear ab PI
        obtain ⟨G1, R1, O1⟩ := hcut
        have hll := turn_ll c now
        have hs := turn_ps c now 2
        have he := turn_pe c now 2
        simp only [C.ps, C.pe] at hs he
        have EQ := Lib.hid (show c.batch now = { c.turn now with ll := -1 } from rfl)
        generalize c.turn now = c1 at G1 hll hs he EQ
        rw [← hll] at l0 l1
        have AC := Lib.hid (show c1.e2 < 0 ↔ c1.s2 < 0 by rw [hs, he]; exact AB.out)
        rw [← hs] at a0 a1
        rw [← he] at b0 b1
        clear HG HR HB HO EB AB hll hs he
        have HG := Lib.hid G1
        have HR := Lib.hid R1
        have HO := Lib.hid O1
        clear G1 R1 O1
        have x6 : wc.cell? ⟨g, 10, none⟩ = some (.int .u64 (tw c1.ll)) := HG.out.cellAt 10 rfl
        have x7 : wc.cell? ⟨g, 11, none⟩ = some (.int .i64 (te c1.ll)) := HG.out.cellAt 11 rfl
        have f6 := HG.out.frozen 10
        have f7 := HG.out.frozen 11
        by_cases hz : c1.ll < 0
        · have z1 : decide (c1.ll < 0) = true := by simpa using hz
          clear hz
          go_wp2_with (go_at_call 30; refine (isZero_b _ _ _ z1).mono ?_; rintro q w2 ⟨rfl, hb⟩; have G2 := Lib.hid (Blk.below HG.out hb HG.out.lt); have O2 := Lib.hid (grownBy_trans HO.out (only_of_below hb _)); have y6 : w2.cell? ⟨g, 10, none⟩ = some (.int .u64 (tw c1.ll)) := G2.out.cellAt 10 rfl; have y7 : w2.cell? ⟨g, 11, none⟩ = some (.int .i64 (te c1.ll)) := G2.out.cellAt 11 rfl; have h6 := G2.out.frozen 10; have h7 := G2.out.frozen 11)
          go_end0
          exact ⟨rfl, Blk.to (by repeat (with_reducible first | exact G2.out | apply Blk.drew | apply Blk.alloc | apply Blk.set_)) (by rw [EQ.out]; simp [ccells, tw, te]), by repeat (with_reducible first | exact O2.out | apply only_drew | apply only_alloc | refine only_setCell ?_ (.inl rfl) _)⟩
        · have z1 : decide (c1.ll < 0) = false := by simpa using hz
          clear hz
          go_wp2_with (go_at_call 30; refine (isZero_b _ _ _ z1).mono ?_; rintro q w2 ⟨rfl, hb⟩; have G2 := Lib.hid (Blk.below HG.out hb HG.out.lt); have R2 := Lib.hid (Blk.below HR.out hb HR.out.lt); have O2 := Lib.hid (grownBy_trans HO.out (only_of_below hb _)))
          refine wp_let (fun W => Blk W g 59 (ccells c1) ∧ Blk W r 54 (rcells R0) ∧ w.grownBy W (some g)) ⟨G2.out, R2.out, O2.out⟩ ?_
          rintro W ⟨G3, R3, O3⟩
          clear x6 x7 f6 f7 HG HR HO G2 R2 O2 hb
          have HG := Lib.hid G3
          have HR := Lib.hid R3
          have HO := Lib.hid O3
          clear G3 R3 O3
          have s2 : W.cell? ⟨r, 2, none⟩ = some (.int .i64 R0.sm) := HR.out.cellAt 2 rfl
          have s3 : W.cell? ⟨r, 3, none⟩ = some (.int .i64 R0.var) := HR.out.cellAt 3 rfl
          have q0 : W.cell? ⟨g, 22, none⟩ = some (.int .u64 (tw c1.s2)) := HG.out.cellAt 22 rfl
          have q1 : W.cell? ⟨g, 23, none⟩ = some (.int .i64 (te c1.s2)) := HG.out.cellAt 23 rfl
          have q2 : W.cell? ⟨g, 24, none⟩ = some (.int .u64 (tw c1.e2)) := HG.out.cellAt 24 rfl
          have q3 : W.cell? ⟨g, 25, none⟩ = some (.int .i64 (te c1.e2)) := HG.out.cellAt 25 rfl
          have lg := HG.out.lt
          have lr := HR.out.lt
          go_cut [11] (fun v V => (∃ d : Int, v = .int .i64 d ∧ 3000000 ≤ d) ∧ Blk V g 59 (ccells c1) ∧ w.grownBy V (some g))
          case first =>
            by_cases hv : 4 * R0.var < 1000000
            · go_region
              go_wp2
              go_meet
              case rel => exact ⟨⟨_, rfl, by omega⟩, by repeat (with_reducible first | exact HG.out | apply Blk.drew | apply Blk.drewN | apply Blk.alloc | apply Blk.set_), by repeat (with_reducible first | exact HO.out | apply only_drew | apply only_drewN | apply only_alloc | refine only_setCell ?_ (.inl rfl) _)⟩
            · go_region
              go_wp2
              go_meet
              case rel => exact ⟨⟨_, rfl, by omega⟩, by repeat (with_reducible first | exact HG.out | apply Blk.drew | apply Blk.drewN | apply Blk.alloc | apply Blk.set_), by repeat (with_reducible first | exact HO.out | apply only_drew | apply only_drewN | apply only_alloc | refine only_setCell ?_ (.inl rfl) _)⟩
          case rest =>
            obtain ⟨⟨d, rfl, hd⟩, G4, O4⟩ := hcut
            clear q0 q1 q2 q3 lg lr s2 s3 HG HR HO
            have HG := Lib.hid G4
            have HO := Lib.hid O4
            clear G4 O4
            have q0 : wc.cell? ⟨g, 22, none⟩ = some (.int .u64 (tw c1.s2)) := HG.out.cellAt 22 rfl
            have q1 : wc.cell? ⟨g, 23, none⟩ = some (.int .i64 (te c1.s2)) := HG.out.cellAt 23 rfl
            have q2 : wc.cell? ⟨g, 24, none⟩ = some (.int .u64 (tw c1.e2)) := HG.out.cellAt 24 rfl
            have q3 : wc.cell? ⟨g, 25, none⟩ = some (.int .i64 (te c1.e2)) := HG.out.cellAt 25 rfl
            have lg := HG.out.lt
            have hx : c1.e2 - c1.s2 < d := by have hAC := AC.out; omega
            go_wp2_with (go_at_call 32; refine (sub_at _ _ _ b0 b1 a0 a1 AC.out).mono ?_; rintro q w4 ⟨rfl, hb4⟩; have HG4 := Lib.hid (Blk.below ((HG.out.alloc _).alloc _) hb4 ((HG.out.alloc _).alloc _).lt); have HO4 := Lib.hid (grownBy_trans (only_alloc (only_alloc HO.out _) _) (only_of_below hb4 _)); have x6 : w4.cell? ⟨g, 10, none⟩ = some (.int .u64 (tw c1.ll)) := HG4.out.cellAt 10 rfl; have x7 : w4.cell? ⟨g, 11, none⟩ = some (.int .i64 (te c1.ll)) := HG4.out.cellAt 11 rfl; have f6 := HG4.out.frozen 10; have f7 := HG4.out.frozen 11)
            go_end0
            exact ⟨rfl, Blk.to (by repeat (with_reducible first | exact HG4.out | apply Blk.drew | apply Blk.alloc | apply Blk.set_)) (by rw [EQ.out]; simp [ccells, tw, te]), by repeat (with_reducible first | exact HO4.out | apply only_drew | apply only_alloc | refine only_setCell ?_ (.inl rfl) _)⟩

end Go.Proofs.Ytehplpakbfnhbaa
