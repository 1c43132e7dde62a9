/-
  What packetLost does to the controller's block.
-/
import Derived.Test.YtehplpakbfnhbaaC2
import Derived.Test.YtehplpakbfnhbaaC3
import Derived.Deep.DeepCutAuto
import Derived.Deep.QuietTactic
import Derived.BigQuiet
namespace Go.Proofs.Ytehplpakbfnhbaa
open Go.RowKit
set_option linter.unusedVariables false
set_option linter.unusedSimpArgs false

def C.ps (c : C) : Nat → Int | 0 => c.s0 | 1 => c.s1 | _ => c.s2
def C.pe (c : C) : Nat → Int | 0 => c.e0 | 1 => c.e1 | _ => c.e2
def C.pn (c : C) : Nat → Int | 0 => c.n0 | 1 => c.n1 | _ => c.n2
def C.setP (c : C) (k : Nat) (s e n : Int) : C := match k with
  | 0 => { c with s0 := s, e0 := e, n0 := n }
  | 1 => { c with s1 := s, e1 := e, n1 := n }
  | _ => { c with s2 := s, e2 := e, n2 := n }
def validB (el : Bool) (first time : Int) : Bool := el && !decide (first < 0) && !decide (time < first)
def C.lostP (c : C) (k : Nat) (num time : Int) (v : Bool) : C :=
  if v = true then c.setP k (if num = c.pn k then c.ps k else time) time (num + 1)
  else if num = c.pn k then c.setP k (c.ps k) (c.pe k) (num + 1) else c
def C.lostF (c : C) (size time : Int) (infl : Bool) : C := if infl = true then { c with fl := c.fl - size, ll := if c.ll < time then time else c.ll } else c
theorem isZero_b (a : Int) (b : Bool) (w : World) (h : decide (a < 0) = b) :
    Calls Try.prog 30 #[.agg #[.int .u64 (tw a), .int .i64 (te a)]] w fun r w' => r = .returned (.bool b) ∧ Below w.heap.size w w' := h ▸ isZero_at a w
theorem before_b (x y : Int) (b : Bool) (w : World) (h : decide (x < y) = b) (a0 : -1 ≤ x) (a1 : x < 3000000) (b0 : -1 ≤ y) (b1 : y < 3000000) :
    Calls Try.prog 29 #[.agg #[.int .u64 (tw x), .int .i64 (te x)], .agg #[.int .u64 (tw y), .int .i64 (te y)]] w fun r w' => r = .returned (.bool b) ∧ Below w.heap.size w w' := h ▸ before_at x y w a0 a1 b0 b1
theorem after_b (x y : Int) (b : Bool) (w : World) (h : decide (y < x) = b) (a0 : -1 ≤ x) (a1 : x < 3000000) (b0 : -1 ≤ y) (b1 : y < 3000000) :
    Calls Try.prog 31 #[.agg #[.int .u64 (tw x), .int .i64 (te x)], .agg #[.int .u64 (tw y), .int .i64 (te y)]] w fun r w' => r = .returned (.bool b) ∧ Below w.heap.size w w' := h ▸ after_at x y w a0 a1 b0 b1

theorem lostP_fl (c : C) (k : Nat) (num time : Int) (v : Bool) : (c.lostP k num time v).fl = c.fl := by
  unfold C.lostP C.setP
  (repeat' split) <;> rfl
theorem lostP_ll (c : C) (k : Nat) (num time : Int) (v : Bool) : (c.lostP k num time v).ll = c.ll := by
  unfold C.lostP C.setP
  (repeat' split) <;> rfl
def C.lost (c : C) (k : Nat) (num size time : Int) (el infl : Bool) (first : Int) : C := (c.lostP k num time (validB el first time)).lostF size time infl

set_option maxRecDepth 100000 in
set_option maxHeartbeats 4000000 in
theorem lost_0 (g p r : Nat) (c : C) (R0 : R) (num size time x e : Int) (el infl : Bool) (w : World) (hg : Blk w g 59 (ccells c)) (hp : Blk w p 69 (pcells num size time el infl)) (hr : Blk w r 54 (rcells R0)) (b0 : -1000000000000 < c.fl) (b1 : c.fl < 1000000000000) (s0 : 0 ≤ size) (s1 : size ≤ 65535)
    (n0 : 0 ≤ num) (n1 : num < 4611686018427387904) (t0 : -1 ≤ time) (t1 : time < 3000000) (r0 : -1 ≤ R0.first) (r1 : R0.first < 3000000) (l0 : -1 ≤ c.ll) (l1 : c.ll < 3000000) :
    Calls Try.prog 21 #[.pointer (some ⟨g, 0, none⟩), .agg #[.int .u64 x, .int .i64 e], .int .u8 0, .pointer (some ⟨p, 0, none⟩), .pointer (some ⟨r, 0, none⟩)] w fun q w' => q = .returned (.tuple #[]) ∧ Blk w' g 59 (ccells (c.lost 0 num size time el infl R0.first)) ∧ w.grownBy w' (some g) := by
  have G := Lib.hid hg
  have GP := Lib.hid hp
  have GR := Lib.hid hr
  have HN := Lib.hid (show p ≠ g from fun h => Blk.ne_ hg hp (by decide) h.symm)
  clear hg hp hr
  go_enter Try.func21, Try.ntmps21
  go_wp2
  go_cut [10] (fun v W => v = .bool (validB el R0.first time) ∧ Blk W g 59 (ccells c) ∧ Blk W p 69 (pcells num size time el infl) ∧ Blk W r 54 (rcells R0) ∧ w.grownBy W (some g))
  case first =>
    refine wp_let (fun W => Blk W g 59 (ccells c) ∧ Blk W p 69 (pcells num size time el infl) ∧ Blk W r 54 (rcells R0) ∧ w.grownBy W (some g)) ⟨G.out.alloc _, GP.out.alloc _, GR.out.alloc _, only_alloc (World.grownBy.refl w _) _⟩ ?_
    rintro W ⟨G1, P1, R1, O1⟩
    have HG := Lib.hid G1
    have HP := Lib.hid P1
    have HR := Lib.hid R1
    have HO := Lib.hid O1
    clear G1 P1 R1 O1
    have a2 : W.cell? ⟨p, 2, none⟩ = some (.int .u64 (tw time)) := HP.out.cellAt 2 rfl
    have a3 : W.cell? ⟨p, 3, none⟩ = some (.int .i64 (te time)) := HP.out.cellAt 3 rfl
    have a4 : W.cell? ⟨p, 4, none⟩ = some (.bool el) := HP.out.cellAt 4 rfl
    have b4 : W.cell? ⟨r, 4, none⟩ = some (.int .u64 (tw R0.first)) := HR.out.cellAt 4 rfl
    have b5 : W.cell? ⟨r, 5, none⟩ = some (.int .i64 (te R0.first)) := HR.out.cellAt 5 rfl
    cases el with
    | false =>
      go_quiet (fail)
      go_wp2
      go_meet
      case rel =>
        exact ⟨rfl, HG.out.drewN _, HP.out.drewN _, HR.out.drewN _, only_drewN HO.out _⟩
    | true =>
      by_cases hz : R0.first < 0
      · have z1 : decide (R0.first < 0) = true := by simpa using hz
        have HV := Lib.hid (show validB true R0.first time = false by simp [validB, hz])
        clear hz
        refine wp_region_held_drew (S := (fun V => V.cell? ⟨p, 4, none⟩ = some (.bool true) ∧ V.cell? ⟨r, 4, none⟩ = some (.int .u64 (tw R0.first)) ∧ V.cell? ⟨r, 5, none⟩ = some (.int .i64 (te R0.first)))) (by kernel_rfl) (by go_keep) (fun hHeld => ?_)
        refine wpAnyH_take (i := 0) (oi := { dst := some 11, op := Op.move (Operand.tmp 3), type := 66, pos := "congestion_reno.go:163", after := #[], guard := none }) (v := _) rfl (by kernel_rfl) (by kernel_rfl) (by kernel_rfl) (fun _ _ _ h => h) (Or.inl ⟨by rfl, by intro w hSw; (try dsimp only at hSw); go_simp; try with_reducible rfl⟩) (by assumption) ?_
        try simp only [Act.put, List.setIfInBounds_toArray, List.set_cons_zero, List.set_cons_succ]
        refine wpAnyH_take (i := 1) (oi := { dst := some 12, op := Op.nilCheck (Operand.tmp 11), type := 0, pos := "congestion_reno.go:163", after := #[{ on := 0, ground := Ground.data }], guard := none }) (v := _) rfl (by kernel_rfl) (by kernel_rfl) (by kernel_rfl) (fun _ _ _ h => h) (Or.inl ⟨by rfl, by intro w hSw; (try dsimp only at hSw); go_simp; try with_reducible rfl⟩) (by assumption) ?_
        try simp only [Act.put, List.setIfInBounds_toArray, List.set_cons_zero, List.set_cons_succ]
        refine wpAnyH_take (i := 2) (oi := { dst := some 13, op := Op.fieldAddr 69 (Operand.tmp 12) 3, type := 0, pos := "congestion_reno.go:163", after := #[{ on := 1, ground := Ground.data }], guard := none }) (v := _) rfl (by kernel_rfl) (by kernel_rfl) (by kernel_rfl) (fun _ _ _ h => h) (Or.inl ⟨by rfl, by intro w hSw; (try dsimp only at hSw); go_simp; try with_reducible rfl⟩) (by assumption) ?_
        try simp only [Act.put, List.setIfInBounds_toArray, List.set_cons_zero, List.set_cons_succ]
        refine wpAnyH_take (i := 3) (oi := { dst := some 14, op := Op.load 4 (Operand.tmp 13), type := 4, pos := "congestion_reno.go:163", after := #[{ on := 2, ground := Ground.data }], guard := none }) (v := _) rfl (by kernel_rfl) (by kernel_rfl) (by kernel_rfl) (fun _ _ _ h => h) (Or.inl ⟨by rfl, by intro w hSw; (try dsimp only at hSw); go_simp; try with_reducible rfl⟩) (by assumption) ?_
        try simp only [Act.put, List.setIfInBounds_toArray, List.set_cons_zero, List.set_cons_succ]
        refine wpAnyH_take (i := 4) (oi := { dst := some 15, op := Op.move (Operand.tmp 14), type := 4, pos := "congestion_reno.go:163", after := #[{ on := 3, ground := Ground.data }], guard := none }) (v := _) rfl (by kernel_rfl) (by kernel_rfl) (by kernel_rfl) (fun _ _ _ h => h) (Or.inl ⟨by rfl, by intro w hSw; (try dsimp only at hSw); go_simp; try with_reducible rfl⟩) (by assumption) ?_
        try simp only [Act.put, List.setIfInBounds_toArray, List.set_cons_zero, List.set_cons_succ]
        refine wpAnyH_take (i := 5) (oi := { dst := some 16, op := Op.move (Operand.tmp 4), type := 48, pos := "congestion_reno.go:163", after := #[{ on := 4, ground := Ground.guard }], guard := some (4, true) }) (v := _) rfl (by kernel_rfl) (by kernel_rfl) (by kernel_rfl) (fun _ _ _ h => h) (Or.inl ⟨by rfl, by intro w hSw; (try dsimp only at hSw); go_simp; try with_reducible rfl⟩) (by assumption) ?_
        try simp only [Act.put, List.setIfInBounds_toArray, List.set_cons_zero, List.set_cons_succ]
        refine wpAnyH_take (i := 6) (oi := { dst := some 17, op := Op.nilCheck (Operand.tmp 16), type := 0, pos := "congestion_reno.go:163", after := #[{ on := 5, ground := Ground.data }, { on := 4, ground := Ground.guard }], guard := some (4, true) }) (v := _) rfl (by kernel_rfl) (by kernel_rfl) (by kernel_rfl) (fun _ _ _ h => h) (Or.inl ⟨by rfl, by intro w hSw; (try dsimp only at hSw); go_simp; try with_reducible rfl⟩) (by assumption) ?_
        try simp only [Act.put, List.setIfInBounds_toArray, List.set_cons_zero, List.set_cons_succ]
        refine wpAnyH_take (i := 7) (oi := { dst := some 18, op := Op.fieldAddr 54 (Operand.tmp 17) 4, type := 0, pos := "congestion_reno.go:163", after := #[{ on := 6, ground := Ground.data }, { on := 4, ground := Ground.guard }], guard := some (4, true) }) (v := _) rfl (by kernel_rfl) (by kernel_rfl) (by kernel_rfl) (fun _ _ _ h => h) (Or.inl ⟨by rfl, by intro w hSw; (try dsimp only at hSw); go_simp; try with_reducible rfl⟩) (by assumption) ?_
        try simp only [Act.put, List.setIfInBounds_toArray, List.set_cons_zero, List.set_cons_succ]
        refine wpAnyH_take (i := 8) (oi := { dst := some 19, op := Op.load 52 (Operand.tmp 18), type := 52, pos := "congestion_reno.go:163", after := #[{ on := 7, ground := Ground.data }, { on := 4, ground := Ground.guard }], guard := some (4, true) }) (v := _) rfl (by kernel_rfl) (by kernel_rfl) (by kernel_rfl) (fun _ _ _ h => h) (Or.inl ⟨by rfl, by intro w hSw; (try dsimp only at hSw); go_simp; try with_reducible rfl⟩) (by assumption) ?_
        try simp only [Act.put, List.setIfInBounds_toArray, List.set_cons_zero, List.set_cons_succ]
        refine wpAnyH_ready (rs := [9]) (by kernel_rfl) (by simp) ?_
        refine AllReadyH.cons (o := { dst := some 20, op := Op.call { callee := Callee.value (Operand.func 30), args := #[Operand.tmp 19], argTypes := #[52] }, type := 4, pos := "congestion_reno.go:164", after := #[{ on := 8, ground := Ground.data }, { on := 4, ground := Ground.chain }, { on := 4, ground := Ground.guard }], guard := some (4, true) }) rfl (fun K hK => ?_) AllReadyH.nil
        go_simp
        (go_at_call 30; refine (isZero_b _ _ _ z1).mono ?_; rintro q w2 ⟨rfl, hb⟩; have G2 := Lib.hid (Blk.below HG.out.drew hb HG.out.lt); have P2 := Lib.hid (Blk.below HP.out.drew hb HP.out.lt); have R2 := Lib.hid (Blk.below HR.out.drew hb HR.out.lt); have O2 := Lib.hid (grownBy_trans (only_drew HO.out) (only_of_below hb _)); have x22 : w2.cell? ⟨p, 2, none⟩ = some (.int .u64 (tw time)) := P2.out.cellAt 2 rfl; have x32 : w2.cell? ⟨p, 3, none⟩ = some (.int .i64 (te time)) := P2.out.cellAt 3 rfl; have x42 : w2.cell? ⟨p, 4, none⟩ = some (.bool true) := P2.out.cellAt 4 rfl; have y42 : w2.cell? ⟨r, 4, none⟩ = some (.int .u64 (tw R0.first)) := R2.out.cellAt 4 rfl; have y52 : w2.cell? ⟨r, 5, none⟩ = some (.int .i64 (te R0.first)) := R2.out.cellAt 5 rfl)
        refine hK.out _ _ (by go_keep) (fun hHeld2 => ?_)
        clear hK K
        try simp only [Act.put, List.setIfInBounds_toArray, List.set_cons_zero, List.set_cons_succ]
        refine wpAnyH_take (i := 10) (oi := { dst := some 21, op := Op.unOp UnOp.not 4 (Operand.tmp 20), type := 4, pos := "congestion_reno.go:163", after := #[{ on := 9, ground := Ground.data }, { on := 4, ground := Ground.guard }], guard := some (4, true) }) (v := _) rfl (by kernel_rfl) (by kernel_rfl) (by kernel_rfl) (fun _ _ _ h => h) (Or.inl ⟨by rfl, by intro w hSw; (try dsimp only at hSw); go_simp; try with_reducible rfl⟩) (by assumption) ?_
        try simp only [Act.put, List.setIfInBounds_toArray, List.set_cons_zero, List.set_cons_succ]
        refine wpAnyH_take (i := 11) (oi := { dst := some 22, op := Op.pick (Operand.tmp 15) (Operand.tmp 21) (Operand.const (Value.bool false)), type := 4, pos := "congestion_reno.go:163", after := #[{ on := 4, ground := Ground.data }, { on := 10, ground := Ground.data }], guard := none }) (v := _) rfl (by kernel_rfl) (by kernel_rfl) (by kernel_rfl) (fun _ _ _ h => h) (Or.inl ⟨by rfl, by intro w hSw; (try dsimp only at hSw); go_simp; try with_reducible rfl⟩) (by assumption) ?_
        try simp only [Act.put, List.setIfInBounds_toArray, List.set_cons_zero, List.set_cons_succ]
        refine wpAnyH_take (i := 12) (oi := { dst := some 23, op := Op.move (Operand.tmp 22), type := 4, pos := "congestion_reno.go:163", after := #[{ on := 11, ground := Ground.data }, { on := 9, ground := Ground.chain }], guard := none }) (v := _) rfl (by kernel_rfl) (by kernel_rfl) (by kernel_rfl) (fun _ _ _ h => h) (Or.inl ⟨by rfl, by intro w hSw; (try dsimp only at hSw); go_simp; try with_reducible rfl⟩) (by assumption) ?_
        try simp only [Act.put, List.setIfInBounds_toArray, List.set_cons_zero, List.set_cons_succ]
        refine wpAnyH_take (i := 13) (oi := { dst := some 24, op := Op.move (Operand.tmp 3), type := 66, pos := "congestion_reno.go:163", after := #[{ on := 12, ground := Ground.guard }], guard := some (12, true) }) (v := undef) rfl (by kernel_rfl) (by kernel_rfl) (by kernel_rfl) (fun _ _ _ h => h) (Or.inr ⟨by rfl, rfl⟩) (by assumption) ?_
        try simp only [Act.put, List.setIfInBounds_toArray, List.set_cons_zero, List.set_cons_succ]
        refine wpAnyH_take (i := 14) (oi := { dst := some 25, op := Op.nilCheck (Operand.tmp 24), type := 0, pos := "congestion_reno.go:163", after := #[{ on := 13, ground := Ground.data }, { on := 12, ground := Ground.guard }], guard := some (12, true) }) (v := undef) rfl (by kernel_rfl) (by kernel_rfl) (by kernel_rfl) (fun _ _ _ h => h) (Or.inr ⟨by rfl, rfl⟩) (by assumption) ?_
        try simp only [Act.put, List.setIfInBounds_toArray, List.set_cons_zero, List.set_cons_succ]
        refine wpAnyH_take (i := 15) (oi := { dst := some 26, op := Op.fieldAddr 69 (Operand.tmp 25) 2, type := 0, pos := "congestion_reno.go:163", after := #[{ on := 14, ground := Ground.data }, { on := 12, ground := Ground.guard }], guard := some (12, true) }) (v := undef) rfl (by kernel_rfl) (by kernel_rfl) (by kernel_rfl) (fun _ _ _ h => h) (Or.inr ⟨by rfl, rfl⟩) (by assumption) ?_
        try simp only [Act.put, List.setIfInBounds_toArray, List.set_cons_zero, List.set_cons_succ]
        refine wpAnyH_take (i := 16) (oi := { dst := some 27, op := Op.load 52 (Operand.tmp 26), type := 52, pos := "congestion_reno.go:163", after := #[{ on := 15, ground := Ground.data }, { on := 12, ground := Ground.guard }], guard := some (12, true) }) (v := undef) rfl (by kernel_rfl) (by kernel_rfl) (by kernel_rfl) (fun _ _ _ h => h) (Or.inr ⟨by rfl, rfl⟩) (by assumption) ?_
        try simp only [Act.put, List.setIfInBounds_toArray, List.set_cons_zero, List.set_cons_succ]
        refine wpAnyH_take (i := 17) (oi := { dst := some 28, op := Op.move (Operand.tmp 4), type := 48, pos := "congestion_reno.go:163", after := #[{ on := 12, ground := Ground.guard }], guard := some (12, true) }) (v := undef) rfl (by kernel_rfl) (by kernel_rfl) (by kernel_rfl) (fun _ _ _ h => h) (Or.inr ⟨by rfl, rfl⟩) (by assumption) ?_
        try simp only [Act.put, List.setIfInBounds_toArray, List.set_cons_zero, List.set_cons_succ]
        refine wpAnyH_take (i := 18) (oi := { dst := some 29, op := Op.nilCheck (Operand.tmp 28), type := 0, pos := "congestion_reno.go:163", after := #[{ on := 17, ground := Ground.data }, { on := 12, ground := Ground.guard }], guard := some (12, true) }) (v := undef) rfl (by kernel_rfl) (by kernel_rfl) (by kernel_rfl) (fun _ _ _ h => h) (Or.inr ⟨by rfl, rfl⟩) (by assumption) ?_
        try simp only [Act.put, List.setIfInBounds_toArray, List.set_cons_zero, List.set_cons_succ]
        refine wpAnyH_take (i := 19) (oi := { dst := some 30, op := Op.fieldAddr 54 (Operand.tmp 29) 4, type := 0, pos := "congestion_reno.go:163", after := #[{ on := 18, ground := Ground.data }, { on := 12, ground := Ground.guard }], guard := some (12, true) }) (v := undef) rfl (by kernel_rfl) (by kernel_rfl) (by kernel_rfl) (fun _ _ _ h => h) (Or.inr ⟨by rfl, rfl⟩) (by assumption) ?_
        try simp only [Act.put, List.setIfInBounds_toArray, List.set_cons_zero, List.set_cons_succ]
        refine wpAnyH_take (i := 20) (oi := { dst := some 31, op := Op.load 52 (Operand.tmp 30), type := 52, pos := "congestion_reno.go:163", after := #[{ on := 19, ground := Ground.data }, { on := 12, ground := Ground.guard }], guard := some (12, true) }) (v := undef) rfl (by kernel_rfl) (by kernel_rfl) (by kernel_rfl) (fun _ _ _ h => h) (Or.inr ⟨by rfl, rfl⟩) (by assumption) ?_
        try simp only [Act.put, List.setIfInBounds_toArray, List.set_cons_zero, List.set_cons_succ]
        refine wpAnyH_take (i := 21) (oi := { dst := some 32, op := Op.call { callee := Callee.value (Operand.func 29), args := #[Operand.tmp 27, Operand.tmp 31], argTypes := #[52, 52] }, type := 4, pos := "congestion_reno.go:165", after := #[{ on := 16, ground := Ground.data }, { on := 20, ground := Ground.data }, { on := 12, ground := Ground.chain }, { on := 12, ground := Ground.guard }], guard := some (12, true) }) (v := undef) rfl (by kernel_rfl) (by kernel_rfl) (by kernel_rfl) (fun _ _ _ h => h) (Or.inr ⟨by rfl, rfl⟩) (by assumption) ?_
        try simp only [Act.put, List.setIfInBounds_toArray, List.set_cons_zero, List.set_cons_succ]
        refine wpAnyH_take (i := 22) (oi := { dst := some 33, op := Op.unOp UnOp.not 4 (Operand.tmp 32), type := 4, pos := "congestion_reno.go:163", after := #[{ on := 21, ground := Ground.data }, { on := 12, ground := Ground.guard }], guard := some (12, true) }) (v := undef) rfl (by kernel_rfl) (by kernel_rfl) (by kernel_rfl) (fun _ _ _ h => h) (Or.inr ⟨by rfl, rfl⟩) (by assumption) ?_
        try simp only [Act.put, List.setIfInBounds_toArray, List.set_cons_zero, List.set_cons_succ]
        refine wpAnyH_take (i := 23) (oi := { dst := some 34, op := Op.pick (Operand.tmp 23) (Operand.tmp 33) (Operand.const (Value.bool false)), type := 4, pos := "congestion_reno.go:163", after := #[{ on := 12, ground := Ground.data }, { on := 22, ground := Ground.data }], guard := none }) (v := _) rfl (by kernel_rfl) (by kernel_rfl) (by kernel_rfl) (fun _ _ _ h => h) (Or.inl ⟨by rfl, by intro w hSw; (try dsimp only at hSw); go_simp; try with_reducible rfl⟩) (by assumption) ?_
        try simp only [Act.put, List.setIfInBounds_toArray, List.set_cons_zero, List.set_cons_succ]
        refine wpAnyH_take (i := 24) (oi := { dst := some 10, op := Op.assign (Operand.tmp 34), type := 4, pos := "congestion_reno.go:163", after := #[{ on := 23, ground := Ground.data }, { on := 21, ground := Ground.chain }, { on := 0, ground := Ground.phase }, { on := 1, ground := Ground.phase }, { on := 2, ground := Ground.phase }, { on := 3, ground := Ground.phase }, { on := 4, ground := Ground.phase }, { on := 5, ground := Ground.phase }, { on := 6, ground := Ground.phase }, { on := 7, ground := Ground.phase }, { on := 8, ground := Ground.phase }, { on := 9, ground := Ground.phase }, { on := 10, ground := Ground.phase }, { on := 11, ground := Ground.phase }, { on := 12, ground := Ground.phase }, { on := 13, ground := Ground.phase }, { on := 14, ground := Ground.phase }, { on := 15, ground := Ground.phase }, { on := 16, ground := Ground.phase }, { on := 17, ground := Ground.phase }, { on := 18, ground := Ground.phase }, { on := 19, ground := Ground.phase }, { on := 20, ground := Ground.phase }, { on := 21, ground := Ground.phase }, { on := 22, ground := Ground.phase }, { on := 23, ground := Ground.phase }], guard := none }) (v := _) rfl (by kernel_rfl) (by kernel_rfl) (by kernel_rfl) (fun _ _ _ h => h) (Or.inl ⟨by rfl, by intro w hSw; (try dsimp only at hSw); go_simp; try with_reducible rfl⟩) (by assumption) ?_
        try simp only [Act.put, List.setIfInBounds_toArray, List.set_cons_zero, List.set_cons_succ]
        refine wpAnyH_done (by kernel_rfl) ?_ _
        all_goals (go_wp2; go_meet; case rel => exact ⟨by rw [HV.out], G2.out, P2.out, R2.out, O2.out⟩)
      · have z1 : decide (R0.first < 0) = false := by simpa using hz
        by_cases hl : time < R0.first
        · have z2 : decide (time < R0.first) = true := by simpa using hl
          have HV := Lib.hid (show validB true R0.first time = false by simp [validB, hl])
          clear hz hl
          go_region_held3 (fun V => V.cell? ⟨p, 2, none⟩ = some (.int .u64 (tw time)) ∧ V.cell? ⟨p, 3, none⟩ = some (.int .i64 (te time)) ∧ V.cell? ⟨p, 4, none⟩ = some (.bool true) ∧ V.cell? ⟨r, 4, none⟩ = some (.int .u64 (tw R0.first)) ∧ V.cell? ⟨r, 5, none⟩ = some (.int .i64 (te R0.first))) (go_keep) (first | (go_at_call 30; refine (isZero_b _ _ _ z1).mono ?_; rintro q w2 ⟨rfl, hb⟩; have G2 := Lib.hid (Blk.below HG.out.drew hb HG.out.lt); have P2 := Lib.hid (Blk.below HP.out.drew hb HP.out.lt); have R2 := Lib.hid (Blk.below HR.out.drew hb HR.out.lt); have O2 := Lib.hid (grownBy_trans (only_drew HO.out) (only_of_below hb _)); have x22 : w2.cell? ⟨p, 2, none⟩ = some (.int .u64 (tw time)) := P2.out.cellAt 2 rfl; have x32 : w2.cell? ⟨p, 3, none⟩ = some (.int .i64 (te time)) := P2.out.cellAt 3 rfl; have x42 : w2.cell? ⟨p, 4, none⟩ = some (.bool true) := P2.out.cellAt 4 rfl; have y42 : w2.cell? ⟨r, 4, none⟩ = some (.int .u64 (tw R0.first)) := R2.out.cellAt 4 rfl; have y52 : w2.cell? ⟨r, 5, none⟩ = some (.int .i64 (te R0.first)) := R2.out.cellAt 5 rfl) | (go_at_call 29; refine (before_b _ _ _ _ z2 t0 t1 r0 r1).mono ?_; rintro q w3 ⟨rfl, hb3⟩; have G3 := Lib.hid (Blk.below G2.out hb3 G2.out.lt); have P3 := Lib.hid (Blk.below P2.out hb3 P2.out.lt); have R3 := Lib.hid (Blk.below R2.out hb3 R2.out.lt); have O3 := Lib.hid (grownBy_trans O2.out (only_of_below hb3 _)); have x23 : w3.cell? ⟨p, 2, none⟩ = some (.int .u64 (tw time)) := P3.out.cellAt 2 rfl; have x33 : w3.cell? ⟨p, 3, none⟩ = some (.int .i64 (te time)) := P3.out.cellAt 3 rfl; have x43 : w3.cell? ⟨p, 4, none⟩ = some (.bool true) := P3.out.cellAt 4 rfl; have y43 : w3.cell? ⟨r, 4, none⟩ = some (.int .u64 (tw R0.first)) := R3.out.cellAt 4 rfl; have y53 : w3.cell? ⟨r, 5, none⟩ = some (.int .i64 (te R0.first)) := R3.out.cellAt 5 rfl))
          all_goals (go_wp2; go_meet; case rel => exact ⟨by rw [HV.out], G3.out, P3.out, R3.out, O3.out⟩)
        · have z2 : decide (time < R0.first) = false := by simpa using hl
          have HV := Lib.hid (show validB true R0.first time = true by unfold validB; rw [z1, z2]; rfl)
          clear hz hl
          go_region_held3 (fun V => V.cell? ⟨p, 2, none⟩ = some (.int .u64 (tw time)) ∧ V.cell? ⟨p, 3, none⟩ = some (.int .i64 (te time)) ∧ V.cell? ⟨p, 4, none⟩ = some (.bool true) ∧ V.cell? ⟨r, 4, none⟩ = some (.int .u64 (tw R0.first)) ∧ V.cell? ⟨r, 5, none⟩ = some (.int .i64 (te R0.first))) (go_keep) (first | (go_at_call 30; refine (isZero_b _ _ _ z1).mono ?_; rintro q w2 ⟨rfl, hb⟩; have G2 := Lib.hid (Blk.below HG.out.drew hb HG.out.lt); have P2 := Lib.hid (Blk.below HP.out.drew hb HP.out.lt); have R2 := Lib.hid (Blk.below HR.out.drew hb HR.out.lt); have O2 := Lib.hid (grownBy_trans (only_drew HO.out) (only_of_below hb _)); have x22 : w2.cell? ⟨p, 2, none⟩ = some (.int .u64 (tw time)) := P2.out.cellAt 2 rfl; have x32 : w2.cell? ⟨p, 3, none⟩ = some (.int .i64 (te time)) := P2.out.cellAt 3 rfl; have x42 : w2.cell? ⟨p, 4, none⟩ = some (.bool true) := P2.out.cellAt 4 rfl; have y42 : w2.cell? ⟨r, 4, none⟩ = some (.int .u64 (tw R0.first)) := R2.out.cellAt 4 rfl; have y52 : w2.cell? ⟨r, 5, none⟩ = some (.int .i64 (te R0.first)) := R2.out.cellAt 5 rfl) | (go_at_call 29; refine (before_b _ _ _ _ z2 t0 t1 r0 r1).mono ?_; rintro q w3 ⟨rfl, hb3⟩; have G3 := Lib.hid (Blk.below G2.out hb3 G2.out.lt); have P3 := Lib.hid (Blk.below P2.out hb3 P2.out.lt); have R3 := Lib.hid (Blk.below R2.out hb3 R2.out.lt); have O3 := Lib.hid (grownBy_trans O2.out (only_of_below hb3 _)); have x23 : w3.cell? ⟨p, 2, none⟩ = some (.int .u64 (tw time)) := P3.out.cellAt 2 rfl; have x33 : w3.cell? ⟨p, 3, none⟩ = some (.int .i64 (te time)) := P3.out.cellAt 3 rfl; have x43 : w3.cell? ⟨p, 4, none⟩ = some (.bool true) := P3.out.cellAt 4 rfl; have y43 : w3.cell? ⟨r, 4, none⟩ = some (.int .u64 (tw R0.first)) := R3.out.cellAt 4 rfl; have y53 : w3.cell? ⟨r, 5, none⟩ = some (.int .i64 (te R0.first)) := R3.out.cellAt 5 rfl))
          all_goals (go_wp2; go_meet; case rel => exact ⟨by rw [HV.out], G3.out, P3.out, R3.out, O3.out⟩)
  case rest =>
    obtain ⟨hv, G1, P1, R1, O1⟩ := hcut
    obtain ⟨b, hb⟩ : ∃ b, validB el R0.first time = b := ⟨_, rfl⟩
    rw [hb] at hv
    subst hv
    have HB := Lib.hid hb
    have HG := Lib.hid G1
    have HP := Lib.hid P1
    have HO := Lib.hid O1
    clear hb G1 P1 R1 O1
    go_upto_if 35 with (fail)
    go_cut [] (fun W => Blk W g 59 (ccells (c.lostP 0 num time b)) ∧ Blk W p 69 (pcells num size time el infl) ∧ w.grownBy W (some g))
    case first =>
      have p0 : wc.cell? ⟨p, 0, none⟩ = some (.int .i64 num) := HP.out.cellAt 0 rfl
      have p2 : wc.cell? ⟨p, 2, none⟩ = some (.int .u64 (tw time)) := HP.out.cellAt 2 rfl
      have p3 : wc.cell? ⟨p, 3, none⟩ = some (.int .i64 (te time)) := HP.out.cellAt 3 rfl
      have q0 : wc.cell? ⟨g, 12, none⟩ = some (.int .u64 (tw c.s0)) := HG.out.cellAt 12 rfl
      have q1 : wc.cell? ⟨g, 13, none⟩ = some (.int .i64 (te c.s0)) := HG.out.cellAt 13 rfl
      have q2 : wc.cell? ⟨g, 14, none⟩ = some (.int .u64 (tw c.e0)) := HG.out.cellAt 14 rfl
      have q3 : wc.cell? ⟨g, 15, none⟩ = some (.int .i64 (te c.e0)) := HG.out.cellAt 15 rfl
      have q4 : wc.cell? ⟨g, 16, none⟩ = some (.int .i64 c.n0) := HG.out.cellAt 16 rfl
      have f0 := HG.out.frozen 12
      have f1 := HG.out.frozen 13
      have f2 := HG.out.frozen 14
      have f3 := HG.out.frozen 15
      have f4 := HG.out.frozen 16
      have lg := HG.out.lt
      have lp := HP.out.lt
      have hne := HN.out
      by_cases hn : num = c.n0
      · have h1 : (num == c.n0) = true := by simpa using hn
        have h2 : (num != c.n0) = false := by simp [hn]
        have E := Lib.hid hn
        clear hn
        cases b with
        | true =>
          go_wp2
          go_quiet (fail)
          go_wp2
          go_region
          go_wp2
          go_region
          go_wp2
          go_meet
          case rel =>
            exact ⟨Blk.to (by repeat (with_reducible first | exact HG.out | apply Blk.drew | apply Blk.drewN | apply Blk.alloc | apply Blk.set_)) (by simp [ccells, C.lostP, C.setP, C.pn, C.ps, E.out]), by repeat (with_reducible first | exact HP.out | apply Blk.drew | apply Blk.drewN | apply Blk.alloc | refine Blk.far ?_ hne _), by repeat (with_reducible first | exact HO.out | apply only_drew | apply only_drewN | apply only_alloc | refine only_setCell ?_ (.inl rfl) _)⟩
        | false =>
          go_wp2
          go_quiet (fail)
          go_wp2
          go_region
          go_wp2
          go_meet
          case rel =>
            exact ⟨Blk.to (by repeat (with_reducible first | exact HG.out | apply Blk.drew | apply Blk.drewN | apply Blk.alloc | apply Blk.set_)) (by simp [ccells, C.lostP, C.setP, C.pn, C.ps, C.pe, E.out]), by repeat (with_reducible first | exact HP.out | apply Blk.drew | apply Blk.drewN | apply Blk.alloc | refine Blk.far ?_ hne _), by repeat (with_reducible first | exact HO.out | apply only_drew | apply only_drewN | apply only_alloc | refine only_setCell ?_ (.inl rfl) _)⟩
      · have h1 : (num == c.n0) = false := by simpa using hn
        have h2 : (num != c.n0) = true := by simpa using hn
        have E := Lib.hid hn
        clear hn
        cases b with
        | true =>
          go_wp2
          go_quiet (fail)
          go_wp2
          go_region
          go_wp2
          go_region
          go_wp2
          go_region
          go_wp2
          go_meet
          case rel =>
            exact ⟨Blk.to (by repeat (with_reducible first | exact HG.out | apply Blk.drew | apply Blk.drewN | apply Blk.alloc | apply Blk.set_)) (by simp [ccells, C.lostP, C.setP, C.pn, C.ps, E.out]), by repeat (with_reducible first | exact HP.out | apply Blk.drew | apply Blk.drewN | apply Blk.alloc | refine Blk.far ?_ hne _), by repeat (with_reducible first | exact HO.out | apply only_drew | apply only_drewN | apply only_alloc | refine only_setCell ?_ (.inl rfl) _)⟩
        | false =>
          go_wp2
          go_quiet (fail)
          go_wp2
          go_meet
          case rel =>
            exact ⟨Blk.to (by repeat (with_reducible first | exact HG.out | apply Blk.drew | apply Blk.drewN | apply Blk.alloc | apply Blk.set_)) (by simp [ccells, C.lostP, C.setP, C.pn, C.ps, C.pe, E.out]), by repeat (with_reducible first | exact HP.out | apply Blk.drew | apply Blk.drewN | apply Blk.alloc | refine Blk.far ?_ hne _), by repeat (with_reducible first | exact HO.out | apply only_drew | apply only_drewN | apply only_alloc | refine only_setCell ?_ (.inl rfl) _)⟩
    case rest =>
      obtain ⟨G1, P1, O1⟩ := hcut
      have hfl := lostP_fl c 0 num time b
      have hll := lostP_ll c 0 num time b
      have EQ := Lib.hid (show c.lost 0 num size time el infl R0.first = (c.lostP 0 num time b).lostF size time infl by unfold C.lost; rw [HB.out])
      generalize c.lostP 0 num time b = c1 at G1 hfl hll EQ
      rw [← hfl] at b0 b1
      rw [← hll] at l0 l1
      clear HG HP HO HB G GP GR HN hfl hll
      have HG := Lib.hid G1
      have HP := Lib.hid P1
      have HO := Lib.hid O1
      clear G1 P1 O1
      have p1 : wc.cell? ⟨p, 1, none⟩ = some (.int .i64 size) := HP.out.cellAt 1 rfl
      have p5 : wc.cell? ⟨p, 5, none⟩ = some (.bool infl) := HP.out.cellAt 5 rfl
      have q2 : wc.cell? ⟨g, 2, none⟩ = some (.int .i64 c1.fl) := HG.out.cellAt 2 rfl
      have f2 := HG.out.frozen 2
      have hne : p ≠ g := fun h => Blk.ne_ HG.out HP.out (by decide) h.symm
      cases infl with
      | false =>
        go_wp2
        refine bodyPost_ret (results_none rfl _ _ _) rfl ?_
        exact ⟨rfl, HG.out.to (by rw [EQ.out]; simp [C.lostF]), HO.out⟩
      | true =>
        go_wp2
        go_region
        go_wp2
        refine wp_let (fun W => Blk W g 59 (ccells { c1 with fl := c1.fl - size }) ∧ Blk W p 69 (pcells num size time el true) ∧ w.grownBy W (some g)) ?_ ?_
        · exact ⟨Blk.to (by repeat (with_reducible first | exact HG.out | apply Blk.drew | apply Blk.alloc | apply Blk.set_)) (by simp [ccells]), by repeat (with_reducible first | exact HP.out | apply Blk.drew | apply Blk.alloc | refine Blk.far ?_ hne _), by repeat (with_reducible first | exact HO.out | apply only_drew | apply only_alloc | refine only_setCell ?_ (.inl rfl) _)⟩
        · clear p1 p5 q2 f2 HG HP HO
          rintro W ⟨G1, P1, O1⟩
          have HG := Lib.hid G1
          have HP := Lib.hid P1
          have HO := Lib.hid O1
          clear G1 P1 O1
          have a2 : W.cell? ⟨p, 2, none⟩ = some (.int .u64 (tw time)) := HP.out.cellAt 2 rfl
          have a3 : W.cell? ⟨p, 3, none⟩ = some (.int .i64 (te time)) := HP.out.cellAt 3 rfl
          have a4 : W.cell? ⟨g, 10, none⟩ = some (.int .u64 (tw c1.ll)) := HG.out.cellAt 10 rfl
          have a5 : W.cell? ⟨g, 11, none⟩ = some (.int .i64 (te c1.ll)) := HG.out.cellAt 11 rfl
          by_cases ht : c1.ll < time
          · have z1 : decide (c1.ll < time) = true := by simpa using ht
            have EF := Lib.hid (show ccells { c1 with fl := c1.fl - size, ll := time } = ccells (c1.lostF size time true) by simp [C.lostF, ht])
            clear ht
            go_region_held3 (fun V => V.cell? ⟨p, 2, none⟩ = some (.int .u64 (tw time)) ∧ V.cell? ⟨p, 3, none⟩ = some (.int .i64 (te time)) ∧ V.cell? ⟨g, 10, none⟩ = some (.int .u64 (tw c1.ll)) ∧ V.cell? ⟨g, 11, none⟩ = some (.int .i64 (te c1.ll))) (go_keep) (first | (go_at_call 31; refine (after_b _ _ _ _ z1 t0 t1 l0 l1).mono ?_; rintro q w2 ⟨rfl, hb⟩; have G2 := Lib.hid (Blk.below HG.out.drew hb HG.out.lt); have P2 := Lib.hid (Blk.below HP.out.drew hb HP.out.lt); have O2 := Lib.hid (grownBy_trans (only_drew HO.out) (only_of_below hb _)); have x2 : w2.cell? ⟨p, 2, none⟩ = some (.int .u64 (tw time)) := P2.out.cellAt 2 rfl; have x3 : w2.cell? ⟨p, 3, none⟩ = some (.int .i64 (te time)) := P2.out.cellAt 3 rfl; have x4 : w2.cell? ⟨g, 10, none⟩ = some (.int .u64 (tw c1.ll)) := G2.out.cellAt 10 rfl; have x5 : w2.cell? ⟨g, 11, none⟩ = some (.int .i64 (te c1.ll)) := G2.out.cellAt 11 rfl; have f6 := G2.out.frozen 10; have f7 := G2.out.frozen 11))
            go_wp2
            go_end0
            exact ⟨rfl, Blk.to (by repeat (with_reducible first | exact G2.out | apply Blk.drew | apply Blk.alloc | apply Blk.set_)) (by rw [EQ.out, ← EF.out]; simp [ccells]), by repeat (with_reducible first | exact O2.out | apply only_drew | apply only_alloc | refine only_setCell ?_ (.inl rfl) _)⟩
          · have z1 : decide (c1.ll < time) = false := by simpa using ht
            have EF := Lib.hid (show ccells { c1 with fl := c1.fl - size } = ccells (c1.lostF size time true) by simp [C.lostF, ht])
            clear ht
            go_region_held3 (fun V => V.cell? ⟨p, 2, none⟩ = some (.int .u64 (tw time)) ∧ V.cell? ⟨p, 3, none⟩ = some (.int .i64 (te time)) ∧ V.cell? ⟨g, 10, none⟩ = some (.int .u64 (tw c1.ll)) ∧ V.cell? ⟨g, 11, none⟩ = some (.int .i64 (te c1.ll))) (go_keep) (first | (go_at_call 31; refine (after_b _ _ _ _ z1 t0 t1 l0 l1).mono ?_; rintro q w2 ⟨rfl, hb⟩; have G2 := Lib.hid (Blk.below HG.out.drew hb HG.out.lt); have P2 := Lib.hid (Blk.below HP.out.drew hb HP.out.lt); have O2 := Lib.hid (grownBy_trans (only_drew HO.out) (only_of_below hb _)); have x2 : w2.cell? ⟨p, 2, none⟩ = some (.int .u64 (tw time)) := P2.out.cellAt 2 rfl; have x3 : w2.cell? ⟨p, 3, none⟩ = some (.int .i64 (te time)) := P2.out.cellAt 3 rfl; have x4 : w2.cell? ⟨g, 10, none⟩ = some (.int .u64 (tw c1.ll)) := G2.out.cellAt 10 rfl; have x5 : w2.cell? ⟨g, 11, none⟩ = some (.int .i64 (te c1.ll)) := G2.out.cellAt 11 rfl; have f6 := G2.out.frozen 10; have f7 := G2.out.frozen 11))
            go_wp2
            go_end0
            exact ⟨rfl, G2.out.to (by rw [EQ.out, ← EF.out]), O2.out⟩
end Go.Proofs.Ytehplpakbfnhbaa
