/-
  What packetAcked does to the controller's block.
-/
import Derived.Test.YtehplpakbfnhbaaC1
import Derived.StillTailTactics
namespace Go.Proofs.Ytehplpakbfnhbaa
open Go.RowKit
set_option linter.unusedVariables false

/-- The world under a name of its own, with what is known of it. -/
theorem wp_let {P : Program} {cd : Code} {Q : Exit → Act → World → Prop} {a : Act} {W : World} (I : World → Prop) (hI : I W) (h : ∀ V, I V → cd.wp P Q a V) : cd.wp P Q a W := h W hI

def C.acked (c : C) (size time : Int) (infl : Bool) : C :=
  if infl then (if c.und then { c with fl := c.fl - size } else if time < c.rs then { c with fl := c.fl - size } else { c with fl := c.fl - size, pend := c.pend + size }) else c

set_option maxHeartbeats 1000000 in
theorem acked_any (g p : Nat) (c : C) (num size time x e : Int) (el infl : Bool) (w : World) (hg : Blk w g 59 (ccells c)) (hp : Blk w p 69 (pcells num size time el infl)) (b0 : -1000000000000 < c.fl) (b1 : c.fl < 1000000000000) (s0 : 0 ≤ size) (s1 : size ≤ 65535)
    (d0 : 0 ≤ c.pend) (d1 : c.pend < 1000000000000) (t0 : -1 ≤ time) (t1 : time < 3000000) (r0 : -1 ≤ c.rs) (r1 : c.rs < 3000000) :
    Calls Try.prog 20 #[.pointer (some ⟨g, 0, none⟩), .agg #[.int .u64 x, .int .i64 e], .pointer (some ⟨p, 0, none⟩)] w fun r w' => r = .returned (.tuple #[]) ∧ Blk w' g 59 (ccells (c.acked size time infl)) ∧ w.grownBy w' (some g) := by
  have p1 : w.cell? ⟨p, 1, none⟩ = some (.int .i64 size) := hp.cellAt 1 rfl
  have p2 : w.cell? ⟨p, 2, none⟩ = some (.int .u64 (tw time)) := hp.cellAt 2 rfl
  have p3 : w.cell? ⟨p, 3, none⟩ = some (.int .i64 (te time)) := hp.cellAt 3 rfl
  have p5 : w.cell? ⟨p, 5, none⟩ = some (.bool infl) := hp.cellAt 5 rfl
  have c2 : w.cell? ⟨g, 2, none⟩ = some (.int .i64 c.fl) := hg.cellAt 2 rfl
  have c4 : w.cell? ⟨g, 4, none⟩ = some (.int .u64 (tw c.rs)) := hg.cellAt 4 rfl
  have c5 : w.cell? ⟨g, 5, none⟩ = some (.int .i64 (te c.rs)) := hg.cellAt 5 rfl
  have c8 : w.cell? ⟨g, 9, none⟩ = some (.bool c.und) := hg.cellAt 9 rfl
  have f2 := hg.frozen 2
  have lg := hg.lt
  have lp := hp.lt
  have hne : p ≠ g := fun h => Blk.ne_ hg hp (by decide) h.symm
  have G := Lib.hid hg
  have G' := Lib.hid hp
  clear hg hp
  cases infl with
  | false =>
    go_enter Try.func20, Try.ntmps20
    go_wp2
    refine bodyPost_ret (results_none rfl _ _ _) rfl ?_
    exact ⟨rfl, G.out.alloc _, only_alloc (World.grownBy.refl w _) _⟩
  | true =>
    by_cases hu : c.und = true
    · rw [hu] at c8
      have HU := Lib.hid hu
      clear hu
      go_enter Try.func20, Try.ntmps20
      go_wp2
      go_region
      go_wp2
      refine bodyPost_ret (results_none rfl _ _ _) rfl ?_
      exact ⟨rfl, Blk.to (by repeat (with_reducible first | exact G.out | apply Blk.drew | apply Blk.alloc | apply Blk.set_)) (by simp [ccells, C.acked, HU.out]), by repeat (with_reducible first | exact World.grownBy.refl w _ | apply only_drew | apply only_alloc | refine only_setCell ?_ (.inl rfl) _)⟩
    · have hu' : c.und = false := by simpa using hu
      rw [hu'] at c8
      have HU := Lib.hid hu'
      clear hu hu'
      go_enter Try.func20, Try.ntmps20
      go_wp2
      go_region
      go_wp2
      refine wp_let (fun W => Blk W g 59 (ccells { c with fl := c.fl - size }) ∧ Blk W p 69 (pcells num size time el true) ∧ w.grownBy W (some g)) ?_ ?_
      · exact ⟨Blk.to (by repeat (with_reducible first | exact G.out | apply Blk.drew | apply Blk.alloc | apply Blk.set_)) (by rfl), by repeat (with_reducible first | exact G'.out | apply Blk.drew | apply Blk.alloc | refine Blk.far ?_ hne _), by repeat (with_reducible first | exact World.grownBy.refl w _ | apply only_drew | apply only_alloc | refine only_setCell ?_ (.inl rfl) _)⟩
      · clear p1 p2 p3 p5 c2 c4 c5 c8 f2 lg lp
        rintro W ⟨G1, G1', O1⟩
        have a2 : W.cell? ⟨p, 2, none⟩ = some (.int .u64 (tw time)) := G1'.cellAt 2 rfl
        have a3 : W.cell? ⟨p, 3, none⟩ = some (.int .i64 (te time)) := G1'.cellAt 3 rfl
        have a4 : W.cell? ⟨g, 4, none⟩ = some (.int .u64 (tw c.rs)) := G1.cellAt 4 rfl
        have a5 : W.cell? ⟨g, 5, none⟩ = some (.int .i64 (te c.rs)) := G1.cellAt 5 rfl
        have H1 := Lib.hid G1
        have H1' := Lib.hid G1'
        have HO := Lib.hid O1
        clear G1 G1' O1
        go_region_held3 (fun W => W.cell? ⟨p, 2, none⟩ = some (.int .u64 (tw time)) ∧ W.cell? ⟨p, 3, none⟩ = some (.int .i64 (te time)) ∧ W.cell? ⟨g, 4, none⟩ = some (.int .u64 (tw c.rs)) ∧ W.cell? ⟨g, 5, none⟩ = some (.int .i64 (te c.rs))) (go_keep) (first | (go_at_call 29; refine (before_at _ _ _ t0 t1 r0 r1).mono ?_; rintro r w2 ⟨rfl, hb⟩; have G2 := Lib.hid (Blk.below H1.out.drew hb H1.out.lt); have G2' := Lib.hid (Blk.below H1'.out.drew hb H1'.out.lt); have O2 := Lib.hid (grownBy_trans (only_drew HO.out) (only_of_below hb _)); have q2 : w2.cell? ⟨p, 2, none⟩ = some (.int .u64 (tw time)) := G2'.out.cellAt 2 rfl; have q3 : w2.cell? ⟨p, 3, none⟩ = some (.int .i64 (te time)) := G2'.out.cellAt 3 rfl; have q4 : w2.cell? ⟨g, 4, none⟩ = some (.int .u64 (tw c.rs)) := G2.out.cellAt 4 rfl; have q5 : w2.cell? ⟨g, 5, none⟩ = some (.int .i64 (te c.rs)) := G2.out.cellAt 5 rfl))
        clear a2 a3 a4 a5 q2 q3 q4 q5
        have q6 : w2.cell? ⟨g, 6, none⟩ = some (.int .i64 c.pend) := G2.out.cellAt 6 rfl
        have q7 : w2.cell? ⟨p, 1, none⟩ = some (.int .i64 size) := G2'.out.cellAt 1 rfl
        have f6 := G2.out.frozen 6
        by_cases ht : time < c.rs
        · have ht' : decide (time < c.rs) = true := by simpa using ht
          go_wp2
          refine bodyPost_ret (results_none rfl _ _ _) rfl ?_
          exact ⟨rfl, G2.out.to (by simp [ccells, C.acked, HU.out, ht]), O2.out⟩
        · have ht' : decide (time < c.rs) = false := by simpa using ht
          go_wp2
          go_region
          go_wp2
          go_end0
          exact ⟨rfl, (G2.out.set_ 6 _).drew.to (by simp [ccells, C.acked, HU.out, Int.not_lt.mpr ht]), only_drew (only_setCell O2.out (.inl rfl) _)⟩
end Go.Proofs.Ytehplpakbfnhbaa
