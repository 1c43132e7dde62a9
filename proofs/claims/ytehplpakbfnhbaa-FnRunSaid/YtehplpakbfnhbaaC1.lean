/-
  The controller's block in memory; what its small methods do to it.
-/
import Derived.Test.YtehplpakbfnhbaaT3
import Derived.RegionTactic
import Derived.BigRegion
namespace Go.Proofs.Ytehplpakbfnhbaa
open Go.RowKit
set_option linter.unusedVariables false

/-- The controller: times as numbers (-1 is the zero time). -/
structure C where
  maxd : Int
  cw : Int
  fl : Int
  thr : Int
  rs : Int
  pend : Int
  one : Bool
  inr : Bool
  und : Bool
  ll : Int
  s0 : Int
  e0 : Int
  n0 : Int
  s1 : Int
  e1 : Int
  n1 : Int
  s2 : Int
  e2 : Int
  n2 : Int

def ccells (c : C) : Array Value := #[.int .i64 c.maxd, .int .i64 c.cw, .int .i64 c.fl, .int .i64 c.thr, .int .u64 (tw c.rs), .int .i64 (te c.rs), .int .i64 c.pend, .bool c.one, .bool c.inr, .bool c.und, .int .u64 (tw c.ll), .int .i64 (te c.ll),
  .int .u64 (tw c.s0), .int .i64 (te c.s0), .int .u64 (tw c.e0), .int .i64 (te c.e0), .int .i64 c.n0, .int .u64 (tw c.s1), .int .i64 (te c.s1), .int .u64 (tw c.e1), .int .i64 (te c.e1), .int .i64 c.n1, .int .u64 (tw c.s2), .int .i64 (te c.s2), .int .u64 (tw c.e2), .int .i64 (te c.e2), .int .i64 c.n2]
def pcells (num size time : Int) (el infl : Bool) : Array Value := #[.int .i64 num, .int .i64 size, .int .u64 (tw time), .int .i64 (te time), .bool el, .bool infl]
theorem Blk.to {w : World} {g : Nat} {t : TypeId} {cs cs' : Array Value} (h : Blk w g t cs) (e : cs = cs') : Blk w g t cs' := e ▸ h
theorem Blk.cellAt {w : World} {g : Nat} {t : TypeId} {cs : Array Value} (h : Blk w g t cs) (i : Nat) {v : Value} (e : cs[i]? = some v) : w.cell? ⟨g, i, none⟩ = some v := (h.cell i).trans e

def C.sent (c : C) (size : Int) (infl : Bool) : C := if infl then { c with fl := c.fl + size, one := false } else c
def C.drop (c : C) (size : Int) (infl : Bool) : C := if infl then { c with fl := c.fl - size } else c

set_option maxHeartbeats 400000 in
theorem sent_any (g p : Nat) (c : C) (num size time x e sp : Int) (el infl : Bool) (w : World) (hg : Blk w g 59 (ccells c)) (hp : Blk w p 69 (pcells num size time el infl)) (b0 : -1000000000000 < c.fl) (b1 : c.fl < 1000000000000) (s0 : 0 ≤ size) (s1 : size ≤ 65535) :
    Calls Try.prog 19 #[.pointer (some ⟨g, 0, none⟩), .agg #[.int .u64 x, .int .i64 e], .int .u8 sp, .pointer (some ⟨p, 0, none⟩)] w fun r w' => r = .returned (.tuple #[]) ∧ Blk w' g 59 (ccells (c.sent size infl)) ∧ w.grownBy w' (some g) := by
  have p1 : w.cell? ⟨p, 1, none⟩ = some (.int .i64 size) := hp.cellAt 1 rfl
  have p5 : w.cell? ⟨p, 5, none⟩ = some (.bool infl) := hp.cellAt 5 rfl
  have c2 : w.cell? ⟨g, 2, none⟩ = some (.int .i64 c.fl) := hg.cellAt 2 rfl
  have c7 : w.cell? ⟨g, 7, none⟩ = some (.bool c.one) := hg.cellAt 7 rfl
  have f2 := hg.frozen 2
  have f7 := hg.frozen 7
  have hne : p ≠ g := fun h => Blk.ne_ hg hp (by decide) h.symm
  have lg := hg.lt
  have lp := hp.lt
  have G := Lib.hid hg
  clear hg hp
  cases infl with
  | false =>
    go_enter Try.func19, Try.ntmps19
    go_wp2
    refine bodyPost_ret (results_none rfl _ _ _) rfl ?_
    exact ⟨rfl, G.out.alloc _, only_alloc (World.grownBy.refl w _) _⟩
  | true =>
    go_enter Try.func19, Try.ntmps19
    go_wp2
    go_region
    go_wp2
    · go_end0
      exact ⟨rfl, Blk.to (by repeat (with_reducible first | exact G.out | apply Blk.drew | apply Blk.alloc | apply Blk.set_)) (by rfl), by repeat (with_reducible first | exact World.grownBy.refl w _ | apply only_drew | apply only_alloc | refine only_setCell ?_ (.inl rfl) _)⟩
    · go_end0
      have h1 : c.one = false := by assumption
      exact ⟨rfl, (((G.out.set_ 2 _).alloc _).drew).to (by simp [ccells, C.sent, h1]), only_drew (only_alloc (only_setCell (World.grownBy.refl w _) (.inl rfl) _) _)⟩

set_option maxHeartbeats 400000 in
theorem drop_any (g p : Nat) (c : C) (num size time : Int) (el infl : Bool) (w : World) (hg : Blk w g 59 (ccells c)) (hp : Blk w p 69 (pcells num size time el infl)) (b0 : -1000000000000 < c.fl) (b1 : c.fl < 1000000000000) (s0 : 0 ≤ size) (s1 : size ≤ 65535) :
    Calls Try.prog 22 #[.pointer (some ⟨g, 0, none⟩), .pointer (some ⟨p, 0, none⟩)] w fun r w' => r = .returned (.tuple #[]) ∧ Blk w' g 59 (ccells (c.drop size infl)) ∧ w.grownBy w' (some g) := by
  have p1 : w.cell? ⟨p, 1, none⟩ = some (.int .i64 size) := hp.cellAt 1 rfl
  have p5 : w.cell? ⟨p, 5, none⟩ = some (.bool infl) := hp.cellAt 5 rfl
  have c2 : w.cell? ⟨g, 2, none⟩ = some (.int .i64 c.fl) := hg.cellAt 2 rfl
  have f2 := hg.frozen 2
  have hne : p ≠ g := fun h => Blk.ne_ hg hp (by decide) h.symm
  have G := Lib.hid hg
  clear hg hp
  cases infl with
  | false =>
    go_enter Try.func22, Try.ntmps22
    go_wp2
    go_end0
    exact ⟨rfl, G.out, World.grownBy.refl w _⟩
  | true =>
    go_enter Try.func22, Try.ntmps22
    go_wp2
    go_region
    go_wp2
    go_end0
    exact ⟨rfl, (G.out.set_ 2 _).drew, only_drew (only_setCell (World.grownBy.refl w _) (.inl rfl) _)⟩

set_option maxHeartbeats 400000 in
theorem und_any (g : Nat) (c : C) (v : Bool) (w : World) (hg : Blk w g 59 (ccells c)) :
    Calls Try.prog 24 #[.pointer (some ⟨g, 0, none⟩), .bool v] w fun r w' => r = .returned (.tuple #[]) ∧ Blk w' g 59 (ccells { c with und := v }) ∧ w.grownBy w' (some g) := by
  have c9 : w.cell? ⟨g, 9, none⟩ = some (.bool c.und) := hg.cellAt 9 rfl
  have f9 := hg.frozen 9
  have G := Lib.hid hg
  clear hg
  by_cases h : c.und = v
  · have h1 : (c.und == v) = true := by simp [h]
    have H := Lib.hid h
    clear h
    go_enter Try.func24, Try.ntmps24
    go_wp2
    refine bodyPost_ret (results_none rfl _ _ _) rfl ?_
    exact ⟨rfl, G.out.to (by simp [ccells, H.out]), World.grownBy.refl w _⟩
  · have h1 : (c.und == v) = false := by simpa using h
    clear h
    go_enter Try.func24, Try.ntmps24
    go_wp2
    go_end0
    exact ⟨rfl, G.out.set_ 9 _, only_setCell (World.grownBy.refl w _) (.inl rfl) _⟩

set_option maxHeartbeats 400000 in
theorem min_any (g : Nat) (c : C) (w : World) (hg : Blk w g 59 (ccells c)) (b0 : 0 ≤ c.maxd) (b1 : c.maxd < 1000000) :
    Calls Try.prog 26 #[.pointer (some ⟨g, 0, none⟩)] w fun r w' => r = .returned (.int .i64 (2 * c.maxd)) ∧ w = w' := by
  have c0 : w.cell? ⟨g, 0, none⟩ = some (.int .i64 c.maxd) := hg.cellAt 0 rfl
  clear hg
  go_enter Try.func26, Try.ntmps26
  go_wp2
  go_ret
  exact ⟨rfl, rfl⟩

def C.can (c : C) : Bool := c.one || decide (c.fl + c.maxd ≤ c.cw)
set_option maxHeartbeats 400000 in
theorem can_any (g : Nat) (c : C) (w : World) (hg : Blk w g 59 (ccells c)) (b0 : 0 ≤ c.maxd) (b1 : c.maxd < 1000000) (d0 : -1000000000000 < c.fl) (d1 : c.fl < 1000000000000) :
    Calls Try.prog 15 #[.pointer (some ⟨g, 0, none⟩)] w fun r w' => r = .returned (.bool c.can) ∧ ∃ n, w' = w.drewN n := by
  have c0 : w.cell? ⟨g, 0, none⟩ = some (.int .i64 c.maxd) := hg.cellAt 0 rfl
  have c1 : w.cell? ⟨g, 1, none⟩ = some (.int .i64 c.cw) := hg.cellAt 1 rfl
  have c2 : w.cell? ⟨g, 2, none⟩ = some (.int .i64 c.fl) := hg.cellAt 2 rfl
  have c7 : w.cell? ⟨g, 7, none⟩ = some (.bool c.one) := hg.cellAt 7 rfl
  clear hg
  by_cases h : c.one = true
  · have hr : c.can = true := by simp [C.can, h]
    rw [h] at c7
    have HR := Lib.hid hr
    clear h hr
    go_enter Try.func15, Try.ntmps15
    go_wp2
    go_ret
    exact ⟨ret_bool HR.out.symm, 0, rfl⟩
  · have h' : c.one = false := by simpa using h
    have hr : c.can = decide (c.fl + c.maxd ≤ c.cw) := by simp [C.can, h']
    rw [h'] at c7
    have HR := Lib.hid hr
    clear h hr h'
    go_enter Try.func15, Try.ntmps15
    go_wp2
    go_quiet (fail)
    go_wp2
    go_ret
    exact ⟨ret_bool HR.out.symm, _, rfl⟩
end Go.Proofs.Ytehplpakbfnhbaa
