/-
  The state's name; a new controller; new estimates.
-/
import Derived.Test.YtehplpakbfnhbaaC1
namespace Go.Proofs.Ytehplpakbfnhbaa
open Go.RowKit
set_option linter.unusedVariables false

def nRec : ByteArray := ⟨#[114, 101, 99, 111, 118, 101, 114, 121]⟩
def nLim : ByteArray := ⟨#[97, 112, 112, 108, 105, 99, 97, 116, 105, 111, 110, 95, 108, 105, 109, 105, 116, 101, 100]⟩
def nSlow : ByteArray := ⟨#[115, 108, 111, 119, 95, 115, 116, 97, 114, 116]⟩
def nCong : ByteArray := ⟨#[99, 111, 110, 103, 101, 115, 116, 105, 111, 110, 95, 97, 118, 111, 105, 100, 97, 110, 99, 101]⟩
def C.name (c : C) : ByteArray := if c.inr then nRec else if c.und then nLim else if c.cw < c.thr then nSlow else nCong

set_option maxHeartbeats 1000000 in
theorem state_any (g : Nat) (c : C) (w : World) (hg : Blk w g 59 (ccells c)) :
    Calls Try.prog 16 #[.pointer (some ⟨g, 0, none⟩)] w fun r w' => r = .returned (.string c.name) ∧ ∃ n, w' = w.drewN n := by
  have c1 : w.cell? ⟨g, 1, none⟩ = some (.int .i64 c.cw) := hg.cellAt 1 rfl
  have c3 : w.cell? ⟨g, 3, none⟩ = some (.int .i64 c.thr) := hg.cellAt 3 rfl
  have c8 : w.cell? ⟨g, 8, none⟩ = some (.bool c.inr) := hg.cellAt 8 rfl
  have c9 : w.cell? ⟨g, 9, none⟩ = some (.bool c.und) := hg.cellAt 9 rfl
  clear hg
  by_cases hi : c.inr = true
  · have hn : c.name = nRec := by simp [C.name, hi]
    rw [hi] at c8
    rw [hn]
    clear hi hn
    go_enter Try.func16, Try.ntmps16
    go_wp2
    go_ret
    exact ⟨rfl, 0, rfl⟩
  · have hi' : c.inr = false := by simpa using hi
    rw [hi'] at c8
    by_cases hu : c.und = true
    · have hn : c.name = nLim := by simp [C.name, hi', hu]
      rw [hu] at c9
      rw [hn]
      clear hi hi' hn hu
      go_enter Try.func16, Try.ntmps16
      go_wp2
      go_ret
      exact ⟨rfl, 0, rfl⟩
    · have hu' : c.und = false := by simpa using hu
      rw [hu'] at c9
      by_cases hl : c.cw < c.thr
      · have hn : c.name = nSlow := by simp [C.name, hi', hu', hl]
        rw [hn]
        clear hi hi' hn hu hu'
        go_enter Try.func16, Try.ntmps16
        go_wp2
        go_quiet (fail)
        go_wp2
        go_ret
        exact ⟨rfl, _, rfl⟩
      · have hn : c.name = nCong := by simp [C.name, hi', hu', hl]
        rw [hn]
        clear hi hi' hn hu hu'
        go_enter Try.func16, Try.ntmps16
        go_wp2
        go_quiet (fail)
        go_wp2
        go_ret
        exact ⟨rfl, _, rfl⟩

theorem string_any (s : ByteArray) (w : World) :
    Calls Try.prog 17 #[.string s] w fun r w' => r = .returned (.string s) ∧ w = w' := by
  go_enter Try.func17, Try.ntmps17
  go_wp2
  go_ret
  exact ⟨rfl, rfl⟩

/-- The estimates: times as numbers. -/
structure R where
  mn : Int
  latest : Int
  sm : Int
  var : Int
  first : Int
def rcells (r : R) : Array Value := #[.int .i64 r.mn, .int .i64 r.latest, .int .i64 r.sm, .int .i64 r.var, .int .u64 (tw r.first), .int .i64 (te r.first)]
def R.new : R := { mn := -1, latest := 0, sm := 333000000, var := 166500000, first := -1 }
def zcells : Array Value := #[.int .i64 0, .int .i64 0, .int .i64 0, .int .i64 0, .int .u64 0, .int .i64 0]

set_option maxHeartbeats 400000 in
theorem init_any (g : Nat) (w : World) (hg : Blk w g 54 zcells) :
    Calls Try.prog 13 #[.pointer (some ⟨g, 0, none⟩)] w fun r w' => r = .returned (.tuple #[]) ∧ Blk w' g 54 (rcells R.new) ∧ w.grownBy w' (some g) := by
  have c0 : w.cell? ⟨g, 0, none⟩ = some (.int .i64 0) := hg.cellAt 0 rfl
  have c2 : w.cell? ⟨g, 2, none⟩ = some (.int .i64 0) := hg.cellAt 2 rfl
  have c3 : w.cell? ⟨g, 3, none⟩ = some (.int .i64 0) := hg.cellAt 3 rfl
  have f0 := hg.frozen 0
  have f2 := hg.frozen 2
  have f3 := hg.frozen 3
  have G := Lib.hid hg
  clear hg
  go_enter Try.func13, Try.ntmps13
  go_wp2
  go_end0
  exact ⟨rfl, Blk.to (by repeat (with_reducible first | exact G.out | apply Blk.drew | apply Blk.alloc | apply Blk.set_)) (by rfl), by repeat (with_reducible first | exact World.grownBy.refl w _ | apply only_drew | apply only_alloc | refine only_setCell ?_ (.inl rfl) _)⟩

def C.new (size : Int) : C := { maxd := size, cw := min (10 * size) (max 14720 (2 * size)), fl := 0, thr := 9223372036854775807, rs := -1, pend := 0, one := false, inr := false, und := false, ll := -1, s0 := -1, e0 := -1, n0 := -1, s1 := -1, e1 := -1, n1 := -1, s2 := -1, e2 := -1, n2 := -1 }

set_option maxHeartbeats 2000000 in
theorem newReno_any (size : Int) (w : World) (h0 : 1200 ≤ size) (h1 : size ≤ 65527) :
    Calls Try.prog 12 #[.int .i64 size] w fun r w' => r = .returned (.pointer (some ⟨w.heap.size, 0, none⟩)) ∧ w.alloc (.cells (ccells (C.new size)) 59) = w' := by
  have key : ∀ v, min (10 * size) (max 14720 (2 * size)) = v → w.alloc (.cells #[.int .i64 size, .int .i64 v, .int .i64 0, .int .i64 9223372036854775807, .int .u64 0, .int .i64 0, .int .i64 0, .bool false, .bool false, .bool false, .int .u64 0, .int .i64 0, .int .u64 0, .int .i64 0, .int .u64 0, .int .i64 0, .int .i64 (-1), .int .u64 0, .int .i64 0, .int .u64 0, .int .i64 0, .int .i64 (-1), .int .u64 0, .int .i64 0, .int .u64 0, .int .i64 0, .int .i64 (-1)] 59) = w.alloc (.cells (ccells (C.new size)) 59) := by
    intro v hv
    subst hv
    rfl
  by_cases a1 : 14720 < 2 * size
  · have K := Lib.hid (key (2 * size) (by omega))
    clear key
    go_enter Try.func12, Try.ntmps12
    go_wp2
    refine wp_loop_rounds 4 ?_
    rw [rounds_succ]; go_wp2; rw [rounds_succ]; go_wp2; rw [rounds_succ]; go_wp2; rw [rounds_succ]; go_wp2
    go_ret
    exact ⟨rfl, K.out.symm⟩
  · by_cases a2 : 14720 < 10 * size
    · have K := Lib.hid (key 14720 (by omega))
      clear key
      go_enter Try.func12, Try.ntmps12
      go_wp2
      refine wp_loop_rounds 4 ?_
      rw [rounds_succ]; go_wp2; rw [rounds_succ]; go_wp2; rw [rounds_succ]; go_wp2; rw [rounds_succ]; go_wp2
      go_ret
      exact ⟨rfl, K.out.symm⟩
    · have K := Lib.hid (key (10 * size) (by omega))
      clear key
      go_enter Try.func12, Try.ntmps12
      go_wp2
      refine wp_loop_rounds 4 ?_
      rw [rounds_succ]; go_wp2; rw [rounds_succ]; go_wp2; rw [rounds_succ]; go_wp2; rw [rounds_succ]; go_wp2
      go_ret
      exact ⟨rfl, K.out.symm⟩
end Go.Proofs.Ytehplpakbfnhbaa
