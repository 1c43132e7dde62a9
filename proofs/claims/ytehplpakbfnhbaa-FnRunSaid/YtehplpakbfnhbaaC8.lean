/-
  What packetBatchEnd does to the controller's block: its first part.
-/
import Derived.Test.YtehplpakbfnhbaaC5
import Derived.Deep.LoopGhost
namespace Go.Proofs.Ytehplpakbfnhbaa
open Go.RowKit
set_option linter.unusedVariables false
set_option linter.unusedSimpArgs false

/-- The window's growth behind slow start. -/
def grow (m : Int) : Nat → Int → Int → Int × Int
  | 0, p, q => (p, q)
  | n + 1, p, q => if q < p then grow m n (p - q) (q + m) else (p, q)
def slowD (thr cw pend : Int) : Int := if cw < thr then min (thr - cw) pend else 0
def C.grown (c : C) : C :=
  { c with inr := false, pend := (grow c.maxd c.pend.toNat (c.pend - slowD c.thr c.cw c.pend) (c.cw + slowD c.thr c.cw c.pend)).1, cw := (grow c.maxd c.pend.toNat (c.pend - slowD c.thr c.cw c.pend) (c.cw + slowD c.thr c.cw c.pend)).2 }
def lossB (ll rs : Int) : Bool := !decide (ll < 0) && !decide (ll < rs)
def C.halved (c : C) (now : Int) : C := { c with rs := now, thr := c.cw / 2, cw := max (c.cw / 2) (2 * c.maxd), one := true, pend := 0, inr := true }
def C.turn (c : C) (now : Int) : C := if lossB c.ll c.rs = true then c.halved now else if 0 < c.pend then c.grown else c
def C.batch (c : C) (now : Int) : C := { c.turn now with ll := -1 }
theorem turn_ll (c : C) (now : Int) : (c.turn now).ll = c.ll := by unfold C.turn; (repeat' split) <;> rfl
theorem turn_ps (c : C) (now : Int) (k : Nat) : (c.turn now).ps k = c.ps k := by
  unfold C.turn
  (repeat' split) <;> (unfold C.ps; (repeat' split) <;> rfl)
theorem turn_pe (c : C) (now : Int) (k : Nat) : (c.turn now).pe k = c.pe k := by
  unfold C.turn
  (repeat' split) <;> (unfold C.pe; (repeat' split) <;> rfl)
/-- The ranges of lost packets: both ends are set, or none. -/
def C.PInv (c : C) : Prop := ∀ k, -1 ≤ c.ps k ∧ c.ps k < 3000000 ∧ -1 ≤ c.pe k ∧ c.pe k < 3000000 ∧ (c.pe k < 0 ↔ c.ps k < 0)
theorem slowD_b (thr cw pend : Int) (h : 0 ≤ pend) : 0 ≤ slowD thr cw pend ∧ slowD thr cw pend ≤ pend := by unfold slowD; split <;> omega
theorem min_cell (g : Nat) (m : Int) (w : World) (c0 : w.cell? ⟨g, 0, none⟩ = some (.int .i64 m)) (b0 : 0 ≤ m) (b1 : m < 1000000) :
    Calls Try.prog 26 #[.pointer (some ⟨g, 0, none⟩)] w fun r w' => r = .returned (.int .i64 (2 * m)) ∧ w = w' := by
  go_enter Try.func26, Try.ntmps26
  go_wp2
  go_ret
  exact ⟨rfl, rfl⟩

end Go.Proofs.Ytehplpakbfnhbaa
