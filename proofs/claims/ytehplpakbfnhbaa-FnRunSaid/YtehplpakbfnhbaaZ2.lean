/-
  What ZZRun keeps in memory from call to call.
-/
import Derived.Test.YtehplpakbfnhbaaZ1
import Derived.Test.YtehplpakbfnhbaaM1
import Derived.Deep.AppendLies
namespace Go.Proofs.Ytehplpakbfnhbaa
open Go.RowKit
set_option linter.unusedVariables false

/-- Between two calls: the boxes of c and r, the controller, the estimates, the states so far. -/
structure Inv (w W : World) (bc br g r : Nat) (c : C) (R0 : R) (ov : Value) (m : Nat) (xs : List Value) : Prop where
  kc : Blk W bc 46 #[.pointer (some ⟨g, 0, none⟩)]
  kr : Blk W br 48 #[.pointer (some ⟨r, 0, none⟩)]
  gc : Blk W g 59 (ccells c)
  gr : Blk W r 54 (rcells R0)
  ow : W.ownsRow w.heap.size 43 11 ov m xs
  be : Below w.heap.size w W
  gg : w.heap.size ≤ g
  rr : w.heap.size ≤ r

section
variable {w W W' : World} {bc br g r : Nat} {c c' : C} {R0 R1 : R} {ov : Value} {m : Nat} {xs : List Value}
theorem Inv.only (h : Inv w W bc br g r c R0 ov m xs) {row : Option Nat} (hO : W.grownBy W' row) (h1 : row ≠ some bc) (h2 : row ≠ some br) (h3 : row ≠ some g) (h4 : row ≠ some r) (h5 : ov.ownBlock = none ∨ ov.ownBlock ≠ row) (h6 : ∀ k, row = some k → w.heap.size ≤ k) :
    Inv w W' bc br g r c R0 ov m xs :=
  ⟨h.kc.grown hO (Ne.symm h1), h.kr.grown hO (Ne.symm h2), h.gc.grown hO (Ne.symm h3), h.gr.grown hO (Ne.symm h4), h.ow.kept hO h5, h.be.grown hO h.be.size h6, h.gg, h.rr⟩
theorem Inv.below (h : Inv w W bc br g r c R0 ov m xs) (hb : Below W.heap.size W W') : Inv w W' bc br g r c R0 ov m xs := by
  refine h.only (only_of_below hb none) (by simp) (by simp) (by simp) (by simp) ?_ (by simp)
  cases hv : ov.ownBlock <;> simp
theorem Inv.drew (h : Inv w W bc br g r c R0 ov m xs) : Inv w W.drew bc br g r c R0 ov m xs := h.below ((Below.refl _ _).drew)
theorem Inv.drewN (h : Inv w W bc br g r c R0 ov m xs) (n : Nat) : Inv w (W.drewN n) bc br g r c R0 ov m xs := h.below (below_drewN (Below.refl _ _) n)
theorem Inv.alloc (h : Inv w W bc br g r c R0 ov m xs) (o : Obj) : Inv w (W.alloc o) bc br g r c R0 ov m xs := h.below ((Below.refl _ _).alloc (Nat.le_refl _) o)
theorem some_ne {a b : Nat} (h : a ≠ b) : (some a : Option Nat) ≠ some b := fun e => h (by injection e)
theorem Inv.setC (h : Inv w W bc br g r c R0 ov m xs) (hG : Blk W' g 59 (ccells c')) (hO : W.grownBy W' (some g)) : Inv w W' bc br g r c' R0 ov m xs :=
  ⟨h.kc.grown hO (some_ne (Blk.ne_ h.kc h.gc (by decide))), h.kr.grown hO (some_ne (Blk.ne_ h.kr h.gc (by decide))), hG, h.gr.grown hO (some_ne (Blk.ne_ h.gr h.gc (by decide))),
    h.ow.kept hO (.inr (own_blk_ne h.ow h.gc (by decide))), h.be.grown hO h.be.size (fun k e => by injection e with e; have := h.gg; omega), h.gg, h.rr⟩
theorem Inv.setR (h : Inv w W bc br g r c R0 ov m xs) (hG : Blk W' r 54 (rcells R1)) (hO : W.grownBy W' (some r)) : Inv w W' bc br g r c R1 ov m xs :=
  ⟨h.kc.grown hO (some_ne (Blk.ne_ h.kc h.gr (by decide))), h.kr.grown hO (some_ne (Blk.ne_ h.kr h.gr (by decide))), h.gc.grown hO (some_ne (Blk.ne_ h.gc h.gr (by decide))), hG,
    h.ow.kept hO (.inr (own_blk_ne h.ow h.gr (by decide))), h.be.grown hO h.be.size (fun k e => by injection e with e; have := h.rr; omega), h.gg, h.rr⟩
theorem Inv.app {v' : Value} {m' : Nat} {ys : List Value} (h : Inv w W bc br g r c R0 ov m xs) (hn : W'.ownsRow w.heap.size 43 11 v' m' ys) (hO : W.grownBy W' ov.ownBlock) : Inv w W' bc br g r c R0 v' m' ys :=
  ⟨h.kc.grown hO (Ne.symm (own_blk_ne h.ow h.kc (by decide))), h.kr.grown hO (Ne.symm (own_blk_ne h.ow h.kr (by decide))), h.gc.grown hO (Ne.symm (own_blk_ne h.ow h.gc (by decide))), h.gr.grown hO (Ne.symm (own_blk_ne h.ow h.gr (by decide))),
    hn, h.be.grown hO h.be.size (fun k e => (h.ow.lt k e).1), h.gg, h.rr⟩
end

/-- In a round: the call's own block and the packet's besides. -/
structure Rnd (w W : World) (bc br g r : Nat) (c : C) (R0 : R) (ov : Value) (m : Nat) (xs : List Value) (ob : Nat) (o : Op) (pb : Nat) : Prop where
  inv : Inv w W bc br g r c R0 ov m xs
  ko : Blk W ob 40 (opcells o).toArray
  kp : Blk W pb 69 (pcells o.num o.size o.time o.el o.inf)
section
variable {w W W' : World} {bc br g r : Nat} {c c' : C} {R0 R1 : R} {ov : Value} {m : Nat} {xs : List Value} {ob pb : Nat} {o : Op}
theorem Rnd.below (h : Rnd w W bc br g r c R0 ov m xs ob o pb) (hb : Below W.heap.size W W') : Rnd w W' bc br g r c R0 ov m xs ob o pb := ⟨h.inv.below hb, h.ko.below hb h.ko.lt, h.kp.below hb h.kp.lt⟩
theorem Rnd.drew (h : Rnd w W bc br g r c R0 ov m xs ob o pb) : Rnd w W.drew bc br g r c R0 ov m xs ob o pb := ⟨h.inv.drew, h.ko, h.kp⟩
theorem Rnd.setC (h : Rnd w W bc br g r c R0 ov m xs ob o pb) (hG : Blk W' g 59 (ccells c')) (hO : W.grownBy W' (some g)) : Rnd w W' bc br g r c' R0 ov m xs ob o pb :=
  ⟨h.inv.setC hG hO, h.ko.grown hO (some_ne (Blk.ne_ h.ko h.inv.gc (by decide))), h.kp.grown hO (some_ne (Blk.ne_ h.kp h.inv.gc (by decide)))⟩
theorem Rnd.setR (h : Rnd w W bc br g r c R0 ov m xs ob o pb) (hG : Blk W' r 54 (rcells R1)) (hO : W.grownBy W' (some r)) : Rnd w W' bc br g r c R1 ov m xs ob o pb :=
  ⟨h.inv.setR hG hO, h.ko.grown hO (some_ne (Blk.ne_ h.ko h.inv.gr (by decide))), h.kp.grown hO (some_ne (Blk.ne_ h.kp h.inv.gr (by decide)))⟩
end

/-- The state behind k calls, and all states till then as cells. -/
def sAt (s : C × R) (l : List Op) : Nat → C × R
  | 0 => s
  | k + 1 => match l[k]? with
    | some o => (stepC (sAt s l k).1 (sAt s l k).2 o, stepR (sAt s l k).2 o)
    | none => sAt s l k
def outs (s : C × R) (l : List Op) (k : Nat) : List Value := (List.range (k + 1)).flatMap fun j => (ocells (sAt s l j).1 (sAt s l j).2).toList
theorem outs_succ (s : C × R) (l : List Op) (k : Nat) : outs s l (k + 1) = outs s l k ++ (ocells (sAt s l (k + 1)).1 (sAt s l (k + 1)).2).toList := by
  unfold outs
  rw [List.range_succ, List.flatMap_append]
  simp
theorem outs_zero (s : C × R) (l : List Op) : outs s l 0 = (ocells s.1 s.2).toList := by
  simp [outs, List.range_succ, sAt]
theorem sAt_succ {s : C × R} {l : List Op} {k : Nat} {o : Op} (h : l[k]? = some o) : sAt s l (k + 1) = (stepC (sAt s l k).1 (sAt s l k).2 o, stepR (sAt s l k).2 o) := by
  simp [sAt, h]
theorem sAt_inv {size : Int} (h0 : 1200 ≤ size) (h1 : size ≤ 65527) {l : List Op} (hl : l.length ≤ 1000) (hg : ∀ o ∈ l, Good o) : ∀ k, k ≤ l.length → CInv k (sAt (C.new size, R.new) l k).1 ∧ RInv (sAt (C.new size, R.new) l k).2 := by
  intro k
  induction k with
  | zero => intro _; exact ⟨CInv.new size h0 h1, RInv.new⟩
  | succ k ih =>
    intro hk
    obtain ⟨a, b⟩ := ih (by omega)
    have ho : l[k]? = some l[k] := List.getElem?_eq_getElem (by omega)
    have hgo := hg _ (List.getElem_mem (show k < l.length by omega))
    rw [sAt_succ ho]
    exact ⟨by have := stepC_inv a (by omega) (by omega) hgo (R0 := (sAt (C.new size, R.new) l k).2); simpa using this, stepR_inv b hgo⟩
end Go.Proofs.Ytehplpakbfnhbaa
