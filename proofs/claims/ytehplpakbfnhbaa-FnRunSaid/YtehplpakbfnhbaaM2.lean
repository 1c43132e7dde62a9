/-
  The plain law of FnLossHalves: a lost packet, sent behind the beginning of the last recovery, halves the window.
-/
import Derived.Test.YtehplpakbfnhbaaZ2
namespace Go.Proofs.Ytehplpakbfnhbaa
set_option linter.unusedVariables false

theorem lostP_same (c : C) (k : Nat) (num time : Int) (v : Bool) : (c.lostP k num time v).maxd = c.maxd ∧ (c.lostP k num time v).rs = c.rs ∧ (c.lostP k num time v).cw = c.cw ∧ (c.lostP k num time v).ll = c.ll := by
  unfold C.lostP C.setP
  (repeat' split) <;> exact ⟨rfl, rfl, rfl, rfl⟩
theorem lostF_same (c : C) (size time : Int) (v : Bool) : (c.lostF size time v).maxd = c.maxd ∧ (c.lostF size time v).rs = c.rs ∧ (c.lostF size time v).cw = c.cw := by
  unfold C.lostF
  (repeat' split) <;> exact ⟨rfl, rfl, rfl⟩
theorem stepC_maxd (c : C) (R0 : R) (o : Op) : (stepC c R0 o).maxd = c.maxd := by
  unfold stepC
  split
  · unfold C.sent; split <;> rfl
  · split
    · unfold C.acked; (repeat' split) <;> rfl
    · split
      · unfold C.lost; rw [(lostF_same _ _ _ _).1, (lostP_same _ _ _ _ _).1]
      · split
        · unfold C.drop; split <;> rfl
        · split
          · unfold C.batch C.turn; (repeat' split) <;> rfl
          · split <;> rfl
theorem stepC_rs (c : C) (R0 : R) (o : Op) : (stepC c R0 o).rs = c.rs ∨ (o.kind = 4 ∧ (stepC c R0 o).rs = o.now) := by
  unfold stepC
  split
  · left; unfold C.sent; split <;> rfl
  · split
    · left; unfold C.acked; (repeat' split) <;> rfl
    · split
      · left; unfold C.lost; rw [(lostF_same _ _ _ _).2.1, (lostP_same _ _ _ _ _).2.1]
      · split
        · left; unfold C.drop; split <;> rfl
        · split
          · rename_i h
            unfold C.batch C.turn
            split
            · right; exact ⟨h, rfl⟩
            · left; split <;> rfl
          · left; split <;> rfl
theorem sAt_maxd (s : C × R) (l : List Op) (k : Nat) : (sAt s l k).1.maxd = s.1.maxd := by
  induction k with
  | zero => rfl
  | succ k ih =>
    cases h : l[k]? with
    | none => simp [sAt, h, ih]
    | some o => rw [sAt_succ h]; exact (stepC_maxd _ _ _).trans ih
theorem sAt_rs (s : C × R) (l : List Op) (t : Int) (h0 : s.1.rs < t) (k : Nat) (h : ∀ j o, j < k → l[j]? = some o → o.kind = 4 → o.now < t) : (sAt s l k).1.rs < t := by
  induction k with
  | zero => exact h0
  | succ k ih =>
    have hi := ih fun j o hj => h j o (by omega)
    cases hl : l[k]? with
    | none => simpa [sAt, hl] using hi
    | some o =>
      rw [sAt_succ hl]
      rcases stepC_rs (sAt s l k).1 (sAt s l k).2 o with e | ⟨e4, e⟩
      · dsimp only; rw [e]; exact hi
      · dsimp only; rw [e]; exact h k o (by omega) hl e4

theorem halves {size : Int} {l : List Op} {n : Nat} {p e : Op} (hn : l.length = n) (hp2 : p.kind = 2) (hpi : p.inf = true) (he4 : e.kind = 4) (hpt : 0 ≤ p.time)
    (hlast : ∀ k o, n = k + 1 → l[k]? = some o → o.kind = 4) (hb : ∀ o ∈ l, o.kind = 4 → o.now < p.time) :
    (sAt (C.new size, R.new) (l ++ [p, e]) (n + 2)).1.thr = (sAt (C.new size, R.new) (l ++ [p, e]) n).1.cw / 2 ∧
    (sAt (C.new size, R.new) (l ++ [p, e]) (n + 2)).1.cw = max ((sAt (C.new size, R.new) (l ++ [p, e]) n).1.cw / 2) (2 * size) ∧
    (sAt (C.new size, R.new) (l ++ [p, e]) (n + 2)).1.inr = true ∧ (sAt (C.new size, R.new) (l ++ [p, e]) (n + 2)).1.one = true ∧ (sAt (C.new size, R.new) (l ++ [p, e]) (n + 2)).1.can = true := by
  have g : ∀ j o, j < n → (l ++ [p, e])[j]? = some o → l[j]? = some o := fun j o hj h => by rwa [List.getElem?_append_left (by omega)] at h
  have h1 : (l ++ [p, e])[n]? = some p := by rw [List.getElem?_append_right (by omega), hn]; simp
  have h2 : (l ++ [p, e])[n + 1]? = some e := by rw [List.getElem?_append_right (by omega), hn]; simp
  have hrs : (sAt (C.new size, R.new) (l ++ [p, e]) n).1.rs < p.time := sAt_rs _ _ _ (show (-1 : Int) < p.time by omega) n fun j o hj h h4 => hb o (List.mem_of_getElem? (g j o hj h)) h4
  have hll : (sAt (C.new size, R.new) (l ++ [p, e]) n).1.ll = -1 := by
    cases n with
    | zero => rfl
    | succ k =>
      have hk : l[k]? = some l[k] := List.getElem?_eq_getElem (by omega)
      have hk' : (l ++ [p, e])[k]? = some l[k] := by rw [List.getElem?_append_left (by omega)]; exact hk
      rw [sAt_succ hk']
      have h4 := hlast k _ rfl hk
      unfold stepC
      rw [h4]
      simp [C.batch]
  have hm := sAt_maxd (C.new size, R.new) (l ++ [p, e]) n
  rw [sAt_succ h2, sAt_succ h1]
  generalize sAt (C.new size, R.new) (l ++ [p, e]) n = s at hrs hll hm ⊢
  obtain ⟨c, r⟩ := s
  dsimp only at hrs hll hm ⊢
  have e1 : stepC c r p = c.lost p.space.toNat p.num p.size p.time p.el p.inf r.first := by unfold stepC; rw [hp2]; simp
  rw [e1]
  have e2 : ∀ c2 r2, stepC c2 r2 e = c2.batch e.now := fun c2 r2 => by unfold stepC; rw [he4]; simp
  rw [e2]
  unfold C.lost
  obtain ⟨a1, a2, a3, a4⟩ := lostP_same c p.space.toNat p.num p.time (validB p.el r.first p.time)
  generalize c.lostP p.space.toNat p.num p.time (validB p.el r.first p.time) = c1 at a1 a2 a3 a4
  have e3 : c1.lostF p.size p.time p.inf = { c1 with fl := c1.fl - p.size, ll := p.time } := by
    unfold C.lostF
    rw [hpi, if_pos rfl, if_pos (by omega)]
  rw [e3]
  have e4 : lossB p.time c1.rs = true := by
    unfold lossB
    rw [decide_eq_false (show ¬ p.time < 0 by omega), decide_eq_false (show ¬ p.time < c1.rs by omega)]
    rfl
  have e5 : (C.batch { c1 with fl := c1.fl - p.size, ll := p.time } e.now) = { (C.halved { c1 with fl := c1.fl - p.size, ll := p.time } e.now) with ll := -1 } := by
    unfold C.batch C.turn
    dsimp only
    rw [if_pos e4]
  rw [e5]
  refine ⟨?_, ?_, rfl, rfl, rfl⟩
  · show c1.cw / 2 = c.cw / 2
    rw [a3]
  · show max (c1.cw / 2) (2 * c1.maxd) = max (c.cw / 2) (2 * size)
    rw [a3, a1, hm]
    rfl
end Go.Proofs.Ytehplpakbfnhbaa
