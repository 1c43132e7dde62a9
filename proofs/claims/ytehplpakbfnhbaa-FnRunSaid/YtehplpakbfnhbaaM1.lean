/-
  The machine of the calls in plain numbers: a step for each call, and the bounds that every step keeps.
-/
import Derived.Test.YtehplpakbfnhbaaC4
import Derived.Test.YtehplpakbfnhbaaC8
namespace Go.Proofs.Ytehplpakbfnhbaa
set_option linter.unusedVariables false

structure Op where
  kind : Int
  space : Int
  now : Int
  time : Int
  num : Int
  size : Int
  el : Bool
  inf : Bool
  v : Bool
  lat : Int
  del : Int
  lim : Int
def opcells (o : Op) : List Value := [.int .i64 o.kind, .int .i64 o.space, .int .i64 o.now, .int .i64 o.time, .int .i64 o.num, .int .i64 o.size, .bool o.el, .bool o.inf, .bool o.v, .int .i64 o.lat, .int .i64 o.del, .int .i64 o.lim]

/-- The calls of which the statements speak. -/
structure Good (o : Op) : Prop where
  k0 : 0 ≤ o.kind
  k1 : o.kind ≤ 6
  s0 : 0 ≤ o.space
  s1 : o.space ≤ 2
  z0 : 0 ≤ o.size
  z1 : o.size ≤ 65535
  n0 : 0 ≤ o.now
  n1 : o.now < 3000000
  t0 : 0 ≤ o.time
  t1 : o.time < 3000000
  u0 : 0 ≤ o.num
  u1 : o.num < 4611686018427387904
  l0 : 0 ≤ o.lat
  l1 : o.lat ≤ 1099511627776
  d0 : 0 ≤ o.del
  d1 : o.del ≤ 1099511627776
  m0 : 0 ≤ o.lim
  m1 : o.lim ≤ 1099511627776

def stepC (c : C) (R0 : R) (o : Op) : C :=
  if o.kind = 0 then c.sent o.size o.inf
  else if o.kind = 1 then c.acked o.size o.time o.inf
  else if o.kind = 2 then c.lost o.space.toNat o.num o.size o.time o.el o.inf R0.first
  else if o.kind = 3 then c.drop o.size o.inf
  else if o.kind = 4 then c.batch o.now
  else if o.kind = 5 then { c with und := o.v }
  else c
def stepR (R0 : R) (o : Op) : R := if o.kind = 6 then R0.sample o.now o.v o.lat o.del o.lim else R0

structure CInv (n : Int) (c : C) : Prop where
  m0 : 1200 ≤ c.maxd
  m1 : c.maxd ≤ 65527
  f0 : -(65535 * n) ≤ c.fl
  f1 : c.fl ≤ 65535 * n
  w0 : 2 * c.maxd ≤ c.cw
  w1 : c.cw + c.pend ≤ 700000 + 65535 * n
  p0 : 0 ≤ c.pend
  t0 : 0 ≤ c.thr
  t1 : c.thr ≤ 9223372036854775807
  r0 : -1 ≤ c.rs
  r1 : c.rs < 3000000
  l0 : -1 ≤ c.ll
  l1 : c.ll < 3000000
  pi : c.PInv
  qi : ∀ k, c.ps k < 0 → c.pn k < 0
structure RInv (R0 : R) : Prop where
  m0 : -1 ≤ R0.mn
  m1 : R0.mn ≤ 1099511627776
  s0 : 0 ≤ R0.sm
  s1 : R0.sm ≤ 1099511627776
  v0 : 0 ≤ R0.var
  v1 : R0.var ≤ 1099511627776
  f0 : -1 ≤ R0.first
  f1 : R0.first < 3000000

theorem grow_b (m : Int) (h : 0 ≤ m) : ∀ (n : Nat) (p q : Int), 0 ≤ p → 2 * m ≤ q → 0 < q → 0 ≤ (grow m n p q).1 ∧ 2 * m ≤ (grow m n p q).2 ∧ (grow m n p q).1 + (grow m n p q).2 ≤ p + q := by
  intro n
  induction n with
  | zero => intro p q h0 h1 h2; exact ⟨h0, h1, Int.le_refl _⟩
  | succ n ih =>
    intro p q h0 h1 h2
    unfold grow
    by_cases hq : q < p
    · rw [if_pos hq]
      obtain ⟨a, b, d⟩ := ih (p - q) (q + m) (by omega) (by omega) (by omega)
      exact ⟨a, b, by omega⟩
    · rw [if_neg hq]; exact ⟨h0, h1, Int.le_refl _⟩

theorem CInv.new (size : Int) (h0 : 1200 ≤ size) (h1 : size ≤ 65527) : CInv 0 (C.new size) := by
  refine ⟨h0, h1, ?_, ?_, ?_, ?_, ?_, ?_, ?_, ?_, ?_, ?_, ?_, ?_, ?_⟩ <;> (try simp only [C.new]) <;> (try omega)
  · intro k
    refine ⟨?_, ?_, ?_, ?_, ?_⟩ <;> (rcases k with _ | _ | k <;> simp [C.ps, C.pe])
  · intro k _
    rcases k with _ | _ | k <;> simp [C.pn]
theorem RInv.new : RInv R.new := by
  refine ⟨?_, ?_, ?_, ?_, ?_, ?_, ?_, ?_⟩ <;> (simp [R.new])

theorem sample_inv {R0 : R} (h : RInv R0) {o : Op} (g : Good o) : RInv (R0.sample o.now o.v o.lat o.del o.lim) := by
  have h1 := h.m0; have h2 := h.m1; have h3 := h.s0; have h4 := h.s1; have h5 := h.v0; have h6 := h.v1; have h7 := h.f0; have h8 := h.f1
  have g1 := g.n0; have g2 := g.n1; have g3 := g.l0; have g4 := g.l1; have g5 := g.d0; have g6 := g.d1; have g7 := g.m0; have g8 := g.m1
  unfold R.sample
  by_cases hm : R0.mn < 0
  · rw [if_pos hm]
    refine ⟨?_, ?_, ?_, ?_, ?_, ?_, ?_, ?_⟩ <;> dsimp only <;> omega
  · rw [if_neg hm]
    have hd : 0 ≤ (if o.v = true then min o.del o.lim else o.del) := by split <;> omega
    have ha : 0 ≤ R0.adj o.v o.lat o.del o.lim ∧ R0.adj o.v o.lat o.del o.lim ≤ 1099511627776 := by
      unfold R.adj
      generalize (if o.v = true then min o.del o.lim else o.del) = d at hd ⊢
      split <;> omega
    generalize R0.adj o.v o.lat o.del o.lim = a at ha ⊢
    obtain ⟨b0, b1⟩ := absI_b (R0.sm - a) 1099511627776 (by omega) (by omega)
    refine ⟨?_, ?_, ?_, ?_, ?_, ?_, ?_, ?_⟩ <;> dsimp only <;> omega

theorem stepR_inv {R0 : R} (h : RInv R0) {o : Op} (g : Good o) : RInv (stepR R0 o) := by
  unfold stepR
  split
  · exact sample_inv h g
  · exact h

theorem lostP_inv {n : Int} {c : C} (h : CInv n c) {o : Op} (g : Good o) (v : Bool) (k : Nat) : CInv n (c.lostP k o.num o.time v) := by
  obtain ⟨m0, m1, f0, f1, w0, w1, p0, t0, t1, r0, r1, l0, l1, pi, qi⟩ := h
  have g1 := g.t0; have g2 := g.t1; have g3 := g.u0
  have key : ∀ s e m, 0 ≤ s → s < 3000000 → 0 ≤ e → e < 3000000 → CInv n (c.setP k s e m) := by
    intro s e m s0 s1 e0 e1
    rcases k with _ | _ | k
    all_goals
      refine ⟨m0, m1, f0, f1, w0, w1, p0, t0, t1, r0, r1, l0, l1, ?_, ?_⟩
      · intro j
        have pj := pi j
        rcases j with _ | _ | j <;> first | exact pj | exact ⟨show (-1 : Int) ≤ s by omega, s1, show (-1 : Int) ≤ e by omega, e1, show e < 0 ↔ s < 0 by omega⟩
      · intro j hj
        have qj := qi j
        rcases j with _ | _ | j <;> first | exact qj hj | exact absurd (show s < 0 from hj) (by omega)
  obtain ⟨q0, q1, q2, q3, q4⟩ := pi k
  have q5 := qi k
  unfold C.lostP
  split
  · by_cases hn : o.num = c.pn k
    · rw [if_pos hn]
      exact key _ _ _ (by omega) q1 g1 g2
    · rw [if_neg hn]
      exact key _ _ _ g1 g2 g1 g2
  · split
    · exact key _ _ _ (by omega) q1 (by omega) q3
    · exact ⟨m0, m1, f0, f1, w0, w1, p0, t0, t1, r0, r1, l0, l1, pi, qi⟩

theorem batch_inv {n : Int} {c : C} (h : CInv n c) (n0 : 0 ≤ n) (n1 : n ≤ 1000000) (now : Int) (g1 : 0 ≤ now) (g2 : now < 3000000) : CInv n (c.batch now) := by
  obtain ⟨m0, m1, f0, f1, w0, w1, p0, t0, t1, r0, r1, l0, l1, pi, qi⟩ := h
  have key : CInv n (c.turn now) := by
    unfold C.turn
    split
    · refine ⟨m0, m1, f0, f1, ?_, ?_, ?_, ?_, ?_, ?_, ?_, l0, l1, pi, qi⟩ <;> dsimp only [C.halved] <;> omega
    · split
      · obtain ⟨d0, d1⟩ := slowD_b c.thr c.cw c.pend p0
        obtain ⟨a, b, d⟩ := grow_b c.maxd (by omega) c.pend.toNat (c.pend - slowD c.thr c.cw c.pend) (c.cw + slowD c.thr c.cw c.pend) (by omega) (by omega) (by omega)
        refine ⟨m0, m1, f0, f1, b, ?_, a, t0, t1, r0, r1, l0, l1, pi, qi⟩
        dsimp only [C.grown]
        omega
      · exact ⟨m0, m1, f0, f1, w0, w1, p0, t0, t1, r0, r1, l0, l1, pi, qi⟩
  obtain ⟨m0, m1, f0, f1, w0, w1, p0, t0, t1, r0, r1, l0, l1, pi, qi⟩ := key
  exact ⟨m0, m1, f0, f1, w0, w1, p0, t0, t1, r0, r1, show (-1 : Int) ≤ -1 by omega, show (-1 : Int) < 3000000 by omega, pi, qi⟩

theorem CInv.more {n : Int} {c : C} (h : CInv n c) : CInv (n + 1) c := by
  obtain ⟨m0, m1, f0, f1, w0, w1, p0, t0, t1, r0, r1, l0, l1, pi, qi⟩ := h
  exact ⟨m0, m1, by omega, by omega, w0, by omega, p0, t0, t1, r0, r1, l0, l1, pi, qi⟩

theorem stepC_inv {n : Int} {c : C} {R0 : R} (h : CInv n c) (n0 : 0 ≤ n) (n1 : n ≤ 1000000) {o : Op} (g : Good o) : CInv (n + 1) (stepC c R0 o) := by
  have z0 := g.z0; have z1 := g.z1; have g1 := g.t0; have g2 := g.t1
  unfold stepC
  split
  · obtain ⟨m0, m1, f0, f1, w0, w1, p0, t0, t1, r0, r1, l0, l1, pi, qi⟩ := h
    unfold C.sent
    split
    · exact ⟨m0, m1, show _ ≤ c.fl + o.size by omega, show c.fl + o.size ≤ _ by omega, w0, by dsimp only; omega, p0, t0, t1, r0, r1, l0, l1, pi, qi⟩
    · exact CInv.more ⟨m0, m1, f0, f1, w0, w1, p0, t0, t1, r0, r1, l0, l1, pi, qi⟩
  · split
    · obtain ⟨m0, m1, f0, f1, w0, w1, p0, t0, t1, r0, r1, l0, l1, pi, qi⟩ := h
      unfold C.acked
      split
      · split
        · exact ⟨m0, m1, show _ ≤ c.fl - o.size by omega, show c.fl - o.size ≤ _ by omega, w0, by dsimp only; omega, p0, t0, t1, r0, r1, l0, l1, pi, qi⟩
        · split
          · exact ⟨m0, m1, show _ ≤ c.fl - o.size by omega, show c.fl - o.size ≤ _ by omega, w0, by dsimp only; omega, p0, t0, t1, r0, r1, l0, l1, pi, qi⟩
          · exact ⟨m0, m1, show _ ≤ c.fl - o.size by omega, show c.fl - o.size ≤ _ by omega, w0, by dsimp only; omega, show 0 ≤ c.pend + o.size by omega, t0, t1, r0, r1, l0, l1, pi, qi⟩
      · exact CInv.more ⟨m0, m1, f0, f1, w0, w1, p0, t0, t1, r0, r1, l0, l1, pi, qi⟩
    · split
      · unfold C.lost
        have hL := lostP_inv h g (validB o.el R0.first o.time) o.space.toNat
        generalize c.lostP o.space.toNat o.num o.time (validB o.el R0.first o.time) = c1 at hL
        obtain ⟨m0, m1, f0, f1, w0, w1, p0, t0, t1, r0, r1, l0, l1, pi, qi⟩ := hL
        unfold C.lostF
        split
        · refine ⟨m0, m1, show _ ≤ c1.fl - o.size by omega, show c1.fl - o.size ≤ _ by omega, w0, by dsimp only; omega, p0, t0, t1, r0, r1, ?_, ?_, pi, qi⟩ <;> dsimp only <;> split <;> omega
        · exact CInv.more ⟨m0, m1, f0, f1, w0, w1, p0, t0, t1, r0, r1, l0, l1, pi, qi⟩
      · split
        · obtain ⟨m0, m1, f0, f1, w0, w1, p0, t0, t1, r0, r1, l0, l1, pi, qi⟩ := h
          unfold C.drop
          split
          · exact ⟨m0, m1, show _ ≤ c.fl - o.size by omega, show c.fl - o.size ≤ _ by omega, w0, by dsimp only; omega, p0, t0, t1, r0, r1, l0, l1, pi, qi⟩
          · exact CInv.more ⟨m0, m1, f0, f1, w0, w1, p0, t0, t1, r0, r1, l0, l1, pi, qi⟩
        · split
          · exact (batch_inv h n0 n1 o.now g.n0 g.n1).more
          · split
            · obtain ⟨m0, m1, f0, f1, w0, w1, p0, t0, t1, r0, r1, l0, l1, pi, qi⟩ := h
              exact CInv.more ⟨m0, m1, f0, f1, w0, w1, p0, t0, t1, r0, r1, l0, l1, pi, qi⟩
            · exact h.more
end Go.Proofs.Ytehplpakbfnhbaa
