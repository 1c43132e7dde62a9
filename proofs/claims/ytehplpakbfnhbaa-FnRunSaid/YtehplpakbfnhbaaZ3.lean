/-
  ZZRun: what it hands back.
-/
import Derived.Test.YtehplpakbfnhbaaZ2
import Derived.Test.YtehplpakbfnhbaaC2
import Derived.Test.YtehplpakbfnhbaaC6
import Derived.Test.YtehplpakbfnhbaaC7
import Derived.Deep.DeepCutAuto
import Derived.Deep.CutBlock
import Derived.Test.YtehplpakbfnhbaaC9
namespace Go.Proofs.Ytehplpakbfnhbaa
open Go.RowKit
set_option linter.unusedVariables false
set_option linter.unusedSimpArgs false

theorem Try.info43 : (Try.prog.info? 43).map (fun i => (i.zero, i.size, i.bytes)) = some (some (.agg #[.int .i64 0, .int .i64 0, .int .i64 0, .int .i64 0, .bool false, .bool false, .bool false, .string ⟨#[]⟩, .int .i64 0, .int .i64 0, .int .i64 0]), 11, 80) := by kernel_rfl

theorem stepC_k0 (c : C) (R0 : R) {o : Op} (h : o.kind = 0) : stepC c R0 o = c.sent o.size o.inf := by
  unfold stepC
  rw [h]
  simp
theorem stepR_k0 (R0 : R) {o : Op} (h : o.kind = 0) : stepR R0 o = R0 := by
  unfold stepR
  rw [h]
  simp
theorem stepC_k1 (c : C) (R0 : R) {o : Op} (h : o.kind = 1) : stepC c R0 o = c.acked o.size o.time o.inf := by
  unfold stepC
  rw [h]
  simp
theorem stepR_k1 (R0 : R) {o : Op} (h : o.kind = 1) : stepR R0 o = R0 := by
  unfold stepR
  rw [h]
  simp
theorem stepC_k2 (c : C) (R0 : R) {o : Op} (h : o.kind = 2) : stepC c R0 o = c.lost o.space.toNat o.num o.size o.time o.el o.inf R0.first := by
  unfold stepC
  rw [h]
  simp
theorem stepR_k2 (R0 : R) {o : Op} (h : o.kind = 2) : stepR R0 o = R0 := by
  unfold stepR
  rw [h]
  simp
theorem stepC_k3 (c : C) (R0 : R) {o : Op} (h : o.kind = 3) : stepC c R0 o = c.drop o.size o.inf := by
  unfold stepC
  rw [h]
  simp
theorem stepR_k3 (R0 : R) {o : Op} (h : o.kind = 3) : stepR R0 o = R0 := by
  unfold stepR
  rw [h]
  simp
theorem stepC_k4 (c : C) (R0 : R) {o : Op} (h : o.kind = 4) : stepC c R0 o = c.batch o.now := by
  unfold stepC
  rw [h]
  simp
theorem stepR_k4 (R0 : R) {o : Op} (h : o.kind = 4) : stepR R0 o = R0 := by
  unfold stepR
  rw [h]
  simp
theorem stepC_k5 (c : C) (R0 : R) {o : Op} (h : o.kind = 5) : stepC c R0 o = { c with und := o.v } := by
  unfold stepC
  rw [h]
  simp
theorem stepR_k5 (R0 : R) {o : Op} (h : o.kind = 5) : stepR R0 o = R0 := by
  unfold stepR
  rw [h]
  simp
theorem stepC_k6 (c : C) (R0 : R) {o : Op} (h : o.kind = 6) : stepC c R0 o = c := by
  unfold stepC
  rw [h]
  simp
theorem stepR_k6 (R0 : R) {o : Op} (h : o.kind = 6) : stepR R0 o = R0.sample o.now o.v o.lat o.del o.lim := by
  unfold stepR
  rw [h]
  simp
theorem lost_any (g p r : Nat) (c : C) (R0 : R) (num size time x e : Int) (el infl : Bool) (w : World) (hg : Blk w g 59 (ccells c)) (hp : Blk w p 69 (pcells num size time el infl)) (hr : Blk w r 54 (rcells R0)) (b0 : -1000000000000 < c.fl) (b1 : c.fl < 1000000000000) (s0 : 0 ≤ size) (s1 : size ≤ 65535)
    (n0 : 0 ≤ num) (n1 : num < 4611686018427387904) (t0 : -1 ≤ time) (t1 : time < 3000000) (r0 : -1 ≤ R0.first) (r1 : R0.first < 3000000) (l0 : -1 ≤ c.ll) (l1 : c.ll < 3000000) (sp : Int) (hsp : sp = 0 ∨ sp = 1 ∨ sp = 2) :
    Calls Try.prog 21 #[.pointer (some ⟨g, 0, none⟩), .agg #[.int .u64 x, .int .i64 e], .int .u8 sp, .pointer (some ⟨p, 0, none⟩), .pointer (some ⟨r, 0, none⟩)] w fun q w' => q = .returned (.tuple #[]) ∧ Blk w' g 59 (ccells (c.lost sp.toNat num size time el infl R0.first)) ∧ w.grownBy w' (some g) := by
  rcases hsp with rfl | rfl | rfl
  · exact lost_0 g p r c R0 num size time x e el infl w hg hp hr b0 b1 s0 s1 n0 n1 t0 t1 r0 r1 l0 l1
  · exact lost_1 g p r c R0 num size time x e el infl w hg hp hr b0 b1 s0 s1 n0 n1 t0 t1 r0 r1 l0 l1
  · exact lost_2 g p r c R0 num size time x e el infl w hg hp hr b0 b1 s0 s1 n0 n1 t0 t1 r0 r1 l0 l1
/-- What the closure hands back, written out. -/
theorem look_lit (bc br g r : Nat) (c : C) (R0 : R) (w : World) (hc : Blk w bc 46 #[.pointer (some ⟨g, 0, none⟩)]) (hr : Blk w br 48 #[.pointer (some ⟨r, 0, none⟩)]) (hG : Blk w g 59 (ccells c)) (hR : Blk w r 54 (rcells R0))
    (b0 : 0 ≤ c.maxd) (b1 : c.maxd < 1000000) (d0 : -1000000000000 < c.fl) (d1 : c.fl < 1000000000000) :
    Calls Try.prog 14 #[.pointer (some ⟨bc, 0, none⟩), .pointer (some ⟨br, 0, none⟩)] w fun e w' => e = .returned (.agg #[.int .i64 c.cw, .int .i64 c.fl, .int .i64 c.thr, .int .i64 c.pend, .bool c.can, .bool c.one, .bool c.inr, .string c.name, .int .i64 R0.mn, .int .i64 R0.sm, .int .i64 R0.var]) ∧ Below w.heap.size w w' :=
  look_any bc br g r c R0 w hc hr hG hR b0 b1 d0 d1
theorem ownsRow_built (W : World) (base : Nat) (e : TypeId) (size : Nat) (cs : Array Value) (hb : base ≤ W.heap.size) (hs : cs.size = size) :
    (W.alloc (.cells cs e)).ownsRow base e size (.slice (some ⟨W.heap.size, 0, none⟩) 1 1) 1 cs.toList :=
  ⟨by simp [hs], .inr ⟨W.heap.size, 1, cs, rfl, hb, heap_alloc_new W _, Nat.le_refl _, by decide, by simp [hs], List.take_of_length_le (by simp [hs])⟩⟩

/-- The four first blocks. -/
def w4 (w : World) (size : Int) : World := (((w.alloc (.cells (ccells (C.new size)) 59)).alloc (.cells #[.pointer (some ⟨w.heap.size, 0, none⟩)] 46)).alloc (.cells #[.int .i64 0, .int .i64 0, .int .i64 0, .int .i64 0, .int .u64 0, .int .i64 0] 54)).alloc (.cells #[.pointer (some ⟨w.heap.size + 1 + 1, 0, none⟩)] 48)
theorem w4_parts (w : World) (size : Int) : Blk (w4 w size) w.heap.size 59 (ccells (C.new size)) ∧ Blk (w4 w size) (w.heap.size + 1) 46 #[.pointer (some ⟨w.heap.size, 0, none⟩)] ∧ Blk (w4 w size) (w.heap.size + 1 + 1) 54 zcells ∧ Blk (w4 w size) (w.heap.size + 1 + 1 + 1) 48 #[.pointer (some ⟨w.heap.size + 1 + 1, 0, none⟩)] ∧ Below w.heap.size w (w4 w size) := by
  have a := Blk.new w 59 (ccells (C.new size))
  have b := Blk.new (w.alloc (.cells (ccells (C.new size)) 59)) 46 #[.pointer (some ⟨w.heap.size, 0, none⟩)]
  have d := Blk.new ((w.alloc (.cells (ccells (C.new size)) 59)).alloc (.cells #[.pointer (some ⟨w.heap.size, 0, none⟩)] 46)) 54 zcells
  have e := Blk.new (((w.alloc (.cells (ccells (C.new size)) 59)).alloc (.cells #[.pointer (some ⟨w.heap.size, 0, none⟩)] 46)).alloc (.cells #[.int .i64 0, .int .i64 0, .int .i64 0, .int .i64 0, .int .u64 0, .int .i64 0] 54)) 48 #[.pointer (some ⟨w.heap.size + 1 + 1, 0, none⟩)]
  have s1 : ∀ (V : World) (o : Obj), (V.alloc o).heap.size = V.heap.size + 1 := fun V o => by simp
  rw [s1] at b
  rw [s1, s1] at d
  rw [s1, s1, s1] at e
  exact ⟨((a.alloc _).alloc _).alloc _, (b.alloc _).alloc _, d.alloc _, e, ((((Below.refl _ _).alloc (Nat.le_refl _) _).alloc (by simp) _).alloc (by simp; omega) _).alloc (by simp; omega) _⟩

set_option maxRecDepth 100000 in
set_option maxHeartbeats 4000000 in
theorem zzrun_some (A : Option Addr) (gl n cap : Nat) (size : Int) (l : List Op) (w : World) (h0 : 1200 ≤ size) (h1 : size ≤ 65527) (hn : l.length = n) (hl : n ≤ 1000) (hg : ∀ o ∈ l, Good o)
    (hin : ∀ (k : Nat) (o : Op), l[k]? = some o → ∀ (j : Nat) (v : Value), (opcells o)[j]? = some v → w.cell? ⟨gl, k * 12 + j, none⟩ = some v) (hgl : 0 < n → gl < w.heap.size) (hA : 0 < n → A = some ⟨gl, 0, none⟩) :
    Calls Try.prog 9 #[.int .i64 size, .slice A n cap] w fun e w' => ∃ v, e = .returned v ∧ w'.ownsRow w.heap.size 43 11 v (n + 1) (outs (C.new size, R.new) l n) ∧ Below w.heap.size w w' := by
  have HIN := Lib.hid hin
  have HGD := Lib.hid hg
  have HLN := Lib.hid hn
  have hsA := Lib.hid (fun k (hk : k ≤ l.length) => sAt_inv h0 h1 (by omega) hg k hk)
  have HA := Lib.hid hA
  have HGL := Lib.hid hgl
  clear hin hg hn hA hgl
  go_enter Try.func9, Try.ntmps9
  go_wp2_with (go_at_call 12; refine (newReno_any size _ h0 h1).mono ?_; rintro q w1 ⟨rfl, rfl⟩)
  have P4 := Lib.hid (w4_parts w size)
  refine Calls.mono (show Calls Try.prog 13 #[.pointer (some ⟨w.heap.size + 1 + 1, 0, none⟩)] (w4 w size) _ from init_any _ _ P4.out.2.2.1) ?_
  rintro q w1 ⟨rfl, hR1, hO1⟩
  obtain ⟨k1, k2, k3, k4, k5⟩ := P4.out
  have nn := Lib.hid (show (w.heap.size + 1 + 1 ≠ w.heap.size) ∧ (w.heap.size + 1 + 1 ≠ w.heap.size + 1) ∧ (w.heap.size + 1 + 1 ≠ w.heap.size + 1 + 1 + 1) by omega)
  have HC1 := Lib.hid (k2.grown hO1 (some_ne nn.out.2.1.symm))
  have HR1 := Lib.hid (k4.grown hO1 (some_ne nn.out.2.2.symm))
  have HG1 := Lib.hid (k1.grown hO1 (some_ne nn.out.1.symm))
  have HB1 := Lib.hid (k5.grown hO1 k5.size (fun k e => by injection e with e; omega))
  have HE1 := Lib.hid hR1
  clear k1 k2 k3 k4 k5 P4 hO1 hR1 nn
  have x1 : w1.cell? ⟨w.heap.size + 1, 0, none⟩ = some (.pointer (some ⟨w.heap.size, 0, none⟩)) := HC1.out.cellAt 0 rfl
  have x2 : w1.cell? ⟨w.heap.size + 1 + 1 + 1, 0, none⟩ = some (.pointer (some ⟨w.heap.size + 1 + 1, 0, none⟩)) := HR1.out.cellAt 0 rfl
  go_wp2_with fail
  refine (look_lit _ _ _ _ _ _ _ HC1.out HR1.out HG1.out HE1.out (by show (0 : Int) ≤ size; omega) (by show size < 1000000; omega) (by show (-1000000000000 : Int) < 0; omega) (by show (0 : Int) < 1000000000000; omega)).mono ?_
  rintro q w2 ⟨rfl, hb2⟩
  have I1 := Lib.hid (show ∀ W : World, Below w2.heap.size w2 W → W.ownsRow w.heap.size 43 11 (.slice (some ⟨w2.heap.size, 0, none⟩) 1 1) 1 (ocells (C.new size) R.new).toList → Inv w W (w.heap.size + 1) (w.heap.size + 1 + 1 + 1) w.heap.size (w.heap.size + 1 + 1) (C.new size) R.new (.slice (some ⟨w2.heap.size, 0, none⟩) 1 1) 1 (ocells (C.new size) R.new).toList from fun W hb ho =>
    ⟨((HC1.out.below hb2 HC1.out.lt).below hb (HC1.out.below hb2 HC1.out.lt).lt), ((HR1.out.below hb2 HR1.out.lt).below hb (HR1.out.below hb2 HR1.out.lt).lt), ((HG1.out.below hb2 HG1.out.lt).below hb (HG1.out.below hb2 HG1.out.lt).lt), ((HE1.out.below hb2 HE1.out.lt).below hb (HE1.out.below hb2 HE1.out.lt).lt), ho,
      (HB1.out.trans (hb2.mono HB1.out.size)).trans (hb.mono (Nat.le_trans HB1.out.size hb2.size)), Nat.le_refl _, by omega⟩)
  have HS2 := Lib.hid (Nat.le_trans HB1.out.size hb2.size)
  clear HC1 HR1 HG1 HE1 HB1 hb2 x1 x2
  go_wp2
  go_loopg [8, 24] n (fun gk ov i W => ∃ k : Nat, k ≤ n ∧ gk = n - k ∧ i = .int .i64 k ∧ Inv w W (w.heap.size + 1) (w.heap.size + 1 + 1 + 1) w.heap.size (w.heap.size + 1 + 1) (sAt (C.new size, R.new) l k).1 (sAt (C.new size, R.new) l k).2 ov (k + 1) (outs (C.new size, R.new) l k))
  case atStart =>
    refine ⟨0, Nat.zero_le _, rfl, rfl, ?_⟩
    rw [outs_zero]
    exact I1.out _ ((Below.refl _ _).alloc (Nat.le_refl _) _) (ownsRow_built w2 _ _ _ _ HS2.out rfl)
  case round =>
    obtain ⟨k, hk, hgk, rfl, hI⟩ := hrel
    have HI := Lib.hid hI
    have HGK := Lib.hid hgk
    clear hI hgk I1 HS2
    by_cases hlt : k < n
    · have eA := HA.out (by omega)
      have hgl := HGL.out (by omega)
      clear HA HGL
      subst eA
      obtain ⟨o, ho⟩ : ∃ o, l[k]? = some o := ⟨_, List.getElem?_eq_getElem (by have := HLN.out; omega)⟩
      have hgo := HGD.out o (List.mem_of_getElem? ho)
      have i0 : wr.cell? ⟨gl, k * 12, none⟩ = some (.int .i64 o.kind) := (HI.out.be.cell (p := ⟨gl, k * 12, none⟩) hgl).trans (HIN.out k o ho 0 _ rfl)
      have i1 : wr.cell? ⟨gl, k * 12 + 1, none⟩ = some (.int .i64 o.space) := (HI.out.be.cell (p := ⟨gl, k * 12 + 1, none⟩) hgl).trans (HIN.out k o ho 1 _ rfl)
      have i2 : wr.cell? ⟨gl, k * 12 + 2, none⟩ = some (.int .i64 o.now) := (HI.out.be.cell (p := ⟨gl, k * 12 + 2, none⟩) hgl).trans (HIN.out k o ho 2 _ rfl)
      have i3 : wr.cell? ⟨gl, k * 12 + 3, none⟩ = some (.int .i64 o.time) := (HI.out.be.cell (p := ⟨gl, k * 12 + 3, none⟩) hgl).trans (HIN.out k o ho 3 _ rfl)
      have i4 : wr.cell? ⟨gl, k * 12 + 4, none⟩ = some (.int .i64 o.num) := (HI.out.be.cell (p := ⟨gl, k * 12 + 4, none⟩) hgl).trans (HIN.out k o ho 4 _ rfl)
      have i5 : wr.cell? ⟨gl, k * 12 + 5, none⟩ = some (.int .i64 o.size) := (HI.out.be.cell (p := ⟨gl, k * 12 + 5, none⟩) hgl).trans (HIN.out k o ho 5 _ rfl)
      have i6 : wr.cell? ⟨gl, k * 12 + 6, none⟩ = some (.bool o.el) := (HI.out.be.cell (p := ⟨gl, k * 12 + 6, none⟩) hgl).trans (HIN.out k o ho 6 _ rfl)
      have i7 : wr.cell? ⟨gl, k * 12 + 7, none⟩ = some (.bool o.inf) := (HI.out.be.cell (p := ⟨gl, k * 12 + 7, none⟩) hgl).trans (HIN.out k o ho 7 _ rfl)
      have i8 : wr.cell? ⟨gl, k * 12 + 8, none⟩ = some (.bool o.v) := (HI.out.be.cell (p := ⟨gl, k * 12 + 8, none⟩) hgl).trans (HIN.out k o ho 8 _ rfl)
      have i9 : wr.cell? ⟨gl, k * 12 + 9, none⟩ = some (.int .i64 o.lat) := (HI.out.be.cell (p := ⟨gl, k * 12 + 9, none⟩) hgl).trans (HIN.out k o ho 9 _ rfl)
      have i10 : wr.cell? ⟨gl, k * 12 + 10, none⟩ = some (.int .i64 o.del) := (HI.out.be.cell (p := ⟨gl, k * 12 + 10, none⟩) hgl).trans (HIN.out k o ho 10 _ rfl)
      have i11 : wr.cell? ⟨gl, k * 12 + 11, none⟩ = some (.int .i64 o.lim) := (HI.out.be.cell (p := ⟨gl, k * 12 + 11, none⟩) hgl).trans (HIN.out k o ho 11 _ rfl)
      have s0 := hgo.s0
      have s1 := hgo.s1
      have HGO := Lib.hid hgo
      have HO := Lib.hid ho
      clear hgo ho
      have hk0 : (0 : Int) ≤ (k : Int) := by omega
      have hk1 : (k : Int) < (n : Int) := by omega
      have hs3 : o.space % 3 = o.space := by omega
      go_wp2
      refine wp_let (fun W => Inv w W (w.heap.size + 1) (w.heap.size + 1 + 1 + 1) w.heap.size (w.heap.size + 1 + 1) (sAt (C.new size, R.new) l k).1 (sAt (C.new size, R.new) l k).2 u8 (k + 1) (outs (C.new size, R.new) l k) ∧ Blk W wr.heap.size 40 (opcells o).toArray) ⟨HI.out.alloc _, Blk.new wr 40 _⟩ ?_
      rintro W ⟨I2, B2⟩
      have HI2 := Lib.hid I2
      have HB2 := Lib.hid B2
      clear i0 i1 i2 i3 i4 i5 i6 i7 i8 i9 i10 i11 I2 B2 HI
      go_cut [12] (fun v W => ∃ pb, v = .pointer (some ⟨pb, 0, none⟩) ∧ Rnd w W (w.heap.size + 1) (w.heap.size + 1 + 1 + 1) w.heap.size (w.heap.size + 1 + 1) (sAt (C.new size, R.new) l k).1 (sAt (C.new size, R.new) l k).2 u8 (k + 1) (outs (C.new size, R.new) l k) wr.heap.size o pb)
      case first =>
        have i3 : W.cell? ⟨wr.heap.size, 3, none⟩ = some (.int .i64 o.time) := HB2.out.cellAt 3 rfl
        have i4 : W.cell? ⟨wr.heap.size, 4, none⟩ = some (.int .i64 o.num) := HB2.out.cellAt 4 rfl
        have i5 : W.cell? ⟨wr.heap.size, 5, none⟩ = some (.int .i64 o.size) := HB2.out.cellAt 5 rfl
        have i6 : W.cell? ⟨wr.heap.size, 6, none⟩ = some (.bool o.el) := HB2.out.cellAt 6 rfl
        have i7 : W.cell? ⟨wr.heap.size, 7, none⟩ = some (.bool o.inf) := HB2.out.cellAt 7 rfl
        have t0 := HGO.out.t0
        have t1 := HGO.out.t1
        go_region_held3 (fun V => V.cell? ⟨wr.heap.size, 3, none⟩ = some (.int .i64 o.time) ∧ V.cell? ⟨wr.heap.size, 4, none⟩ = some (.int .i64 o.num) ∧ V.cell? ⟨wr.heap.size, 5, none⟩ = some (.int .i64 o.size) ∧ V.cell? ⟨wr.heap.size, 6, none⟩ = some (.bool o.el) ∧ V.cell? ⟨wr.heap.size, 7, none⟩ = some (.bool o.inf)) (first | (go_keep; done) | (go_simp; done)) (first | (go_at_call 18; refine (zzTime_at _ _ t0 t1).mono ?_; rintro q W2 ⟨rfl, hb⟩; have HI3 := Lib.hid (HI2.out.drew.below hb); have HB3 := Lib.hid (Blk.below HB2.out.drew hb HB2.out.lt); have lob := HB3.out.lt; have y3 : W2.cell? ⟨wr.heap.size, 3, none⟩ = some (.int .i64 o.time) := HB3.out.cellAt 3 rfl; have y4 : W2.cell? ⟨wr.heap.size, 4, none⟩ = some (.int .i64 o.num) := HB3.out.cellAt 4 rfl; have y5 : W2.cell? ⟨wr.heap.size, 5, none⟩ = some (.int .i64 o.size) := HB3.out.cellAt 5 rfl; have y6 : W2.cell? ⟨wr.heap.size, 6, none⟩ = some (.bool o.el) := HB3.out.cellAt 6 rfl; have y7 : W2.cell? ⟨wr.heap.size, 7, none⟩ = some (.bool o.inf) := HB3.out.cellAt 7 rfl))
        go_wp2
        go_meet
        case rel =>
          exact ⟨_, rfl, HI3.out.alloc _, HB3.out.alloc _, Blk.new W2 69 _⟩
      case rest =>
        obtain ⟨pb, rfl, hR⟩ := hcut
        have HR := Lib.hid hR
        clear hR HI2 HB2
        have q0 : wc.cell? ⟨wr.heap.size, 0, none⟩ = some (.int .i64 o.kind) := HR.out.ko.cellAt 0 rfl
        go_upto_block 2 with fail
        go_cut [46] (fun _ W => Rnd w W (w.heap.size + 1) (w.heap.size + 1 + 1 + 1) w.heap.size (w.heap.size + 1 + 1) (stepC (sAt (C.new size, R.new) l k).1 (sAt (C.new size, R.new) l k).2 o) (stepR (sAt (C.new size, R.new) l k).2 o) u8 (k + 1) (outs (C.new size, R.new) l k) wr.heap.size o pb)
        case first =>
          have CI := (hsA.out k (by have := HLN.out; omega)).1
          have RI := (hsA.out k (by have := HLN.out; omega)).2
          obtain ⟨bm0, bm1, bf0', bf1', bw0, bw1', bp0, bt0, bt1, br0, br1, bl0, bl1, bpi, _⟩ := CI
          obtain ⟨rm0, rm1, rs0, rs1, rv0, rv1, rf0, rf1⟩ := RI
          obtain ⟨g1, g2, _, _, z0, z1, n0, n1, t0, t1, u0, u1, la0, la1, de0, de1, lm0, lm1⟩ := HGO.out
          have bf0 : -1000000000000 < (sAt (C.new size, R.new) l k).1.fl := by omega
          have bf1 : (sAt (C.new size, R.new) l k).1.fl < 1000000000000 := by omega
          have bp1 : (sAt (C.new size, R.new) l k).1.pend < 1000000000000 := by omega
          have bw1 : (sAt (C.new size, R.new) l k).1.cw + (sAt (C.new size, R.new) l k).1.pend < 1000000000000 := by omega
          have tm0 : -1 ≤ o.time := by omega
          clear bf0' bf1' bw1'
          have hK : o.kind = 0 ∨ o.kind = 1 ∨ o.kind = 2 ∨ o.kind = 3 ∨ o.kind = 4 ∨ o.kind = 5 ∨ o.kind = 6 := by omega
          rcases hK with hkd | hkd | hkd | hkd | hkd | hkd | hkd
          · as_aux_lemma =>
            rw [hkd]
            have ES := Lib.hid (And.intro (stepC_k0 (sAt (C.new size, R.new) l k).1 (sAt (C.new size, R.new) l k).2 hkd) (stepR_k0 (sAt (C.new size, R.new) l k).2 hkd))
            clear hkd
            have xac : wc.cell? ⟨w.heap.size + 1, 0, none⟩ = some (.pointer (some ⟨w.heap.size, 0, none⟩)) := HR.out.inv.kc.cellAt 0 rfl
            have xa2 : wc.cell? ⟨wr.heap.size, 2, none⟩ = some (.int .i64 o.now) := HR.out.ko.cellAt 2 rfl
            go_wp2
            go_region_held3 (fun V => V.cell? ⟨w.heap.size + 1, 0, none⟩ = some (.pointer (some ⟨w.heap.size, 0, none⟩)) ∧ V.cell? ⟨wr.heap.size, 2, none⟩ = some (.int .i64 o.now)) (first | (go_keep; done) | (go_simp; done)) (first | (go_at_call 18; refine (zzTime_at _ _ n0 n1).mono ?_; rintro q W2 ⟨rfl, hb⟩; have K2 := Lib.hid (HR.out.drew.below hb); have xbc : W2.cell? ⟨w.heap.size + 1, 0, none⟩ = some (.pointer (some ⟨w.heap.size, 0, none⟩)) := K2.out.inv.kc.cellAt 0 rfl; have xb2 : W2.cell? ⟨wr.heap.size, 2, none⟩ = some (.int .i64 o.now) := K2.out.ko.cellAt 2 rfl) | (go_at_call 19; refine (sent_any _ _ _ _ _ _ _ _ _ _ _ _ K2.out.inv.gc K2.out.kp bf0 bf1 z0 z1).mono ?_; rintro q W3 ⟨rfl, hG, hO⟩; have K3 := Lib.hid (K2.out.setC hG hO); clear hG hO; have xdc : W3.cell? ⟨w.heap.size + 1, 0, none⟩ = some (.pointer (some ⟨w.heap.size, 0, none⟩)) := K3.out.inv.kc.cellAt 0 rfl; have xd2 : W3.cell? ⟨wr.heap.size, 2, none⟩ = some (.int .i64 o.now) := K3.out.ko.cellAt 2 rfl))
            go_wp2
            go_meet
            case rel => exact Eq.mp (by rw [ES.out.1, ES.out.2]) K3.out
          · as_aux_lemma =>
            rw [hkd]
            have ES := Lib.hid (And.intro (stepC_k1 (sAt (C.new size, R.new) l k).1 (sAt (C.new size, R.new) l k).2 hkd) (stepR_k1 (sAt (C.new size, R.new) l k).2 hkd))
            clear hkd
            have xac : wc.cell? ⟨w.heap.size + 1, 0, none⟩ = some (.pointer (some ⟨w.heap.size, 0, none⟩)) := HR.out.inv.kc.cellAt 0 rfl
            have xa2 : wc.cell? ⟨wr.heap.size, 2, none⟩ = some (.int .i64 o.now) := HR.out.ko.cellAt 2 rfl
            go_wp2
            go_region_held3 (fun V => V.cell? ⟨w.heap.size + 1, 0, none⟩ = some (.pointer (some ⟨w.heap.size, 0, none⟩)) ∧ V.cell? ⟨wr.heap.size, 2, none⟩ = some (.int .i64 o.now)) (first | (go_keep; done) | (go_simp; done)) (first | (go_at_call 18; refine (zzTime_at _ _ n0 n1).mono ?_; rintro q W2 ⟨rfl, hb⟩; have K2 := Lib.hid (HR.out.drew.below hb); have xbc : W2.cell? ⟨w.heap.size + 1, 0, none⟩ = some (.pointer (some ⟨w.heap.size, 0, none⟩)) := K2.out.inv.kc.cellAt 0 rfl; have xb2 : W2.cell? ⟨wr.heap.size, 2, none⟩ = some (.int .i64 o.now) := K2.out.ko.cellAt 2 rfl) | (go_at_call 20; refine (acked_any _ _ _ _ _ _ _ _ _ _ _ K2.out.inv.gc K2.out.kp bf0 bf1 z0 z1 bp0 bp1 tm0 t1 br0 br1).mono ?_; rintro q W3 ⟨rfl, hG, hO⟩; have K3 := Lib.hid (K2.out.setC hG hO); clear hG hO; have xdc : W3.cell? ⟨w.heap.size + 1, 0, none⟩ = some (.pointer (some ⟨w.heap.size, 0, none⟩)) := K3.out.inv.kc.cellAt 0 rfl; have xd2 : W3.cell? ⟨wr.heap.size, 2, none⟩ = some (.int .i64 o.now) := K3.out.ko.cellAt 2 rfl))
            go_wp2
            go_meet
            case rel => exact Eq.mp (by rw [ES.out.1, ES.out.2]) K3.out
          · as_aux_lemma =>
            rw [hkd]
            have ES := Lib.hid (And.intro (stepC_k2 (sAt (C.new size, R.new) l k).1 (sAt (C.new size, R.new) l k).2 hkd) (stepR_k2 (sAt (C.new size, R.new) l k).2 hkd))
            clear hkd
            have xac : wc.cell? ⟨w.heap.size + 1, 0, none⟩ = some (.pointer (some ⟨w.heap.size, 0, none⟩)) := HR.out.inv.kc.cellAt 0 rfl
            have xar : wc.cell? ⟨w.heap.size + 1 + 1 + 1, 0, none⟩ = some (.pointer (some ⟨w.heap.size + 1 + 1, 0, none⟩)) := HR.out.inv.kr.cellAt 0 rfl
            have xa2 : wc.cell? ⟨wr.heap.size, 2, none⟩ = some (.int .i64 o.now) := HR.out.ko.cellAt 2 rfl
            have hsp : o.space = 0 ∨ o.space = 1 ∨ o.space = 2 := by omega
            go_wp2
            go_region_held3 (fun V => V.cell? ⟨w.heap.size + 1, 0, none⟩ = some (.pointer (some ⟨w.heap.size, 0, none⟩)) ∧ V.cell? ⟨w.heap.size + 1 + 1 + 1, 0, none⟩ = some (.pointer (some ⟨w.heap.size + 1 + 1, 0, none⟩)) ∧ V.cell? ⟨wr.heap.size, 2, none⟩ = some (.int .i64 o.now)) (first | (go_keep; done) | (go_simp; done)) (first | (go_at_call 18; refine (zzTime_at _ _ n0 n1).mono ?_; rintro q W2 ⟨rfl, hb⟩; have K2 := Lib.hid (HR.out.drew.below hb); have xbc : W2.cell? ⟨w.heap.size + 1, 0, none⟩ = some (.pointer (some ⟨w.heap.size, 0, none⟩)) := K2.out.inv.kc.cellAt 0 rfl; have xbr : W2.cell? ⟨w.heap.size + 1 + 1 + 1, 0, none⟩ = some (.pointer (some ⟨w.heap.size + 1 + 1, 0, none⟩)) := K2.out.inv.kr.cellAt 0 rfl; have xb2 : W2.cell? ⟨wr.heap.size, 2, none⟩ = some (.int .i64 o.now) := K2.out.ko.cellAt 2 rfl) | (go_at_call 21; refine (lost_any _ _ _ _ _ _ _ _ _ _ _ _ _ K2.out.inv.gc K2.out.kp K2.out.inv.gr bf0 bf1 z0 z1 u0 u1 tm0 t1 rf0 rf1 bl0 bl1 _ hsp).mono ?_; rintro q W3 ⟨rfl, hG, hO⟩; have K3 := Lib.hid (K2.out.setC hG hO); clear hG hO; have xdc : W3.cell? ⟨w.heap.size + 1, 0, none⟩ = some (.pointer (some ⟨w.heap.size, 0, none⟩)) := K3.out.inv.kc.cellAt 0 rfl; have xdr : W3.cell? ⟨w.heap.size + 1 + 1 + 1, 0, none⟩ = some (.pointer (some ⟨w.heap.size + 1 + 1, 0, none⟩)) := K3.out.inv.kr.cellAt 0 rfl; have xd2 : W3.cell? ⟨wr.heap.size, 2, none⟩ = some (.int .i64 o.now) := K3.out.ko.cellAt 2 rfl))
            go_wp2
            go_meet
            case rel => exact Eq.mp (by rw [ES.out.1, ES.out.2]) K3.out
          · as_aux_lemma =>
            rw [hkd]
            have ES := Lib.hid (And.intro (stepC_k3 (sAt (C.new size, R.new) l k).1 (sAt (C.new size, R.new) l k).2 hkd) (stepR_k3 (sAt (C.new size, R.new) l k).2 hkd))
            clear hkd
            have xac : wc.cell? ⟨w.heap.size + 1, 0, none⟩ = some (.pointer (some ⟨w.heap.size, 0, none⟩)) := HR.out.inv.kc.cellAt 0 rfl
            go_wp2_with (go_at_call 22; refine (drop_any _ _ _ _ _ _ _ _ _ HR.out.inv.gc HR.out.kp bf0 bf1 z0 z1).mono ?_; rintro q W3 ⟨rfl, hG, hO⟩; have K3 := Lib.hid (HR.out.setC hG hO); clear hG hO)
            go_wp2
            go_meet
            case rel => exact Eq.mp (by rw [ES.out.1, ES.out.2]) K3.out
          · as_aux_lemma =>
            rw [hkd]
            have ES := Lib.hid (And.intro (stepC_k4 (sAt (C.new size, R.new) l k).1 (sAt (C.new size, R.new) l k).2 hkd) (stepR_k4 (sAt (C.new size, R.new) l k).2 hkd))
            clear hkd
            have xac : wc.cell? ⟨w.heap.size + 1, 0, none⟩ = some (.pointer (some ⟨w.heap.size, 0, none⟩)) := HR.out.inv.kc.cellAt 0 rfl
            have xar : wc.cell? ⟨w.heap.size + 1 + 1 + 1, 0, none⟩ = some (.pointer (some ⟨w.heap.size + 1 + 1, 0, none⟩)) := HR.out.inv.kr.cellAt 0 rfl
            have xa2 : wc.cell? ⟨wr.heap.size, 2, none⟩ = some (.int .i64 o.now) := HR.out.ko.cellAt 2 rfl
            have xa11 : wc.cell? ⟨wr.heap.size, 11, none⟩ = some (.int .i64 o.lim) := HR.out.ko.cellAt 11 rfl
            have hsp : o.space = 0 ∨ o.space = 1 ∨ o.space = 2 := by omega
            go_wp2
            go_region_held3 (fun V => V.cell? ⟨w.heap.size + 1, 0, none⟩ = some (.pointer (some ⟨w.heap.size, 0, none⟩)) ∧ V.cell? ⟨w.heap.size + 1 + 1 + 1, 0, none⟩ = some (.pointer (some ⟨w.heap.size + 1 + 1, 0, none⟩)) ∧ V.cell? ⟨wr.heap.size, 2, none⟩ = some (.int .i64 o.now) ∧ V.cell? ⟨wr.heap.size, 11, none⟩ = some (.int .i64 o.lim)) (first | (go_keep; done) | (go_simp; done)) (first | (go_at_call 18; refine (zzTime_at _ _ n0 n1).mono ?_; rintro q W2 ⟨rfl, hb⟩; have K2 := Lib.hid (HR.out.drew.below hb); have xbc : W2.cell? ⟨w.heap.size + 1, 0, none⟩ = some (.pointer (some ⟨w.heap.size, 0, none⟩)) := K2.out.inv.kc.cellAt 0 rfl; have xbr : W2.cell? ⟨w.heap.size + 1 + 1 + 1, 0, none⟩ = some (.pointer (some ⟨w.heap.size + 1 + 1, 0, none⟩)) := K2.out.inv.kr.cellAt 0 rfl; have xb2 : W2.cell? ⟨wr.heap.size, 2, none⟩ = some (.int .i64 o.now) := K2.out.ko.cellAt 2 rfl; have xb11 : W2.cell? ⟨wr.heap.size, 11, none⟩ = some (.int .i64 o.lim) := K2.out.ko.cellAt 11 rfl) | (go_at_call 23; refine (batch_any _ _ _ _ _ _ _ K2.out.inv.gc K2.out.inv.gr bm0 bm1 bw0 bw1 bt0 bt1 bp0 br0 br1 bl0 bl1 lm0 lm1 rs0 rs1 rv0 rv1 bpi _ hsp).mono ?_; rintro q W3 ⟨rfl, hG, hO⟩; have K3 := Lib.hid (K2.out.setC hG hO); clear hG hO; have xdc : W3.cell? ⟨w.heap.size + 1, 0, none⟩ = some (.pointer (some ⟨w.heap.size, 0, none⟩)) := K3.out.inv.kc.cellAt 0 rfl; have xdr : W3.cell? ⟨w.heap.size + 1 + 1 + 1, 0, none⟩ = some (.pointer (some ⟨w.heap.size + 1 + 1, 0, none⟩)) := K3.out.inv.kr.cellAt 0 rfl; have xd2 : W3.cell? ⟨wr.heap.size, 2, none⟩ = some (.int .i64 o.now) := K3.out.ko.cellAt 2 rfl; have xd11 : W3.cell? ⟨wr.heap.size, 11, none⟩ = some (.int .i64 o.lim) := K3.out.ko.cellAt 11 rfl))
            go_wp2
            go_meet
            case rel => exact Eq.mp (by rw [ES.out.1, ES.out.2]) K3.out
          · as_aux_lemma =>
            rw [hkd]
            have ES := Lib.hid (And.intro (stepC_k5 (sAt (C.new size, R.new) l k).1 (sAt (C.new size, R.new) l k).2 hkd) (stepR_k5 (sAt (C.new size, R.new) l k).2 hkd))
            clear hkd
            have xac : wc.cell? ⟨w.heap.size + 1, 0, none⟩ = some (.pointer (some ⟨w.heap.size, 0, none⟩)) := HR.out.inv.kc.cellAt 0 rfl
            have xa8 : wc.cell? ⟨wr.heap.size, 8, none⟩ = some (.bool o.v) := HR.out.ko.cellAt 8 rfl
            go_wp2_with (go_at_call 24; refine (und_any _ _ _ _ HR.out.inv.gc).mono ?_; rintro q W3 ⟨rfl, hG, hO⟩; have K3 := Lib.hid (HR.out.setC hG hO); clear hG hO)
            go_wp2
            go_meet
            case rel => exact Eq.mp (by rw [ES.out.1, ES.out.2]) K3.out
          · as_aux_lemma =>
            rw [hkd]
            have ES := Lib.hid (And.intro (stepC_k6 (sAt (C.new size, R.new) l k).1 (sAt (C.new size, R.new) l k).2 hkd) (stepR_k6 (sAt (C.new size, R.new) l k).2 hkd))
            clear hkd
            have xar : wc.cell? ⟨w.heap.size + 1 + 1 + 1, 0, none⟩ = some (.pointer (some ⟨w.heap.size + 1 + 1, 0, none⟩)) := HR.out.inv.kr.cellAt 0 rfl
            have xa2 : wc.cell? ⟨wr.heap.size, 2, none⟩ = some (.int .i64 o.now) := HR.out.ko.cellAt 2 rfl
            have xa8 : wc.cell? ⟨wr.heap.size, 8, none⟩ = some (.bool o.v) := HR.out.ko.cellAt 8 rfl
            have xa9 : wc.cell? ⟨wr.heap.size, 9, none⟩ = some (.int .i64 o.lat) := HR.out.ko.cellAt 9 rfl
            have xa10 : wc.cell? ⟨wr.heap.size, 10, none⟩ = some (.int .i64 o.del) := HR.out.ko.cellAt 10 rfl
            have xa11 : wc.cell? ⟨wr.heap.size, 11, none⟩ = some (.int .i64 o.lim) := HR.out.ko.cellAt 11 rfl
            go_wp2
            go_region_held3 (fun V => V.cell? ⟨w.heap.size + 1 + 1 + 1, 0, none⟩ = some (.pointer (some ⟨w.heap.size + 1 + 1, 0, none⟩)) ∧ V.cell? ⟨wr.heap.size, 2, none⟩ = some (.int .i64 o.now) ∧ V.cell? ⟨wr.heap.size, 8, none⟩ = some (.bool o.v) ∧ V.cell? ⟨wr.heap.size, 9, none⟩ = some (.int .i64 o.lat) ∧ V.cell? ⟨wr.heap.size, 10, none⟩ = some (.int .i64 o.del) ∧ V.cell? ⟨wr.heap.size, 11, none⟩ = some (.int .i64 o.lim)) (first | (go_keep; done) | (go_simp; done)) (first | (go_at_call 18; refine (zzTime_at _ _ n0 n1).mono ?_; rintro q W2 ⟨rfl, hb⟩; have K2 := Lib.hid (HR.out.drew.below hb); have xbr : W2.cell? ⟨w.heap.size + 1 + 1 + 1, 0, none⟩ = some (.pointer (some ⟨w.heap.size + 1 + 1, 0, none⟩)) := K2.out.inv.kr.cellAt 0 rfl; have xb2 : W2.cell? ⟨wr.heap.size, 2, none⟩ = some (.int .i64 o.now) := K2.out.ko.cellAt 2 rfl; have xb8 : W2.cell? ⟨wr.heap.size, 8, none⟩ = some (.bool o.v) := K2.out.ko.cellAt 8 rfl; have xb9 : W2.cell? ⟨wr.heap.size, 9, none⟩ = some (.int .i64 o.lat) := K2.out.ko.cellAt 9 rfl; have xb10 : W2.cell? ⟨wr.heap.size, 10, none⟩ = some (.int .i64 o.del) := K2.out.ko.cellAt 10 rfl; have xb11 : W2.cell? ⟨wr.heap.size, 11, none⟩ = some (.int .i64 o.lim) := K2.out.ko.cellAt 11 rfl) | (go_at_call 25; refine (sample_any _ _ _ _ _ _ _ _ _ K2.out.inv.gr la0 la1 de0 de1 lm0 lm1 rm1 rs0 rs1 rv0 rv1).mono ?_; rintro q W3 ⟨rfl, hG, hO⟩; have K3 := Lib.hid (K2.out.setR hG hO); clear hG hO; have xdr : W3.cell? ⟨w.heap.size + 1 + 1 + 1, 0, none⟩ = some (.pointer (some ⟨w.heap.size + 1 + 1, 0, none⟩)) := K3.out.inv.kr.cellAt 0 rfl; have xd2 : W3.cell? ⟨wr.heap.size, 2, none⟩ = some (.int .i64 o.now) := K3.out.ko.cellAt 2 rfl; have xd8 : W3.cell? ⟨wr.heap.size, 8, none⟩ = some (.bool o.v) := K3.out.ko.cellAt 8 rfl; have xd9 : W3.cell? ⟨wr.heap.size, 9, none⟩ = some (.int .i64 o.lat) := K3.out.ko.cellAt 9 rfl; have xd10 : W3.cell? ⟨wr.heap.size, 10, none⟩ = some (.int .i64 o.del) := K3.out.ko.cellAt 10 rfl; have xd11 : W3.cell? ⟨wr.heap.size, 11, none⟩ = some (.int .i64 o.lim) := K3.out.ko.cellAt 11 rfl))
            go_wp2
            go_meet
            case rel => exact Eq.mp (by rw [ES.out.1, ES.out.2]) K3.out
        case rest =>
          have CI := (hsA.out (k + 1) (by have := HLN.out; omega)).1
          rw [sAt_succ HO.out] at CI
          obtain ⟨bm0, bm1, bf0', bf1', _, _, _, _, _, _, _, _, _, _, _⟩ := CI
          dsimp only at bm0 bm1 bf0' bf1'
          have EA := Lib.hid (sAt_succ (s := (C.new size, R.new)) HO.out)
          obtain ⟨i0, hi, hz0, hz1, hz2⟩ := info_parts Try.info43
          generalize (stepC (sAt (C.new size, R.new) l k).1 (sAt (C.new size, R.new) l k).2 o) = c2 at hcut bm0 bm1 bf0' bf1' EA
          generalize (stepR (sAt (C.new size, R.new) l k).2 o) = r2 at hcut EA
          have HC := Lib.hid hcut
          clear hcut
          go_wp2_with fail
          refine (look_lit _ _ _ _ _ _ _ HC.out.inv.kc HC.out.inv.kr HC.out.inv.gc HC.out.inv.gr (by omega) (by omega) (by omega) (by omega)).mono ?_
          rintro q W2 ⟨rfl, hb⟩
          have HC2 := Lib.hid (HC.out.below hb)
          clear HC hb
          go_wp2_with (at_builtin; refine wpList_append_lies _ rfl _ _ 41 rfl w.heap.size 43 i0 _ 11 80 Try.underlying41 hi hz0 hz1 hz2 rfl (by decide) _ _ _ rfl (HC2.out.inv.ow.alloc _) ⟨W2.heap.size, 0, none⟩ 1 1 [.int .i64 c2.cw, .int .i64 c2.fl, .int .i64 c2.thr, .int .i64 c2.pend, .bool c2.can, .bool c2.one, .bool c2.inr, .string c2.name, .int .i64 r2.mn, .int .i64 r2.sm, .int .i64 r2.var] rfl rfl ?c1 ?c2 (by decide) ?c3 ?c4 ?c5 _ rfl ?_)
          case c1 => exact World.news_of_block (cs := ocells c2 r2) (heap_alloc_new W2 _)
          case c2 => simp [Value.oneCell']
          case c3 => unfold maxLen; omega
          case c4 => omega
          case c5 => have := HC2.out.inv.be.size; simp; omega
          · intro g2 cap2 w3 hown3 hgrow3 hat3 hlt3
            have HI4 := Lib.hid ((HC2.out.inv.alloc _).app hown3 hgrow3)
            clear hown3 hgrow3 hat3 hlt3 hi hz0 hz1 hz2
            go_wp2
            go_roundg (n - (k + 1))
            case measure => have := HGK.out; omega
            case rel =>
              refine ⟨k + 1, by omega, rfl, by go_num, ?_⟩
              rw [outs_succ, EA.out]
              exact HI4.out
    · have EK := Lib.hid (show k = n by omega)
      go_wp2
      go_ret
      exact ⟨_, rfl, by have h := HI.out.ow; rw [EK.out] at h; exact h, HI.out.be⟩
end Go.Proofs.Ytehplpakbfnhbaa
