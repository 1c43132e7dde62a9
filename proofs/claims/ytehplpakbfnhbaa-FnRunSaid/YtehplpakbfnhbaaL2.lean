/-
  FnLossHalves: the law's walk.
-/
import Derived.Test.YtehplpakbfnhbaaL1
import Derived.Test.YtehplpakbfnhbaaM2
import Derived.Deep.RegionHeld3
namespace Go.Proofs.Ytehplpakbfnhbaa
open Go.RowKit
set_option linter.unusedVariables false
set_option linter.unusedSimpArgs false

theorem Try.info24 : (Try.prog.info? 24).map (fun i => (i.zero, i.size, i.bytes)) = some (some (.agg #[.int .i64 0, .int .i64 0, .int .i64 0, .int .i64 0, .int .i64 0, .int .i64 0, .bool false, .bool false, .bool false, .int .i64 0, .int .i64 0, .int .i64 0]), 12, 80) := by kernel_rfl

/-- The lost packet, and the end of its batch. -/
def lostOf (p : Op) : Op := { p with kind := 2, inf := true }
def endOf (p : Op) : Op := { kind := 4, space := p.space, now := 2999999, time := 0, num := 0, size := 0, el := false, inf := false, v := false, lat := 0, del := 0, lim := 0 }
def allOf (l : List Op) (p : Op) : List Op := l ++ [lostOf p, endOf p]
theorem allOf_len {l : List Op} {p : Op} {n : Nat} (h : l.length = n) : (allOf l p).length = n + 2 := by simp [allOf, h]
theorem allOf_cells {l : List Op} {p : Op} {n : Nat} (h : l.length = n) : allcells (allOf l p) (n + 2) = allcells l n ++ (opcells (lostOf p) ++ opcells (endOf p)) := by
  unfold allcells allOf
  rw [List.take_of_length_le (by simp [h]), List.take_of_length_le (by omega), List.flatMap_append]
  simp

/-- Appending to a nil slice what lies somewhere. -/
theorem run_app {P : Program} (w : World) (base : Nat) (t ty e : TypeId) (i : TypeInfo) (z : Value) (size bytes : Nat) (ht : P.underlying t = some (.slice e)) (hi : P.info? e = some i) (hz : i.zero = some z)
    (hsize : i.size = size) (hby : i.bytes = bytes) (hzs : z.cells.size = size) (hsz : 0 < size)
    (A : Option Addr) (m c : Nat) (news : List Value) (hl : news.length = m * size) (hA : ∀ j u, news[j]? = some u → ∃ ad, A = some ad ∧ w.cell? (ad.add j) = some u) (h1 : ∀ u ∈ news, u.oneCell' = true)
    (h63 : m ≤ maxLen) (hbytes : m * bytes ≤ 140737488355328) (hbase : base ≤ w.heap.size) :
    ∃ v' w', (Builtin.append_ #[t, t] ty #[.slice none 0 0, .slice A m c]).run P w = .ok v' w' ∧ w'.ownsRow base e size v' m news ∧ Below w.heap.size w w' := by
  rcases A with _ | ad
  · have hm : m = 0 := by
      rcases Nat.eq_zero_or_pos m with h0 | h0
      · exact h0
      · have hlt : 0 < news.length := by rw [hl]; exact Nat.mul_pos h0 hsz
        obtain ⟨ad, h, _⟩ := hA 0 news[0] (List.getElem?_eq_getElem hlt)
        cases h
    subst hm
    have hn : news = [] := List.eq_nil_of_length_eq_zero (by simpa using hl)
    subst hn
    refine ⟨.slice none 0 0, w, ?_, World.ownsRow_nil _ _ _ _, Below.refl _ _⟩
    simp [Builtin.append_, run_underlying ht, sizeOf, typeInfo, hi, Builtin.lenOf, Builtin.firstCells]
  · have hc : ∀ j u, news[j]? = some u → w.cell? (ad.add j) = some u := fun j u h => by
      obtain ⟨ad', e, hh⟩ := hA j u h
      injection e with e
      subst e
      exact hh
    obtain ⟨v', w', hr, h2, h3, _, _⟩ := run_append_own_at (P := P) w base t ty e i z size bytes ht hi hz hsize hby hzs hsz (.slice none 0 0) 0 [] (World.ownsRow_nil _ _ _ _) ad m c news hl hc h1 (by simpa using h63) (by simpa using hbytes) hbase
    simp only [Nat.zero_add, List.nil_append] at h2
    refine ⟨v', w', hr, h2, ⟨h3.os, h3.tape, h3.output, h3.size, fun k hk => h3.block k hk (by simp [Value.ownBlock])⟩⟩
theorem step_app {P : Program} (w : World) {ops : Array Oper} {o : Oper} {a : Act} {K : Act → World → Prop} {Q : Exit → Act → World → Prop} {G : Prop} (hgd : o.guard = none) (x : Operand) (t : TypeId)
    (ho : o.op = .call { callee := .builtin .append, args := #[.const (.slice none 0 0), x], argTypes := #[t, t] })
    (base : Nat) (e : TypeId) (i : TypeInfo) (z : Value) (size bytes : Nat) (ht : P.underlying t = some (.slice e)) (hi : P.info? e = some i) (hz : i.zero = some z)
    (hsize : i.size = size) (hby : i.bytes = bytes) (hzs : z.cells.size = size) (hsz : 0 < size)
    (A : Option Addr) (m c : Nat) (news : List Value) (hx : a.eval x = .slice A m c) (hl : news.length = m * size) (hA : ∀ j u, news[j]? = some u → ∃ ad, A = some ad ∧ w.cell? (ad.add j) = some u) (h1 : ∀ u ∈ news, u.oneCell' = true)
    (h63 : m ≤ maxLen) (hbytes : m * bytes ≤ 140737488355328) (hbase : base ≤ w.heap.size)
    (h : ∀ v' w', w'.ownsRow base e size v' m news → Below w.heap.size w w' → K (a.put o.dst v') w') :
    if Region.wanted o (yielded ops a.tmps) = true then Oper.wp P o a w K Q else G := by
  have hw : Region.wanted o (yielded ops a.tmps) = true := by simp [Region.wanted, hgd]
  rw [if_pos hw]
  obtain ⟨v', w', hr, h2, h3⟩ := run_app (P := P) w base t o.type e i z size bytes ht hi hz hsize hby hzs hsz A m c news hl hA h1 h63 hbytes hbase
  have hs : a.eval (.const (.slice none 0 0)) = .slice none 0 0 := rfl
  unfold Oper.wp execOp
  simp only [ho, resolve, invoke, builtin, Sem.run_bind, Sem.run_pure, Result.andThen_ok, List.map_toArray, List.map_cons, List.map_nil, hs, hx, hr]
  exact h v' w' h2 h3
/-- What a slice of calls holds, cell by cell. -/
theorem OpsAt.flat {w : World} {A : Option Addr} {b off : Nat} {l : List Op} {n : Nat} (h : OpsAt w A b off l) (hn : l.length = n) : ∀ j u, (allcells l n)[j]? = some u → ∃ ad, A = some ad ∧ w.cell? (ad.add j) = some u := by
  intro j u hu
  unfold allcells at hu
  rw [List.take_of_length_le (by omega)] at hu
  have hj : j < (l.flatMap opcells).length := (List.getElem?_eq_some_iff.1 hu).1
  have hlen : (l.flatMap opcells).length = l.length * 12 := by
    clear hu hj h hn
    induction l with
    | nil => rfl
    | cons x l ih => rw [List.flatMap_cons, List.length_append, ih, List.length_cons, Nat.succ_mul]; show 12 + _ = _; omega
  have hk : l[j / 12]? = some (l[j / 12]'(by omega)) := List.getElem?_eq_getElem (by omega)
  obtain ⟨hA, _, hc⟩ := h (j / 12) _ hk
  have hq : (opcells (l[j / 12]'(by omega)))[j % 12]? = some ((opcells (l[j / 12]'(by omega)))[j % 12]'(by show j % 12 < 12; omega)) := List.getElem?_eq_getElem (by show j % 12 < 12; omega)
  have hv := flat_at opcells 12 (fun _ => rfl) l (j / 12) _ hk (j % 12) _ hq
  rw [show j / 12 * 12 + j % 12 = j by omega, hu] at hv
  injection hv with hv
  refine ⟨_, hA, ?_⟩
  have := hc (j % 12) _ hq
  rw [← hv] at this
  rw [show (⟨b, off, none⟩ : Addr).add j = ⟨b, off + j, none⟩ by unfold Addr.add; split <;> simp_all]
  rw [show off + j = off + j / 12 * 12 + j % 12 by omega]
  exact this
theorem OpsAt.below {w w' : World} {A : Option Addr} {b off : Nat} {l : List Op} (h : OpsAt w A b off l) (hb : Below w.heap.size w w') : OpsAt w' A b off l := fun k o ho =>
  ⟨(h k o ho).1, Nat.lt_of_lt_of_le (h k o ho).2.1 hb.size, fun j v hv => (hb.cell (p := ⟨b, off + k * 12 + j, none⟩) (h k o ho).2.1).trans ((h k o ho).2.2 j v hv)⟩
theorem opsAt_own {W : World} {base g c n t : Nat} {l : List Op} (ho : W.ownsRow base t 12 (.slice (some ⟨g, 0, none⟩) n c) n (allcells l n)) (hn : l.length = n) : OpsAt W (some ⟨g, 0, none⟩) g 0 l := by
  intro k o hk
  have hkn : k < n := by have := (List.getElem?_eq_some_iff.1 hk).1; omega
  refine ⟨rfl, (ho.lt g rfl).2, fun j v hj => ?_⟩
  have hj12 : j < 12 := (List.getElem?_eq_some_iff.1 hj).1
  rw [show 0 + k * 12 + j = k * 12 + j by omega, ho.cellAt (k * 12 + j) (by omega)]
  unfold allcells
  rw [List.take_of_length_le (by omega)]
  exact flat_at opcells 12 (fun _ => rfl) l k o hk j v hj
theorem own_cap {W : World} {base t sz g n c : Nat} {xs : List Value} (h : W.ownsRow base t sz (.slice (some ⟨g, 0, none⟩) n c) n xs) : n ≤ c := by
  rcases h.2 with ⟨h', _⟩ | ⟨g', cap', cur, h', _, hg, hc, _⟩
  · simp at h'
  · simp only [Value.slice.injEq] at h'
    omega
theorem cells_at {W : World} {base t g n c : Nat} {s : C × R} {l : List Op} (ho : W.ownsRow base t 11 (.slice (some ⟨g, 0, none⟩) (n + 1) c) (n + 1) (outs s l n)) {j : Nat} (hj : j ≤ n) {q : Nat} {v : Value} (hq : (ocells (sAt s l j).1 (sAt s l j).2).toList[q]? = some v) :
    W.cell? ⟨g, j * 11 + q, none⟩ = some v := by
  have hq11 : q < 11 := (List.getElem?_eq_some_iff.1 hq).1
  rw [ho.cellAt (j * 11 + q) (by omega)]
  exact outs_at s l n j hj q v hq
theorem blk_new1 (w : World) (o : Obj) (t : TypeId) (cs : Array Value) : Blk ((w.alloc o).alloc (.cells cs t)) (w.heap.size + 1) t cs := by
  rw [show w.heap.size + 1 = (w.alloc o).heap.size by simp]
  exact Blk.new _ _ _
theorem oneCells (l : List Op) (n : Nat) : ∀ u ∈ allcells l n, u.oneCell' = true := by
  intro u hu
  unfold allcells at hu
  obtain ⟨o, _, h⟩ := List.mem_flatMap.1 hu
  simp [opcells] at h
  rcases h with h | h | h | h | h | h | h | h | h | h | h | h <;> (subst h; rfl)
theorem allcells_len {l : List Op} {n : Nat} (h : l.length = n) : (allcells l n).length = n * 12 := by
  unfold allcells
  rw [List.take_of_length_le (by omega)]
  subst h
  induction l with
  | nil => rfl
  | cons x l ih => rw [List.flatMap_cons, List.length_append, ih, List.length_cons, Nat.succ_mul]; show 12 + _ = _; omega

set_option maxRecDepth 100000 in
set_option maxHeartbeats 8000000 in
theorem half_walk (A : Option Addr) (b off n cap : Nat) (size : Int) (l : List Op) (p : Op) (w : World) (hn : l.length = n) (hin : OpsAt w A b off l) :
    Calls Try.prog 3 #[.int .i64 size, .slice A n cap, .agg #[.int .i64 p.kind, .int .i64 p.space, .int .i64 p.now, .int .i64 p.time, .int .i64 p.num, .int .i64 p.size, .bool p.el, .bool p.inf, .bool p.v, .int .i64 p.lat, .int .i64 p.del, .int .i64 p.lim]] w fun e w' => e = .returned (.bool true) ∧ Below w.heap.size w w' := by
  have HIN := Lib.hid hin
  have HLN := Lib.hid hn
  clear hin hn
  by_cases hbig : 2147483647 < n
  · have hb1 : (2147483647 : Int) < (n : Int) := by omega
    go_enter Try.func3, Try.ntmps3
    go_wp2
    go_ret
    exact ⟨rfl, (Below.refl _ _).alloc (Nat.le_refl _) _⟩
  · have hb1 : (n : Int) ≤ 2147483647 := by omega
    have hb2 : n ≤ 2147483647 := by omega
    clear hbig
    go_enter Try.func3, Try.ntmps3
    go_wp2
    refine wp_let (fun W => Blk W w.heap.size 24 #[.int .i64 2, .int .i64 p.space, .int .i64 p.now, .int .i64 p.time, .int .i64 p.num, .int .i64 p.size, .bool p.el, .bool true, .bool p.v, .int .i64 p.lat, .int .i64 p.del, .int .i64 p.lim] ∧ Blk W (w.heap.size + 1) 24 #[.int .i64 4, .int .i64 p.space, .int .i64 2999999, .int .i64 0, .int .i64 0, .int .i64 0, .bool false, .bool false, .bool false, .int .i64 0, .int .i64 0, .int .i64 0] ∧ Below w.heap.size w W ∧ w.heap.size + 2 ≤ W.heap.size) ⟨(Blk.new w 24 _).alloc _, (by have h := Blk.new (w.alloc (.cells #[.int .i64 2, .int .i64 p.space, .int .i64 p.now, .int .i64 p.time, .int .i64 p.num, .int .i64 p.size, .bool p.el, .bool true, .bool p.v, .int .i64 p.lat, .int .i64 p.del, .int .i64 p.lim] 24)) 24 #[.int .i64 4, .int .i64 p.space, .int .i64 2999999, .int .i64 0, .int .i64 0, .int .i64 0, .bool false, .bool false, .bool false, .int .i64 0, .int .i64 0, .int .i64 0]; rw [show (w.alloc (.cells #[.int .i64 2, .int .i64 p.space, .int .i64 p.now, .int .i64 p.time, .int .i64 p.num, .int .i64 p.size, .bool p.el, .bool true, .bool p.v, .int .i64 p.lat, .int .i64 p.del, .int .i64 p.lim] 24)).heap.size = w.heap.size + 1 by simp] at h; exact h), ((Below.refl _ _).alloc (Nat.le_refl _) _).alloc (by simp) _, by simp⟩ ?_
    rintro W ⟨hp, he, hb, hs⟩
    have HP := Lib.hid hp
    have HE := Lib.hid he
    have HB := Lib.hid hb
    have HS := Lib.hid hs
    have HRD := Lib.hid (HIN.out.below hb)
    clear hp he hb hs
    go_cut [8] (fun v V => ∃ g c, v = .slice (some ⟨g, 0, none⟩) (n + 2) c ∧ V.ownsRow (w.heap.size + 2) 24 12 (.slice (some ⟨g, 0, none⟩) (n + 2) c) (n + 2) (allcells (allOf l p) (n + 2)) ∧ Below w.heap.size w V ∧ Blk V w.heap.size 24 #[.int .i64 2, .int .i64 p.space, .int .i64 p.now, .int .i64 p.time, .int .i64 p.num, .int .i64 p.size, .bool p.el, .bool true, .bool p.v, .int .i64 p.lat, .int .i64 p.del, .int .i64 p.lim])
    case first =>
      obtain ⟨ti, hi, hz0, hz1, hz2⟩ := info_parts Try.info24
      refine wp_region_held_drew (S := fun V => Blk V w.heap.size 24 #[.int .i64 2, .int .i64 p.space, .int .i64 p.now, .int .i64 p.time, .int .i64 p.num, .int .i64 p.size, .bool p.el, .bool true, .bool p.v, .int .i64 p.lat, .int .i64 p.del, .int .i64 p.lim] ∧ Blk V (w.heap.size + 1) 24 #[.int .i64 4, .int .i64 p.space, .int .i64 2999999, .int .i64 0, .int .i64 0, .int .i64 0, .bool false, .bool false, .bool false, .int .i64 0, .int .i64 0, .int .i64 0]) (by kernel_rfl) ⟨HP.out.drew, HE.out.drew⟩ (fun hHeld => ?_)
      refine wpAnyH_take (i := 0) (oi := { dst := some 24, op := Op.move (Operand.tmp 1), type := 22, pos := "laws.go:181", after := #[], guard := none }) (v := _) rfl (by kernel_rfl) (by kernel_rfl) (by kernel_rfl) (fun _ _ _ h => h) (Or.inl ⟨by rfl, by intro V hSw; go_simp; try with_reducible rfl⟩) (by assumption) ?_
      try simp only [Act.put, List.setIfInBounds_toArray, List.set_cons_zero, List.set_cons_succ]
      refine wpAnyH_take (i := 2) (oi := { dst := some 26, op := Op.load 24 (Operand.tmp 5), type := 24, pos := "laws.go:181", after := #[], guard := none }) (v := _) rfl (by kernel_rfl) (by kernel_rfl) (by kernel_rfl) (fun _ _ _ h => h) (Or.inl ⟨by rfl, by intro V hSw; have c0 : V.cell? ⟨w.heap.size, 0, none⟩ = some (.int .i64 2) := hSw.1.cellAt 0 rfl; have c1 : V.cell? ⟨w.heap.size, 1, none⟩ = some (.int .i64 p.space) := hSw.1.cellAt 1 rfl; have c2 : V.cell? ⟨w.heap.size, 2, none⟩ = some (.int .i64 p.now) := hSw.1.cellAt 2 rfl; have c3 : V.cell? ⟨w.heap.size, 3, none⟩ = some (.int .i64 p.time) := hSw.1.cellAt 3 rfl; have c4 : V.cell? ⟨w.heap.size, 4, none⟩ = some (.int .i64 p.num) := hSw.1.cellAt 4 rfl; have c5 : V.cell? ⟨w.heap.size, 5, none⟩ = some (.int .i64 p.size) := hSw.1.cellAt 5 rfl; have c6 : V.cell? ⟨w.heap.size, 6, none⟩ = some (.bool p.el) := hSw.1.cellAt 6 rfl; have c7 : V.cell? ⟨w.heap.size, 7, none⟩ = some (.bool true) := hSw.1.cellAt 7 rfl; have c8 : V.cell? ⟨w.heap.size, 8, none⟩ = some (.bool p.v) := hSw.1.cellAt 8 rfl; have c9 : V.cell? ⟨w.heap.size, 9, none⟩ = some (.int .i64 p.lat) := hSw.1.cellAt 9 rfl; have c10 : V.cell? ⟨w.heap.size, 10, none⟩ = some (.int .i64 p.del) := hSw.1.cellAt 10 rfl; have c11 : V.cell? ⟨w.heap.size, 11, none⟩ = some (.int .i64 p.lim) := hSw.1.cellAt 11 rfl; clear hSw; go_simp; try with_reducible rfl⟩) (by assumption) ?_
      try simp only [Act.put, List.setIfInBounds_toArray, List.set_cons_zero, List.set_cons_succ]
      refine wpAnyH_take (i := 3) (oi := { dst := some 27, op := Op.load 24 (Operand.tmp 7), type := 24, pos := "laws.go:181", after := #[], guard := none }) (v := _) rfl (by kernel_rfl) (by kernel_rfl) (by kernel_rfl) (fun _ _ _ h => h) (Or.inl ⟨by rfl, by intro V hSw; have c0 : V.cell? ⟨w.heap.size + 1, 0, none⟩ = some (.int .i64 4) := hSw.2.cellAt 0 rfl; have c1 : V.cell? ⟨w.heap.size + 1, 1, none⟩ = some (.int .i64 p.space) := hSw.2.cellAt 1 rfl; have c2 : V.cell? ⟨w.heap.size + 1, 2, none⟩ = some (.int .i64 2999999) := hSw.2.cellAt 2 rfl; have c3 : V.cell? ⟨w.heap.size + 1, 3, none⟩ = some (.int .i64 0) := hSw.2.cellAt 3 rfl; have c4 : V.cell? ⟨w.heap.size + 1, 4, none⟩ = some (.int .i64 0) := hSw.2.cellAt 4 rfl; have c5 : V.cell? ⟨w.heap.size + 1, 5, none⟩ = some (.int .i64 0) := hSw.2.cellAt 5 rfl; have c6 : V.cell? ⟨w.heap.size + 1, 6, none⟩ = some (.bool false) := hSw.2.cellAt 6 rfl; have c7 : V.cell? ⟨w.heap.size + 1, 7, none⟩ = some (.bool false) := hSw.2.cellAt 7 rfl; have c8 : V.cell? ⟨w.heap.size + 1, 8, none⟩ = some (.bool false) := hSw.2.cellAt 8 rfl; have c9 : V.cell? ⟨w.heap.size + 1, 9, none⟩ = some (.int .i64 0) := hSw.2.cellAt 9 rfl; have c10 : V.cell? ⟨w.heap.size + 1, 10, none⟩ = some (.int .i64 0) := hSw.2.cellAt 10 rfl; have c11 : V.cell? ⟨w.heap.size + 1, 11, none⟩ = some (.int .i64 0) := hSw.2.cellAt 11 rfl; clear hSw; go_simp; try with_reducible rfl⟩) (by assumption) ?_
      try simp only [Act.put, List.setIfInBounds_toArray, List.set_cons_zero, List.set_cons_succ]
      refine wpAnyH_ready (rs := [1, 4]) (by kernel_rfl) (by simp) ?_
      refine AllReadyH.cons (o := { dst := some 25, op := Op.call { callee := Callee.builtin Builtin.append, args := #[Operand.const (Value.slice none 0 0), Operand.tmp 24], argTypes := #[22, 22] }, type := 22, pos := "laws.go:181", after := #[{ on := 0, ground := Ground.data }], guard := none }) rfl (fun K hK => ?_) (AllReadyH.cons (o := { dst := some 28, op := Op.buildSlice 22 2 #[(0, Operand.tmp 26), (1, Operand.tmp 27)], type := 22, pos := "laws.go:181", after := #[{ on := 2, ground := Ground.data }, { on := 3, ground := Ground.data }], guard := none }) rfl (fun K hK => ?_) AllReadyH.nil)
      · refine step_app W.drew (by rfl) _ _ (by rfl) (w.heap.size + 2) 24 ti _ 12 80 Try.underlying22 hi hz0 hz1 hz2 rfl (by omega) A n cap (allcells l n) (by rfl) (allcells_len HLN.out) (OpsAt.flat (HRD.out.below (Below.refl _ _).drew) HLN.out) (oneCells l n) (by unfold maxLen; omega) (by omega) HS.out ?_
        intro v1 X1 hown1 hbel1
        have HO1 := Lib.hid hown1
        have HX := Lib.hid hbel1
        clear hown1 hbel1
        refine hK.out _ _ ⟨HP.out.drew.below HX.out HP.out.lt, HE.out.drew.below HX.out HE.out.lt⟩ (fun hHeld2 => ?_)
        clear hK K
        try simp only [Act.put, List.setIfInBounds_toArray, List.set_cons_zero, List.set_cons_succ]
        refine wpAnyH_ready (rs := [4]) (by kernel_rfl) (by simp) ?_
        refine AllReadyH.cons (o := { dst := some 28, op := Op.buildSlice 22 2 #[(0, Operand.tmp 26), (1, Operand.tmp 27)], type := 22, pos := "laws.go:181", after := #[{ on := 2, ground := Ground.data }, { on := 3, ground := Ground.data }], guard := none }) rfl (fun K hK => ?_) AllReadyH.nil
        go_simp
        refine hK.out _ _ ⟨hHeld2.1.alloc _, hHeld2.2.alloc _⟩ (fun hHeld3 => ?_)
        clear hK K
        try simp only [Act.put, List.setIfInBounds_toArray, List.set_cons_zero, List.set_cons_succ]
        refine wpAnyH_ready (rs := [5]) (by kernel_rfl) (by simp) ?_
        refine AllReadyH.cons (o := { dst := some 29, op := Op.call { callee := Callee.builtin Builtin.append, args := #[Operand.tmp 25, Operand.tmp 28], argTypes := #[22, 22] }, type := 22, pos := "laws.go:181", after := #[{ on := 1, ground := Ground.data }, { on := 4, ground := Ground.data }, { on := 1, ground := Ground.chain }], guard := none }) rfl (fun K hK => ?_) AllReadyH.nil
        refine step_append_lies (X1.alloc (.cells #[.int .i64 2, .int .i64 p.space, .int .i64 p.now, .int .i64 p.time, .int .i64 p.num, .int .i64 p.size, .bool p.el, .bool true, .bool p.v, .int .i64 p.lat, .int .i64 p.del, .int .i64 p.lim, .int .i64 4, .int .i64 p.space, .int .i64 2999999, .int .i64 0, .int .i64 0, .int .i64 0, .bool false, .bool false, .bool false, .int .i64 0, .int .i64 0, .int .i64 0] 24)) (by rfl) _ _ _ (by rfl) (w.heap.size + 2) 24 ti _ 12 80 Try.underlying22 hi hz0 hz1 hz2 rfl (by omega) v1 n (allcells l n) (by rfl) (HO1.out.alloc _) ⟨X1.heap.size, 0, none⟩ 2 2 [.int .i64 2, .int .i64 p.space, .int .i64 p.now, .int .i64 p.time, .int .i64 p.num, .int .i64 p.size, .bool p.el, .bool true, .bool p.v, .int .i64 p.lat, .int .i64 p.del, .int .i64 p.lim, .int .i64 4, .int .i64 p.space, .int .i64 2999999, .int .i64 0, .int .i64 0, .int .i64 0, .bool false, .bool false, .bool false, .int .i64 0, .int .i64 0, .int .i64 0] (by rfl) (by rfl) ?c1 ?c2 (by omega) (by unfold maxLen; omega) (by omega) ?c3 X1.heap.size.succ ?c4 ?_
        case c1 => exact World.news_of_block (cs := #[.int .i64 2, .int .i64 p.space, .int .i64 p.now, .int .i64 p.time, .int .i64 p.num, .int .i64 p.size, .bool p.el, .bool true, .bool p.v, .int .i64 p.lat, .int .i64 p.del, .int .i64 p.lim, .int .i64 4, .int .i64 p.space, .int .i64 2999999, .int .i64 0, .int .i64 0, .int .i64 0, .bool false, .bool false, .bool false, .int .i64 0, .int .i64 0, .int .i64 0]) (heap_alloc_new _ _)
        case c2 => simp [Value.oneCell']
        case c3 => have h1 := HS.out; have h2 := HX.out.size; simp at h2 ⊢; omega
        case c4 => simp
        · intro g c X2 hown2 hgrow2 hnil hlt2
          refine hK.out _ _ ⟨hHeld3.1.grown hgrow2 (fun e => by have := (HO1.out.lt _ e.symm).1; omega), hHeld3.2.grown hgrow2 (fun e => by have := (HO1.out.lt _ e.symm).1; omega)⟩ (fun hHeld4 => ?_)
          clear hK K
          try simp only [Act.put, List.setIfInBounds_toArray, List.set_cons_zero, List.set_cons_succ]
          refine wpAnyH_take (i := 6) (oi := { dst := some 8, op := Op.assign (Operand.tmp 29), type := 22, pos := "laws.go:181", after := #[{ on := 5, ground := Ground.data }, { on := 5, ground := Ground.chain }, { on := 0, ground := Ground.phase }, { on := 1, ground := Ground.phase }, { on := 2, ground := Ground.phase }, { on := 3, ground := Ground.phase }, { on := 4, ground := Ground.phase }, { on := 5, ground := Ground.phase }], guard := none }) (v := _) rfl (by kernel_rfl) (by kernel_rfl) (by kernel_rfl) (fun _ _ _ h => h) (Or.inl ⟨by rfl, by intro V hSw; go_simp; try with_reducible rfl⟩) (by assumption) ?_
          try simp only [Act.put, List.setIfInBounds_toArray, List.set_cons_zero, List.set_cons_succ]
          refine wpAnyH_done (by kernel_rfl) ?_ _
          go_wp2
          go_meet
          case rel => exact ⟨g, c, rfl, by rw [allOf_cells HLN.out]; exact hown2, ((HB.out.drew.trans (HX.out.mono HB.out.size)).alloc (by have h1 := HB.out.size; have h2 := HX.out.size; simp at h2 ⊢; omega) _).grown hgrow2 (by have h1 := HB.out.size; have h2 := HX.out.size; simp at h2 ⊢; omega) (fun q e => by have := (HO1.out.lt q e).1; omega), hHeld4.1⟩
      · go_simp
        refine hK.out _ _ ⟨HP.out.drew.alloc _, HE.out.drew.alloc _⟩ (fun hHeld2 => ?_)
        clear hK K
        try simp only [Act.put, List.setIfInBounds_toArray, List.set_cons_zero, List.set_cons_succ]
        refine wpAnyH_ready (rs := [1]) (by kernel_rfl) (by simp) ?_
        refine AllReadyH.cons (o := { dst := some 25, op := Op.call { callee := Callee.builtin Builtin.append, args := #[Operand.const (Value.slice none 0 0), Operand.tmp 24], argTypes := #[22, 22] }, type := 22, pos := "laws.go:181", after := #[{ on := 0, ground := Ground.data }], guard := none }) rfl (fun K hK => ?_) AllReadyH.nil
        have HW1 := Lib.hid (show Blk (W.drew.alloc (.cells #[.int .i64 2, .int .i64 p.space, .int .i64 p.now, .int .i64 p.time, .int .i64 p.num, .int .i64 p.size, .bool p.el, .bool true, .bool p.v, .int .i64 p.lat, .int .i64 p.del, .int .i64 p.lim, .int .i64 4, .int .i64 p.space, .int .i64 2999999, .int .i64 0, .int .i64 0, .int .i64 0, .bool false, .bool false, .bool false, .int .i64 0, .int .i64 0, .int .i64 0] 24)) W.heap.size 24 #[.int .i64 2, .int .i64 p.space, .int .i64 p.now, .int .i64 p.time, .int .i64 p.num, .int .i64 p.size, .bool p.el, .bool true, .bool p.v, .int .i64 p.lat, .int .i64 p.del, .int .i64 p.lim, .int .i64 4, .int .i64 p.space, .int .i64 2999999, .int .i64 0, .int .i64 0, .int .i64 0, .bool false, .bool false, .bool false, .int .i64 0, .int .i64 0, .int .i64 0] from Blk.new W.drew 24 _)
        refine step_app (W.drew.alloc (.cells #[.int .i64 2, .int .i64 p.space, .int .i64 p.now, .int .i64 p.time, .int .i64 p.num, .int .i64 p.size, .bool p.el, .bool true, .bool p.v, .int .i64 p.lat, .int .i64 p.del, .int .i64 p.lim, .int .i64 4, .int .i64 p.space, .int .i64 2999999, .int .i64 0, .int .i64 0, .int .i64 0, .bool false, .bool false, .bool false, .int .i64 0, .int .i64 0, .int .i64 0] 24)) (by rfl) _ _ (by rfl) (w.heap.size + 2) 24 ti _ 12 80 Try.underlying22 hi hz0 hz1 hz2 rfl (by omega) A n cap (allcells l n) (by rfl) (allcells_len HLN.out) (OpsAt.flat (HRD.out.below ((Below.refl _ _).drew.alloc (by simp) _)) HLN.out) (oneCells l n) (by unfold maxLen; omega) (by omega) (by have := HS.out; simp; omega) ?_
        intro v1 X1 hown1 hbel1
        have HO1 := Lib.hid hown1
        have HX := Lib.hid hbel1
        clear hown1 hbel1
        refine hK.out _ _ ⟨hHeld2.1.below HX.out hHeld2.1.lt, hHeld2.2.below HX.out hHeld2.2.lt⟩ (fun hHeld3 => ?_)
        clear hK K
        try simp only [Act.put, List.setIfInBounds_toArray, List.set_cons_zero, List.set_cons_succ]
        refine wpAnyH_ready (rs := [5]) (by kernel_rfl) (by simp) ?_
        refine AllReadyH.cons (o := { dst := some 29, op := Op.call { callee := Callee.builtin Builtin.append, args := #[Operand.tmp 25, Operand.tmp 28], argTypes := #[22, 22] }, type := 22, pos := "laws.go:181", after := #[{ on := 1, ground := Ground.data }, { on := 4, ground := Ground.data }, { on := 1, ground := Ground.chain }], guard := none }) rfl (fun K hK => ?_) AllReadyH.nil
        refine step_append_lies X1 (by rfl) _ _ _ (by rfl) (w.heap.size + 2) 24 ti _ 12 80 Try.underlying22 hi hz0 hz1 hz2 rfl (by omega) v1 n (allcells l n) (by rfl) HO1.out ⟨W.heap.size, 0, none⟩ 2 2 [.int .i64 2, .int .i64 p.space, .int .i64 p.now, .int .i64 p.time, .int .i64 p.num, .int .i64 p.size, .bool p.el, .bool true, .bool p.v, .int .i64 p.lat, .int .i64 p.del, .int .i64 p.lim, .int .i64 4, .int .i64 p.space, .int .i64 2999999, .int .i64 0, .int .i64 0, .int .i64 0, .bool false, .bool false, .bool false, .int .i64 0, .int .i64 0, .int .i64 0] (by rfl) (by rfl) ?c1 ?c2 (by omega) (by unfold maxLen; omega) (by omega) ?c3 X1.heap.size rfl ?_
        case c1 => exact World.news_of_block (cs := #[.int .i64 2, .int .i64 p.space, .int .i64 p.now, .int .i64 p.time, .int .i64 p.num, .int .i64 p.size, .bool p.el, .bool true, .bool p.v, .int .i64 p.lat, .int .i64 p.del, .int .i64 p.lim, .int .i64 4, .int .i64 p.space, .int .i64 2999999, .int .i64 0, .int .i64 0, .int .i64 0, .bool false, .bool false, .bool false, .int .i64 0, .int .i64 0, .int .i64 0]) (HW1.out.below HX.out HW1.out.lt)
        case c2 => simp [Value.oneCell']
        case c3 => have h1 := HS.out; have h2 := HX.out.size; simp at h2 ⊢; omega
        · intro g c X2 hown2 hgrow2 hnil hlt2
          refine hK.out _ _ ⟨hHeld3.1.grown hgrow2 (fun e => by have := (HO1.out.lt _ e.symm).1; omega), hHeld3.2.grown hgrow2 (fun e => by have := (HO1.out.lt _ e.symm).1; omega)⟩ (fun hHeld4 => ?_)
          clear hK K
          try simp only [Act.put, List.setIfInBounds_toArray, List.set_cons_zero, List.set_cons_succ]
          refine wpAnyH_take (i := 6) (oi := { dst := some 8, op := Op.assign (Operand.tmp 29), type := 22, pos := "laws.go:181", after := #[{ on := 5, ground := Ground.data }, { on := 5, ground := Ground.chain }, { on := 0, ground := Ground.phase }, { on := 1, ground := Ground.phase }, { on := 2, ground := Ground.phase }, { on := 3, ground := Ground.phase }, { on := 4, ground := Ground.phase }, { on := 5, ground := Ground.phase }], guard := none }) (v := _) rfl (by kernel_rfl) (by kernel_rfl) (by kernel_rfl) (fun _ _ _ h => h) (Or.inl ⟨by rfl, by intro V hSw; go_simp; try with_reducible rfl⟩) (by assumption) ?_
          try simp only [Act.put, List.setIfInBounds_toArray, List.set_cons_zero, List.set_cons_succ]
          refine wpAnyH_done (by kernel_rfl) ?_ _
          go_wp2
          go_meet
          case rel => exact ⟨g, c, rfl, by rw [allOf_cells HLN.out]; exact hown2, ((HB.out.drew.alloc HB.out.size _).trans (HX.out.mono (by have h1 := HB.out.size; simp at h1 ⊢; omega))).grown hgrow2 (by have h1 := HB.out.size; have h2 := HX.out.size; simp at h1 h2 ⊢; omega) (fun q e => by have := (HO1.out.lt q e).1; omega), hHeld4.1⟩
    case rest =>
      obtain ⟨g, c, rfl, ho, hb, hp⟩ := hcut
      have HO := Lib.hid ho
      have HB' := Lib.hid hb
      have HP' := Lib.hid hp
      clear ho hb hp
      go_upto_region 7 with (go_at_call 5; refine (told_any (some ⟨g, 0, none⟩) g 0 (n + 2) _ size (allOf l p) _ (allOf_len HLN.out) (by omega) (opsAt_own HO.out (allOf_len HLN.out))).mono ?_; rintro e W2 ⟨v2, rfl, ho2, hb2⟩; have HO2 := Lib.hid ho2; have HB2 := Lib.hid hb2; clear ho2 hb2)
      by_cases hT : toldB size (allOf l p) = false
      · rw [hT]
        clear hT
        go_wp2
        go_ret
        exact ⟨rfl, HB'.out.trans (HB2.out.mono HB'.out.size)⟩
      have hT1 : toldB size (allOf l p) = true := by simpa using hT
      clear hT
      rw [hT1]
      obtain ⟨hgood, hlen, hs0, hs1⟩ := of_decide_eq_true hT1
      have ho2 := HO2.out hT1
      rw [allOf_len HLN.out] at hlen
      clear hT1
      obtain ⟨g2, c2, rfl, hg2, hl2⟩ := ho2.form (by omega)
      have HL2 := Lib.hid hl2
      have hcap2 : n + 2 ≤ c2 := own_cap ho2
      have hcap0 : n ≤ c2 := by omega
      have hcap1 : (n : Int) ≤ (c2 : Int) := by omega
      have HC2 := Lib.hid (show ∀ (k : Nat) (o : Op), (allOf l p)[k]? = some o → ∀ (j : Nat) (v : Value), (opcells o)[j]? = some v → W2.cell? ⟨g2, k * 12 + j, none⟩ = some v from fun k o hk j v hj => by
        have h := ((opsAt_own ho2 (allOf_len HLN.out)) k o hk).2.2 j v hj
        rwa [show 0 + k * 12 + j = k * 12 + j by omega] at h)
      have HGD := Lib.hid (show ∀ o ∈ allOf l p, Good o from fun o ho => good_of (hgood o ho).1 (hgood o ho).2)
      have HB3 := Lib.hid (HB'.out.trans (HB2.out.mono HB'.out.size))
      have HP3 := Lib.hid (HP'.out.below HB2.out HP'.out.lt)
      have HO3 := Lib.hid (OpsAt.below (opsAt_own HO.out (allOf_len HLN.out)) HB2.out)
      have HRD3 := Lib.hid (HIN.out.below (HB'.out.trans (HB2.out.mono HB'.out.size)))
      clear ho2 HO2 HO hgood hg2 hl2 HB' HP' HB2
      go_cut [52] (fun v W => W = W2 ∧ ∃ t : Bool, v = .bool t ∧ (t = false → ∀ k o, n = k + 1 → l[k]? = some o → o.kind = 4))
      case first =>
        rcases n with _ | m
        · go_wp2
          all_goals go_meet
          all_goals (case rel => exact ⟨rfl, _, rfl, fun _ k o h => absurd h (by omega)⟩)
        · obtain ⟨o, ho⟩ : ∃ o, l[m]? = some o := ⟨_, List.getElem?_eq_getElem (by have := HLN.out; omega)⟩
          obtain ⟨eA, hlb, hcell⟩ := HRD3.out m o ho
          have i0 : W2.cell? ⟨b, off + m * 12, none⟩ = some (.int .i64 o.kind) := hcell 0 _ rfl
          have HLO := Lib.hid ho
          clear ho hcell
          have hk0 : (0 : Int) ≤ (m : Int) := by omega
          subst eA
          go_wp2
          all_goals go_meet
          all_goals (case rel => exact ⟨rfl, _, rfl, fun hf k o' h h' => by
                 have e : k = m := by omega
                 subst e
                 rw [HLO.out] at h'
                 injection h' with h'
                 subst h'
                 simpa using hf⟩)
      case rest =>
        obtain ⟨rfl, t, rfl, hlast⟩ := hcut
        rcases t with _ | _
        case true =>
          clear hlast
          go_wp2
          go_ret
          exact ⟨rfl, HB3.out⟩
        have HLAST := Lib.hid (hlast rfl)
        clear hlast
        have hb3 : (n : Int) ≤ (n : Int) + 2 := by omega
        have hb4 : n ≤ n + 2 := by omega
        go_wp2
        go_loopw [58] (fun i W => ∃ k : Nat, k ≤ n ∧ i = .int .i64 k ∧ Below wc.heap.size wc W ∧ ∀ j o, j < k → l[j]? = some o → o.kind = 4 → o.now < p.time) (fun i _ => n - (intOf i).toNat)
        case atStart => exact ⟨0, Nat.zero_le _, rfl, Below.refl _ _, fun j o h => absurd h (by omega)⟩
        case round =>
          obtain ⟨k, hk, rfl, hW, hG⟩ := hrel
          have HW := Lib.hid hW
          have HG := Lib.hid hG
          clear hW hG
          by_cases hlt : k < n
          · obtain ⟨o, ho⟩ : ∃ o, l[k]? = some o := ⟨_, List.getElem?_eq_getElem (by have := HLN.out; omega)⟩
            have HLO := Lib.hid ho
            have HAO := Lib.hid (show (allOf l p)[k]? = some o by unfold allOf; rw [List.getElem?_append_left (by have := HLN.out; omega)]; exact ho)
            clear ho
            have hk0 : (0 : Int) ≤ (k : Int) := by omega
            have hk1 : (k : Int) < (n : Int) := by omega
            have i0 : wr.cell? ⟨g2, k * 12, none⟩ = some (.int .i64 o.kind) := (HW.out.cell (p := ⟨g2, k * 12, none⟩) HL2.out).trans (HC2.out k o HAO.out 0 _ rfl)
            have i1 : wr.cell? ⟨g2, k * 12 + 1, none⟩ = some (.int .i64 o.space) := (HW.out.cell (p := ⟨g2, k * 12 + 1, none⟩) HL2.out).trans (HC2.out k o HAO.out 1 _ rfl)
            have i2 : wr.cell? ⟨g2, k * 12 + 2, none⟩ = some (.int .i64 o.now) := (HW.out.cell (p := ⟨g2, k * 12 + 2, none⟩) HL2.out).trans (HC2.out k o HAO.out 2 _ rfl)
            have i3 : wr.cell? ⟨g2, k * 12 + 3, none⟩ = some (.int .i64 o.time) := (HW.out.cell (p := ⟨g2, k * 12 + 3, none⟩) HL2.out).trans (HC2.out k o HAO.out 3 _ rfl)
            have i4 : wr.cell? ⟨g2, k * 12 + 4, none⟩ = some (.int .i64 o.num) := (HW.out.cell (p := ⟨g2, k * 12 + 4, none⟩) HL2.out).trans (HC2.out k o HAO.out 4 _ rfl)
            have i5 : wr.cell? ⟨g2, k * 12 + 5, none⟩ = some (.int .i64 o.size) := (HW.out.cell (p := ⟨g2, k * 12 + 5, none⟩) HL2.out).trans (HC2.out k o HAO.out 5 _ rfl)
            have i6 : wr.cell? ⟨g2, k * 12 + 6, none⟩ = some (.bool o.el) := (HW.out.cell (p := ⟨g2, k * 12 + 6, none⟩) HL2.out).trans (HC2.out k o HAO.out 6 _ rfl)
            have i7 : wr.cell? ⟨g2, k * 12 + 7, none⟩ = some (.bool o.inf) := (HW.out.cell (p := ⟨g2, k * 12 + 7, none⟩) HL2.out).trans (HC2.out k o HAO.out 7 _ rfl)
            have i8 : wr.cell? ⟨g2, k * 12 + 8, none⟩ = some (.bool o.v) := (HW.out.cell (p := ⟨g2, k * 12 + 8, none⟩) HL2.out).trans (HC2.out k o HAO.out 8 _ rfl)
            have i9 : wr.cell? ⟨g2, k * 12 + 9, none⟩ = some (.int .i64 o.lat) := (HW.out.cell (p := ⟨g2, k * 12 + 9, none⟩) HL2.out).trans (HC2.out k o HAO.out 9 _ rfl)
            have i10 : wr.cell? ⟨g2, k * 12 + 10, none⟩ = some (.int .i64 o.del) := (HW.out.cell (p := ⟨g2, k * 12 + 10, none⟩) HL2.out).trans (HC2.out k o HAO.out 10 _ rfl)
            have i11 : wr.cell? ⟨g2, k * 12 + 11, none⟩ = some (.int .i64 o.lim) := (HW.out.cell (p := ⟨g2, k * 12 + 11, none⟩) HL2.out).trans (HC2.out k o HAO.out 11 _ rfl)
            have pc3 : wr.cell? ⟨w.heap.size, 3, none⟩ = some (.int .i64 p.time) := (HW.out.cell (p := ⟨w.heap.size, 3, none⟩) HP3.out.lt).trans (HP3.out.cellAt 3 rfl)
            have hwlt : w.heap.size < wr.heap.size := Nat.lt_of_lt_of_le HP3.out.lt HW.out.size
            go_wp2
            all_goals first
              | (go_roundw
                 case rel => exact ⟨k + 1, by omega, by go_num, HW.out.alloc HW.out.size _, fun j o' hj hl' h4 => by
                   rcases Nat.lt_or_ge j k with h | h
                   · exact HG.out j o' h hl' h4
                   · have e : j = k := by omega
                     subst e
                     rw [HLO.out] at hl'
                     injection hl' with hl'
                     subst hl'
                     omega⟩
                 case measure => simp [intOf]; omega)
              | (go_ret
                 exact ⟨rfl, (HB3.out.trans (HW.out.mono HB3.out.size)).alloc (by have h1 := HB3.out.size; have h2 := HW.out.size; omega) _⟩)
          · have EJ := Lib.hid (show k = n by omega)
            have HBF := Lib.hid (show ∀ o ∈ l, o.kind = 4 → o.now < p.time from fun o ho h4 => by
              obtain ⟨j, hj⟩ := List.getElem?_of_mem ho
              have hjl := (List.getElem?_eq_some_iff.1 hj).1
              exact HG.out j o (by have := EJ.out; have := HLN.out; omega) hj h4)
            have HB4 := Lib.hid (HB3.out.trans (HW.out.mono HB3.out.size))
            have HO4 := Lib.hid (OpsAt.below HO3.out HW.out)
            clear HG HW HO3 HB3 HP3 HL2 HC2 HRD3
            go_upto_region 18 with (go_at_call 6; refine (run_any (some ⟨g, 0, none⟩) g 0 (n + 2) _ size (allOf l p) _ hs0 hs1 (allOf_len HLN.out) (by omega) HGD.out HO4.out).mono ?_; rintro e W3 ⟨g3, c3, rfl, ho3, hb3⟩; have HO5 := Lib.hid ho3; have HB5 := Lib.hid hb3; clear ho3 hb3)
            have hlt3 : g3 < W3.heap.size := (HO5.out.lt g3 rfl).2
            have hcell : ∀ j, j ≤ n + 2 → ∀ (q : Nat) (v : Value), (ocells (sAt (C.new size, R.new) (allOf l p) j).1 (sAt (C.new size, R.new) (allOf l p) j).2).toList[q]? = some v → W3.cell? ⟨g3, j * 11 + q, none⟩ = some v := fun j hj q v hq => cells_at HO5.out hj hq
            have hE := halves (size := size) (l := l) (p := lostOf p) (e := endOf p) HLN.out rfl rfl rfl (HGD.out (lostOf p) (by simp [allOf])).t0 HLAST.out HBF.out
            rw [show l ++ [lostOf p, endOf p] = allOf l p from rfl] at hE
            obtain ⟨E2', E0', E6', E5', E4'⟩ := hE
            obtain ⟨hi1, hi2⟩ := sAt_inv hs0 hs1 (l := allOf l p) (by rw [allOf_len HLN.out]; exact hlen) HGD.out n (by rw [allOf_len HLN.out]; omega)
            have HA := Lib.hid (hcell n (by omega))
            have HBb := Lib.hid (hcell (n + 2) (by omega))
            clear hcell
            have hcw0 := hi1.w0
            have hcw1 := hi1.w1
            have hcp := hi1.p0
            have hcm := hi1.m0
            clear hi1 hi2
            have E2 := Lib.hid E2'
            have E0 := Lib.hid E0'
            have E6 := Lib.hid E6'
            have E5 := Lib.hid E5'
            have E4 := Lib.hid E4'
            clear E2' E0' E6' E5' E4'
            generalize sAt (C.new size, R.new) (allOf l p) n = sa at *
            generalize sAt (C.new size, R.new) (allOf l p) (n + 2) = sb at *
            have a0 : W3.cell? ⟨g3, n * 11, none⟩ = some (.int .i64 sa.1.cw) := HA.out 0 _ rfl
            have a1 : W3.cell? ⟨g3, n * 11 + 1, none⟩ = some (.int .i64 sa.1.fl) := HA.out 1 _ rfl
            have a2 : W3.cell? ⟨g3, n * 11 + 2, none⟩ = some (.int .i64 sa.1.thr) := HA.out 2 _ rfl
            have a3 : W3.cell? ⟨g3, n * 11 + 3, none⟩ = some (.int .i64 sa.1.pend) := HA.out 3 _ rfl
            have a4 : W3.cell? ⟨g3, n * 11 + 4, none⟩ = some (.bool sa.1.can) := HA.out 4 _ rfl
            have a5 : W3.cell? ⟨g3, n * 11 + 5, none⟩ = some (.bool sa.1.one) := HA.out 5 _ rfl
            have a6 : W3.cell? ⟨g3, n * 11 + 6, none⟩ = some (.bool sa.1.inr) := HA.out 6 _ rfl
            have a7 : W3.cell? ⟨g3, n * 11 + 7, none⟩ = some (.string sa.1.name) := HA.out 7 _ rfl
            have a8 : W3.cell? ⟨g3, n * 11 + 8, none⟩ = some (.int .i64 sa.2.mn) := HA.out 8 _ rfl
            have a9 : W3.cell? ⟨g3, n * 11 + 9, none⟩ = some (.int .i64 sa.2.sm) := HA.out 9 _ rfl
            have a10 : W3.cell? ⟨g3, n * 11 + 10, none⟩ = some (.int .i64 sa.2.var) := HA.out 10 _ rfl
            have b0 : W3.cell? ⟨g3, (n + 2) * 11, none⟩ = some (.int .i64 (max (sa.1.cw / 2) (2 * size))) := by have h := HBb.out 0 _ rfl; rw [E0.out] at h; exact h
            have b1 : W3.cell? ⟨g3, (n + 2) * 11 + 1, none⟩ = some (.int .i64 sb.1.fl) := HBb.out 1 _ rfl
            have b2 : W3.cell? ⟨g3, (n + 2) * 11 + 2, none⟩ = some (.int .i64 (sa.1.cw / 2)) := by have h := HBb.out 2 _ rfl; rw [E2.out] at h; exact h
            have b3 : W3.cell? ⟨g3, (n + 2) * 11 + 3, none⟩ = some (.int .i64 sb.1.pend) := HBb.out 3 _ rfl
            have b4 : W3.cell? ⟨g3, (n + 2) * 11 + 4, none⟩ = some (.bool true) := by have h := HBb.out 4 _ rfl; rw [E4.out] at h; exact h
            have b5 : W3.cell? ⟨g3, (n + 2) * 11 + 5, none⟩ = some (.bool true) := by have h := HBb.out 5 _ rfl; rw [E5.out] at h; exact h
            have b6 : W3.cell? ⟨g3, (n + 2) * 11 + 6, none⟩ = some (.bool true) := by have h := HBb.out 6 _ rfl; rw [E6.out] at h; exact h
            have b7 : W3.cell? ⟨g3, (n + 2) * 11 + 7, none⟩ = some (.string sb.1.name) := HBb.out 7 _ rfl
            have b8 : W3.cell? ⟨g3, (n + 2) * 11 + 8, none⟩ = some (.int .i64 sb.2.mn) := HBb.out 8 _ rfl
            have b9 : W3.cell? ⟨g3, (n + 2) * 11 + 9, none⟩ = some (.int .i64 sb.2.sm) := HBb.out 9 _ rfl
            have b10 : W3.cell? ⟨g3, (n + 2) * 11 + 10, none⟩ = some (.int .i64 sb.2.var) := HBb.out 10 _ rfl
            have ht2 : ((n : Int) + 2).toNat = n + 2 := by omega
            have hwr : IntKind.i64.wrap ((n : Int) + 2) = (n : Int) + 2 := Go.IntWalk.i64_in _ ⟨by omega, by omega⟩
            have hq1 : (n : Int) < (n : Int) + 2 + 1 := by omega
            have hq2 : (n : Int) + 2 < (n : Int) + 2 + 1 := by omega
            have hq3 : (0 : Int) ≤ (n : Int) + 2 := by omega
            clear HA HBb E2 E0 E6 E5 E4
            go_cut [14, 15] (fun u v V => ∃ ga gb, u = .pointer (some ⟨ga, 0, none⟩) ∧ v = .pointer (some ⟨gb, 0, none⟩) ∧ Blk V ga 32 #[.int .i64 sa.1.cw, .int .i64 sa.1.fl, .int .i64 sa.1.thr, .int .i64 sa.1.pend, .bool sa.1.can, .bool sa.1.one, .bool sa.1.inr, .string sa.1.name, .int .i64 sa.2.mn, .int .i64 sa.2.sm, .int .i64 sa.2.var] ∧ Blk V gb 32 #[.int .i64 (max (sa.1.cw / 2) (2 * size)), .int .i64 sb.1.fl, .int .i64 (sa.1.cw / 2), .int .i64 sb.1.pend, .bool true, .bool true, .bool true, .string sb.1.name, .int .i64 sb.2.mn, .int .i64 sb.2.sm, .int .i64 sb.2.var] ∧ Below W3.heap.size W3 V)
            case first =>
              refine wp_region_held_drew (S := fun V => Below W3.heap.size W3 V) (by kernel_rfl) (Below.refl _ _).drew (fun hHeld => ?_)
              refine wpAnyH_take (i := 0) (oi := { dst := some 82, op := Op.move (Operand.tmp 13), type := 29, pos := "laws.go:195", after := #[], guard := none }) (v := _) rfl (by kernel_rfl) (by kernel_rfl) (by kernel_rfl) (fun _ _ _ h => h) (Or.inl ⟨by rfl, by intro V hSw; go_simp; try with_reducible rfl⟩) (by assumption) ?_
              try simp only [Act.put, List.setIfInBounds_toArray, List.set_cons_zero, List.set_cons_succ]
              refine wpAnyH_take (i := 1) (oi := { dst := some 83, op := Op.move (Operand.tmp 1), type := 22, pos := "laws.go:195", after := #[], guard := none }) (v := _) rfl (by kernel_rfl) (by kernel_rfl) (by kernel_rfl) (fun _ _ _ h => h) (Or.inl ⟨by rfl, by intro V hSw; go_simp; try with_reducible rfl⟩) (by assumption) ?_
              try simp only [Act.put, List.setIfInBounds_toArray, List.set_cons_zero, List.set_cons_succ]
              refine wpAnyH_take (i := 2) (oi := { dst := some 84, op := Op.call { callee := Callee.builtin Builtin.len, args := #[Operand.tmp 83], argTypes := #[22] }, type := 3, pos := "laws.go:195", after := #[{ on := 1, ground := Ground.data }], guard := none }) (v := _) rfl (by kernel_rfl) (by kernel_rfl) (by kernel_rfl) (fun _ _ _ h => h) (Or.inl ⟨by rfl, by intro V hSw; go_simp; try with_reducible rfl⟩) (by assumption) ?_
              try simp only [Act.put, List.setIfInBounds_toArray, List.set_cons_zero, List.set_cons_succ]
              refine wpAnyH_take (i := 3) (oi := { dst := some 85, op := Op.indexAddr 29 (Operand.tmp 82) (Operand.tmp 84), type := 0, pos := "laws.go:195", after := #[{ on := 0, ground := Ground.data }, { on := 2, ground := Ground.data }], guard := none }) (v := _) rfl (by kernel_rfl) (by kernel_rfl) (by kernel_rfl) (fun _ _ _ h => h) (Or.inl ⟨by rfl, by intro V hSw; go_simp; try with_reducible rfl⟩) (by assumption) ?_
              try simp only [Act.put, List.setIfInBounds_toArray, List.set_cons_zero, List.set_cons_succ]
              refine wpAnyH_take (i := 4) (oi := { dst := some 86, op := Op.load 32 (Operand.tmp 85), type := 32, pos := "laws.go:195", after := #[{ on := 3, ground := Ground.data }], guard := none }) (v := _) rfl (by kernel_rfl) (by kernel_rfl) (by kernel_rfl) (fun _ _ _ h => h) (Or.inl ⟨by rfl, by intro V hSw; have c0 : V.cell? ⟨g3, n * 11, none⟩ = some (.int .i64 sa.1.cw) := (hSw.cell (p := ⟨g3, n * 11, none⟩) hlt3).trans a0; have c1 : V.cell? ⟨g3, n * 11 + 1, none⟩ = some (.int .i64 sa.1.fl) := (hSw.cell (p := ⟨g3, n * 11 + 1, none⟩) hlt3).trans a1; have c2 : V.cell? ⟨g3, n * 11 + 2, none⟩ = some (.int .i64 sa.1.thr) := (hSw.cell (p := ⟨g3, n * 11 + 2, none⟩) hlt3).trans a2; have c3 : V.cell? ⟨g3, n * 11 + 3, none⟩ = some (.int .i64 sa.1.pend) := (hSw.cell (p := ⟨g3, n * 11 + 3, none⟩) hlt3).trans a3; have c4 : V.cell? ⟨g3, n * 11 + 4, none⟩ = some (.bool sa.1.can) := (hSw.cell (p := ⟨g3, n * 11 + 4, none⟩) hlt3).trans a4; have c5 : V.cell? ⟨g3, n * 11 + 5, none⟩ = some (.bool sa.1.one) := (hSw.cell (p := ⟨g3, n * 11 + 5, none⟩) hlt3).trans a5; have c6 : V.cell? ⟨g3, n * 11 + 6, none⟩ = some (.bool sa.1.inr) := (hSw.cell (p := ⟨g3, n * 11 + 6, none⟩) hlt3).trans a6; have c7 : V.cell? ⟨g3, n * 11 + 7, none⟩ = some (.string sa.1.name) := (hSw.cell (p := ⟨g3, n * 11 + 7, none⟩) hlt3).trans a7; have c8 : V.cell? ⟨g3, n * 11 + 8, none⟩ = some (.int .i64 sa.2.mn) := (hSw.cell (p := ⟨g3, n * 11 + 8, none⟩) hlt3).trans a8; have c9 : V.cell? ⟨g3, n * 11 + 9, none⟩ = some (.int .i64 sa.2.sm) := (hSw.cell (p := ⟨g3, n * 11 + 9, none⟩) hlt3).trans a9; have c10 : V.cell? ⟨g3, n * 11 + 10, none⟩ = some (.int .i64 sa.2.var) := (hSw.cell (p := ⟨g3, n * 11 + 10, none⟩) hlt3).trans a10; clear hSw; go_simp; try with_reducible rfl⟩) (by assumption) ?_
              try simp only [Act.put, List.setIfInBounds_toArray, List.set_cons_zero, List.set_cons_succ]
              refine wpAnyH_take (i := 5) (oi := { dst := some 87, op := Op.move (Operand.tmp 13), type := 29, pos := "laws.go:195", after := #[{ on := 13, ground := Ground.gcOnly Departure.lateStores }], guard := none }) (v := _) rfl (by kernel_rfl) (by kernel_rfl) (by kernel_rfl) (fun _ _ _ h => h) (Or.inl ⟨by rfl, by intro V hSw; go_simp; try with_reducible rfl⟩) (by assumption) ?_
              try simp only [Act.put, List.setIfInBounds_toArray, List.set_cons_zero, List.set_cons_succ]
              refine wpAnyH_take (i := 6) (oi := { dst := some 88, op := Op.move (Operand.tmp 1), type := 22, pos := "laws.go:195", after := #[], guard := none }) (v := _) rfl (by kernel_rfl) (by kernel_rfl) (by kernel_rfl) (fun _ _ _ h => h) (Or.inl ⟨by rfl, by intro V hSw; go_simp; try with_reducible rfl⟩) (by assumption) ?_
              try simp only [Act.put, List.setIfInBounds_toArray, List.set_cons_zero, List.set_cons_succ]
              refine wpAnyH_take (i := 7) (oi := { dst := some 89, op := Op.call { callee := Callee.builtin Builtin.len, args := #[Operand.tmp 88], argTypes := #[22] }, type := 3, pos := "laws.go:195", after := #[{ on := 6, ground := Ground.data }], guard := none }) (v := _) rfl (by kernel_rfl) (by kernel_rfl) (by kernel_rfl) (fun _ _ _ h => h) (Or.inl ⟨by rfl, by intro V hSw; go_simp; try with_reducible rfl⟩) (by assumption) ?_
              try simp only [Act.put, List.setIfInBounds_toArray, List.set_cons_zero, List.set_cons_succ]
              refine wpAnyH_take (i := 8) (oi := { dst := some 90, op := Op.binOp BinOp.add 3 (Operand.tmp 89) (Operand.const (Value.int IntKind.i64 2)) 3, type := 3, pos := "laws.go:195", after := #[{ on := 7, ground := Ground.data }, { on := 13, ground := Ground.gcOnly Departure.lateStores }], guard := none }) (v := _) rfl (by kernel_rfl) (by kernel_rfl) (by kernel_rfl) (fun _ _ _ h => h) (Or.inl ⟨by rfl, by intro V hSw; go_simp; try with_reducible rfl⟩) (by assumption) ?_
              try simp only [Act.put, List.setIfInBounds_toArray, List.set_cons_zero, List.set_cons_succ]
              refine wpAnyH_take (i := 9) (oi := { dst := some 91, op := Op.indexAddr 29 (Operand.tmp 87) (Operand.tmp 90), type := 0, pos := "laws.go:195", after := #[{ on := 5, ground := Ground.data }, { on := 8, ground := Ground.data }, { on := 13, ground := Ground.gcOnly Departure.lateStores }], guard := none }) (v := _) rfl (by kernel_rfl) (by kernel_rfl) (by kernel_rfl) (fun _ _ _ h => h) (Or.inl ⟨by rfl, by intro V hSw; go_simp; try with_reducible rfl⟩) (by assumption) ?_
              try simp only [Act.put, List.setIfInBounds_toArray, List.set_cons_zero, List.set_cons_succ]
              refine wpAnyH_take (i := 10) (oi := { dst := some 92, op := Op.load 32 (Operand.tmp 91), type := 32, pos := "laws.go:195", after := #[{ on := 9, ground := Ground.data }, { on := 13, ground := Ground.gcOnly Departure.lateStores }], guard := none }) (v := _) rfl (by kernel_rfl) (by kernel_rfl) (by kernel_rfl) (fun _ _ _ h => h) (Or.inl ⟨by rfl, by intro V hSw; have c0 : V.cell? ⟨g3, (n + 2) * 11, none⟩ = some (.int .i64 (max (sa.1.cw / 2) (2 * size))) := (hSw.cell (p := ⟨g3, (n + 2) * 11, none⟩) hlt3).trans b0; have c1 : V.cell? ⟨g3, (n + 2) * 11 + 1, none⟩ = some (.int .i64 sb.1.fl) := (hSw.cell (p := ⟨g3, (n + 2) * 11 + 1, none⟩) hlt3).trans b1; have c2 : V.cell? ⟨g3, (n + 2) * 11 + 2, none⟩ = some (.int .i64 (sa.1.cw / 2)) := (hSw.cell (p := ⟨g3, (n + 2) * 11 + 2, none⟩) hlt3).trans b2; have c3 : V.cell? ⟨g3, (n + 2) * 11 + 3, none⟩ = some (.int .i64 sb.1.pend) := (hSw.cell (p := ⟨g3, (n + 2) * 11 + 3, none⟩) hlt3).trans b3; have c4 : V.cell? ⟨g3, (n + 2) * 11 + 4, none⟩ = some (.bool true) := (hSw.cell (p := ⟨g3, (n + 2) * 11 + 4, none⟩) hlt3).trans b4; have c5 : V.cell? ⟨g3, (n + 2) * 11 + 5, none⟩ = some (.bool true) := (hSw.cell (p := ⟨g3, (n + 2) * 11 + 5, none⟩) hlt3).trans b5; have c6 : V.cell? ⟨g3, (n + 2) * 11 + 6, none⟩ = some (.bool true) := (hSw.cell (p := ⟨g3, (n + 2) * 11 + 6, none⟩) hlt3).trans b6; have c7 : V.cell? ⟨g3, (n + 2) * 11 + 7, none⟩ = some (.string sb.1.name) := (hSw.cell (p := ⟨g3, (n + 2) * 11 + 7, none⟩) hlt3).trans b7; have c8 : V.cell? ⟨g3, (n + 2) * 11 + 8, none⟩ = some (.int .i64 sb.2.mn) := (hSw.cell (p := ⟨g3, (n + 2) * 11 + 8, none⟩) hlt3).trans b8; have c9 : V.cell? ⟨g3, (n + 2) * 11 + 9, none⟩ = some (.int .i64 sb.2.sm) := (hSw.cell (p := ⟨g3, (n + 2) * 11 + 9, none⟩) hlt3).trans b9; have c10 : V.cell? ⟨g3, (n + 2) * 11 + 10, none⟩ = some (.int .i64 sb.2.var) := (hSw.cell (p := ⟨g3, (n + 2) * 11 + 10, none⟩) hlt3).trans b10; clear hSw; go_simp; try with_reducible rfl⟩) (by assumption) ?_
              try simp only [Act.put, List.setIfInBounds_toArray, List.set_cons_zero, List.set_cons_succ]
              refine wpAnyH_ready (rs := [11, 12]) (by kernel_rfl) (by simp) ?_
              refine AllReadyH.cons (o := { dst := some 14, op := Op.alloc 32, type := 0, pos := "laws.go:195", after := #[], guard := none }) rfl (fun K hK => ?_) (AllReadyH.cons (o := { dst := some 15, op := Op.alloc 32, type := 0, pos := "laws.go:195", after := #[], guard := none }) rfl (fun K hK => ?_) AllReadyH.nil)
              · go_simp
                refine hK.out _ _ (hHeld.alloc (Nat.le_refl _) _) (fun h2 => ?_)
                clear hK K
                try simp only [Act.put, List.setIfInBounds_toArray, List.set_cons_zero, List.set_cons_succ]
                refine wpAnyH_ready (rs := [12]) (by kernel_rfl) (by simp) ?_
                refine AllReadyH.cons (o := { dst := some 15, op := Op.alloc 32, type := 0, pos := "laws.go:195", after := #[], guard := none }) rfl (fun K hK => ?_) AllReadyH.nil
                go_simp
                refine hK.out _ _ (h2.alloc (by simp) _) (fun h3 => ?_)
                clear hK K
                try simp only [Act.put, List.setIfInBounds_toArray, List.set_cons_zero, List.set_cons_succ]
                refine wpAnyH_ready (rs := [13]) (by kernel_rfl) (by simp) ?_
                refine AllReadyH.cons (o := { dst := none, op := Op.store 32 (Operand.tmp 14) (Operand.tmp 86), type := 0, pos := "laws.go:195", after := #[{ on := 11, ground := Ground.data }, { on := 4, ground := Ground.data }, { on := 0, ground := Ground.phase }, { on := 1, ground := Ground.phase }, { on := 2, ground := Ground.phase }, { on := 3, ground := Ground.phase }, { on := 4, ground := Ground.phase }, { on := 5, ground := Ground.textOnly Departure.lateStores }, { on := 6, ground := Ground.textOnly Departure.lateStores }, { on := 7, ground := Ground.textOnly Departure.lateStoresUnsure }, { on := 8, ground := Ground.textOnly Departure.lateStores }, { on := 9, ground := Ground.textOnly Departure.lateStores }, { on := 10, ground := Ground.textOnly Departure.lateStores }, { on := 11, ground := Ground.phase }, { on := 12, ground := Ground.phase }], guard := none }) rfl (fun K hK => ?_) AllReadyH.nil
                go_simp
                refine hK.out _ _ (((Below.refl _ W3).alloc (Nat.le_refl _) _).alloc (by simp) _).drew (fun h4 => ?_)
                clear hK K
                try simp only [Act.put, List.setIfInBounds_toArray, List.set_cons_zero, List.set_cons_succ]
                refine wpAnyH_ready (rs := [14]) (by kernel_rfl) (by simp) ?_
                refine AllReadyH.cons (o := { dst := none, op := Op.store 32 (Operand.tmp 15) (Operand.tmp 92), type := 0, pos := "laws.go:195", after := #[{ on := 12, ground := Ground.data }, { on := 10, ground := Ground.data }, { on := 13, ground := Ground.chain }, { on := 0, ground := Ground.phase }, { on := 1, ground := Ground.phase }, { on := 2, ground := Ground.phase }, { on := 3, ground := Ground.phase }, { on := 4, ground := Ground.phase }, { on := 5, ground := Ground.phase }, { on := 6, ground := Ground.phase }, { on := 7, ground := Ground.phase }, { on := 8, ground := Ground.phase }, { on := 9, ground := Ground.phase }, { on := 10, ground := Ground.phase }, { on := 11, ground := Ground.phase }, { on := 12, ground := Ground.phase }, { on := 13, ground := Ground.phase }], guard := none }) rfl (fun K hK => ?_) AllReadyH.nil
                go_simp
                refine hK.out _ _ (((Below.refl _ W3).alloc (Nat.le_refl _) _).alloc (by simp) _).drew (fun h5 => ?_)
                clear hK K
                try simp only [Act.put, List.setIfInBounds_toArray, List.set_cons_zero, List.set_cons_succ]
                refine wpAnyH_done (by kernel_rfl) ?_ _
                go_wp2
                go_meet
                case rel => exact ⟨_, _, rfl, rfl, ((Blk.new W3 32 _).alloc _).drew, (blk_new1 W3 _ 32 _).drew, (((Below.refl _ W3).alloc (Nat.le_refl _) _).alloc (by simp) _).drew⟩
              · go_simp
                refine hK.out _ _ (hHeld.alloc (Nat.le_refl _) _) (fun h2 => ?_)
                clear hK K
                try simp only [Act.put, List.setIfInBounds_toArray, List.set_cons_zero, List.set_cons_succ]
                refine wpAnyH_ready (rs := [11]) (by kernel_rfl) (by simp) ?_
                refine AllReadyH.cons (o := { dst := some 14, op := Op.alloc 32, type := 0, pos := "laws.go:195", after := #[], guard := none }) rfl (fun K hK => ?_) AllReadyH.nil
                go_simp
                refine hK.out _ _ (h2.alloc (by simp) _) (fun h3 => ?_)
                clear hK K
                try simp only [Act.put, List.setIfInBounds_toArray, List.set_cons_zero, List.set_cons_succ]
                refine wpAnyH_ready (rs := [13]) (by kernel_rfl) (by simp) ?_
                refine AllReadyH.cons (o := { dst := none, op := Op.store 32 (Operand.tmp 14) (Operand.tmp 86), type := 0, pos := "laws.go:195", after := #[{ on := 11, ground := Ground.data }, { on := 4, ground := Ground.data }, { on := 0, ground := Ground.phase }, { on := 1, ground := Ground.phase }, { on := 2, ground := Ground.phase }, { on := 3, ground := Ground.phase }, { on := 4, ground := Ground.phase }, { on := 5, ground := Ground.textOnly Departure.lateStores }, { on := 6, ground := Ground.textOnly Departure.lateStores }, { on := 7, ground := Ground.textOnly Departure.lateStoresUnsure }, { on := 8, ground := Ground.textOnly Departure.lateStores }, { on := 9, ground := Ground.textOnly Departure.lateStores }, { on := 10, ground := Ground.textOnly Departure.lateStores }, { on := 11, ground := Ground.phase }, { on := 12, ground := Ground.phase }], guard := none }) rfl (fun K hK => ?_) AllReadyH.nil
                go_simp
                refine hK.out _ _ (((Below.refl _ W3).alloc (Nat.le_refl _) _).alloc (by simp) _).drew (fun h4 => ?_)
                clear hK K
                try simp only [Act.put, List.setIfInBounds_toArray, List.set_cons_zero, List.set_cons_succ]
                refine wpAnyH_ready (rs := [14]) (by kernel_rfl) (by simp) ?_
                refine AllReadyH.cons (o := { dst := none, op := Op.store 32 (Operand.tmp 15) (Operand.tmp 92), type := 0, pos := "laws.go:195", after := #[{ on := 12, ground := Ground.data }, { on := 10, ground := Ground.data }, { on := 13, ground := Ground.chain }, { on := 0, ground := Ground.phase }, { on := 1, ground := Ground.phase }, { on := 2, ground := Ground.phase }, { on := 3, ground := Ground.phase }, { on := 4, ground := Ground.phase }, { on := 5, ground := Ground.phase }, { on := 6, ground := Ground.phase }, { on := 7, ground := Ground.phase }, { on := 8, ground := Ground.phase }, { on := 9, ground := Ground.phase }, { on := 10, ground := Ground.phase }, { on := 11, ground := Ground.phase }, { on := 12, ground := Ground.phase }, { on := 13, ground := Ground.phase }], guard := none }) rfl (fun K hK => ?_) AllReadyH.nil
                go_simp
                refine hK.out _ _ (((Below.refl _ W3).alloc (Nat.le_refl _) _).alloc (by simp) _).drew (fun h5 => ?_)
                clear hK K
                try simp only [Act.put, List.setIfInBounds_toArray, List.set_cons_zero, List.set_cons_succ]
                refine wpAnyH_done (by kernel_rfl) ?_ _
                go_wp2
                go_meet
                case rel => exact ⟨_, _, rfl, rfl, (blk_new1 W3 _ 32 _).drew, ((Blk.new W3 32 _).alloc _).drew, (((Below.refl _ W3).alloc (Nat.le_refl _) _).alloc (by simp) _).drew⟩
            case rest =>
              obtain ⟨ga, gb, rfl, rfl, hba, hbb, hbl⟩ := hcut
              have hc0 : 0 ≤ sa.1.cw := by omega
              have hc1 : sa.1.cw ≤ 9223372036854775807 := by omega
              have p0 : wc.cell? ⟨ga, 0, none⟩ = some (.int .i64 sa.1.cw) := hba.cellAt 0 rfl
              have q0 : wc.cell? ⟨gb, 0, none⟩ = some (.int .i64 (max (sa.1.cw / 2) (2 * size))) := hbb.cellAt 0 rfl
              have q2 : wc.cell? ⟨gb, 2, none⟩ = some (.int .i64 (sa.1.cw / 2)) := hbb.cellAt 2 rfl
              have q4 : wc.cell? ⟨gb, 4, none⟩ = some (.bool true) := hbb.cellAt 4 rfl
              have q5 : wc.cell? ⟨gb, 5, none⟩ = some (.bool true) := hbb.cellAt 5 rfl
              have q6 : wc.cell? ⟨gb, 6, none⟩ = some (.bool true) := hbb.cellAt 6 rfl
              have HBL := Lib.hid hbl
              clear hba hbb hbl hcw0 hcw1 hcp hcm
              go_wp2
              all_goals (go_ret; exact ⟨rfl, ((HB4.out.trans (HB5.out.mono HB4.out.size)).trans (HBL.out.mono (by have h1 := HB4.out.size; have h2 := HB5.out.size; omega)))⟩)
end Go.Proofs.Ytehplpakbfnhbaa
