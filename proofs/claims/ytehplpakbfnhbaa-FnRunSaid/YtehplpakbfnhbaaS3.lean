/-
  FnRun: the law's walk.
-/
import Derived.Test.YtehplpakbfnhbaaS2
import Derived.Test.YtehplpakbfnhbaaL2
namespace Go.Proofs.Ytehplpakbfnhbaa
open Go.RowKit
set_option linter.unusedVariables false
set_option linter.unusedSimpArgs false

theorem Blk.row {w : World} {g : Nat} {t : TypeId} {cs : Array Value} (h : Blk w g t cs) (new : Array Value) : Blk (w.setRow g new) g t new := setRow_heap w g cs new t (0, 0) h
theorem OpsAt.drew {w : World} {A : Option Addr} {b off : Nat} {l : List Op} (h : OpsAt w A b off l) : OpsAt w.drew A b off l := h
theorem OpsAt.at_ {w : World} {A : Option Addr} {b : Nat} {l : List Op} (h : OpsAt w A b 0 l) {k : Nat} {o : Op} (ho : l[k]? = some o) (j : Nat) (v : Value) (hj : (opcells o)[j]? = some v) : w.cell? ⟨b, k * 12 + j, none⟩ = some v := by
  have h1 := (h k o ho).2.2 j v hj
  rwa [show 0 + k * 12 + j = k * 12 + j by omega] at h1
theorem OpsAt.row {w : World} {A : Option Addr} {b off : Nat} {l : List Op} (h : OpsAt w A b off l) {g : Nat} (hg : (∃ (k : Nat) (o : Op), l[k]? = some o) → b ≠ g) (cs : Array Value) : OpsAt (w.setRow g cs) A b off l := fun k o ho =>
  ⟨(h k o ho).1, by rw [setRow_size]; exact (h k o ho).2.1, fun j v hj => (cell_setRow_other w g cs ⟨b, off + k * 12 + j, none⟩ (hg ⟨k, o, ho⟩)).trans ((h k o ho).2.2 j v hj)⟩
theorem can_new {size : Int} (h : 1200 ≤ size) : (C.new size).can = true := by
  unfold C.can C.new
  simp
  omega
theorem sAt_end {s : C × R} {l : List Op} {k : Nat} (h : l.length ≤ k) : sAt s l (k + 1) = sAt s l k := by
  simp [sAt, List.getElem?_eq_none h]
theorem told_slice {W : World} {base t n : Nat} {v : Value} {l : List Op} (ho : W.ownsRow base t 12 v n (allcells l n)) (hn : l.length = n) : ∃ A b c, v = .slice A n c ∧ n ≤ c ∧ OpsAt W A b 0 l := by
  rcases Nat.eq_zero_or_pos n with h0 | h0
  · rcases ho.2 with ⟨h, h'⟩ | ⟨g, cap, cur, h, _, _, hc, _⟩
    · exact ⟨none, 0, 0, by rw [h, h0], by omega, fun k o hk => by have := (List.getElem?_eq_some_iff.1 hk).1; omega⟩
    · exact ⟨some ⟨g, 0, none⟩, g, cap, h, hc, fun k o hk => by have := (List.getElem?_eq_some_iff.1 hk).1; omega⟩
  · obtain ⟨g, c, rfl, _, _⟩ := ho.form h0
    exact ⟨_, g, c, rfl, own_cap ho, opsAt_own ho hn⟩

set_option maxRecDepth 100000 in
set_option maxHeartbeats 8000000 in
theorem run_walk (A : Option Addr) (b off n cap : Nat) (size : Int) (l : List Op) (w : World) (hn : l.length = n) (hin : OpsAt w A b off l) :
    Calls Try.prog 4 #[.int .i64 size, .slice A n cap] w fun e w' => e = .returned (.bool true) ∧ Below w.heap.size w w' := by
  have HIN := Lib.hid hin
  have HLN := Lib.hid hn
  clear hin hn
  by_cases hbig : 2147483647 < n
  · have hb1 : (2147483647 : Int) < (n : Int) := by omega
    go_enter Try.func4, Try.ntmps4
    go_wp2
    go_ret
    exact ⟨rfl, Below.refl _ _⟩
  · have hb1 : (n : Int) ≤ 2147483647 := by omega
    have hb2 : n ≤ 2147483647 := by omega
    clear hbig
    go_enter Try.func4, Try.ntmps4
    go_upto_region 4 with (go_at_call 5; refine (told_any A b off n cap size l _ HLN.out (by omega) HIN.out).mono ?_; rintro e W2 ⟨v2, rfl, ho2, hb3⟩; have HO2 := Lib.hid ho2; have HB2 := Lib.hid hb3; clear ho2 hb3)
    by_cases hT : toldB size l = false
    · rw [hT]
      clear hT
      go_wp2
      go_ret
      exact ⟨rfl, HB2.out⟩
    have hT1 : toldB size l = true := by simpa using hT
    clear hT
    rw [hT1]
    obtain ⟨hgood, hlen, hs0, hs1⟩ := of_decide_eq_true hT1
    have ho2 := HO2.out hT1
    rw [HLN.out] at hlen
    clear hT1
    obtain ⟨A2, b2, c2, rfl, hcap, hops⟩ := told_slice ho2 HLN.out
    have HOPS := Lib.hid hops
    have HGD := Lib.hid (show ∀ o ∈ l, Good o from fun o ho => good_of (hgood o ho).1 (hgood o ho).2)
    have HIN2 := Lib.hid (HIN.out.below HB2.out)
    clear ho2 HO2 hgood hops HIN
    go_upto_region 7 with (go_at_call 6; refine (run_any A b off n cap size l _ hs0 hs1 HLN.out hlen HGD.out HIN2.out).mono ?_; rintro e W3 ⟨g3, c3, rfl, ho3, hb4⟩; have HO3 := Lib.hid ho3; have HB3 := Lib.hid hb4; clear ho3 hb4)
    have hlt3 : g3 < W3.heap.size := (HO3.out.lt g3 rfl).2
    have HC := Lib.hid (show ∀ j, j ≤ n → ∀ s, sAt (C.new size, R.new) l j = s → ∀ (q : Nat) (v : Value), (ocells s.1 s.2).toList[q]? = some v → W3.cell? ⟨g3, j * 11 + q, none⟩ = some v from fun j hj s hs q v hq => cells_at HO3.out hj (by rw [hs]; exact hq))
    have hcap3 : n + 1 ≤ c3 := own_cap HO3.out
    have HB4 := Lib.hid (HB2.out.trans (HB3.out.mono HB2.out.size))
    have HOP3 := Lib.hid (HOPS.out.below HB3.out)
    have hwr : IntKind.i64.wrap ((n : Int) + 1) = (n : Int) + 1 := Go.IntWalk.i64_in _ ⟨by omega, by omega⟩
    clear HOPS HO3 HB2 HB3 HIN2
    go_upto_region 10 with (first | (go_at_call 7; refine (first_any size _ hs0 hs1).mono ?_; rintro e W4 ⟨rfl, hb5⟩; have HB5 := Lib.hid hb5; clear hb5) | (refine wpList_store_row (by rfl) 35 _ _ (by rfl) _ (scB (C.new size) R.new 0 true) (by rfl) (by rfl) 35 _ (Blk.new _ 35 _) (by kernel_rfl) (by rfl) (scB_one _ _ _ _) ?_))
    refine wp_let (fun W => Blk W W4.heap.size 35 (scB (C.new size) R.new 0 true) ∧ Below W3.heap.size W3 W) ⟨?_, ?_⟩ ?_
    · exact (Blk.new W4 35 _).row _
    · exact below_row (HB5.out.alloc HB5.out.size _) HB5.out.size _
    rintro W5 ⟨hG5, hB5⟩
    have HG5 := Lib.hid hG5
    have HB6 := Lib.hid hB5
    have HG8 := Lib.hid HB5.out.size
    clear hG5 hB5 HB5
    obtain ⟨g8, hg8⟩ : ∃ g8, W4.heap.size = g8 := ⟨_, rfl⟩
    rw [hg8] at HG5 HG8 ⊢
    clear hg8 W4
    go_wp2
    go_loopw [35] (fun i W => ∃ (k : Nat) (last : Int), k ≤ n + 1 ∧ i = .int .i64 k ∧ Blk W g8 35 (scB (sAt (C.new size, R.new) l k).1 (sAt (C.new size, R.new) l k).2 last (sAt (C.new size, R.new) l k).1.can) ∧ (0 ≤ (sAt (C.new size, R.new) l k).1.ll → last = (sAt (C.new size, R.new) l k).1.ll) ∧ Below W3.heap.size W3 W) (fun i _ => (n + 1) - (intOf i).toNat)
    case atStart => exact ⟨0, 0, by omega, rfl, by show Blk W5 g8 35 (scB (C.new size) R.new 0 (C.new size).can); rw [can_new hs0]; exact HG5.out, fun h => by exact absurd h (by show ¬ (0 : Int) ≤ -1; omega), HB6.out⟩
    case round =>
      obtain ⟨k, last, hk, rfl, hG, hL, hB⟩ := hrel
      have HB := Lib.hid hB
      clear hB HG5 HB6
      by_cases hlt : k < n + 1
      · obtain ⟨sk, hsk⟩ : ∃ sk, (sAt (C.new size, R.new) l k) = sk := ⟨_, rfl⟩
        rw [hsk] at hG hL
        have HSK := Lib.hid hsk
        have HG := Lib.hid hG
        have HL := Lib.hid hL
        clear hG hL hsk
        have k0 : (0 : Int) ≤ (k : Int) := by omega
        have k1 : (k : Int) < (n : Int) + 1 := by omega
        have lg3 : g3 < wr.heap.size := Nat.lt_of_lt_of_le hlt3 HB.out.size
        have lg8 := HG.out.lt
        go_upto_region 12 with (fail)
        go_cut [9, 10] (fun a p W => a = .int .i64 k ∧ p = .pointer (some ⟨wr.heap.size, 0, none⟩) ∧ Blk W g8 35 (scB sk.1 sk.2 last sk.1.can) ∧ Blk W wr.heap.size 32 #[.int .i64 sk.1.cw, .int .i64 sk.1.fl, .int .i64 sk.1.thr, .int .i64 sk.1.pend, .bool sk.1.can, .bool sk.1.one, .bool sk.1.inr, .string sk.1.name, .int .i64 sk.2.mn, .int .i64 sk.2.sm, .int .i64 sk.2.var] ∧ Below W3.heap.size W3 W)
        case first => as_aux_lemma =>
          have hkn : k ≤ n := by omega
          have o0 : wr.cell? ⟨g3, k * 11, none⟩ = some (.int .i64 sk.1.cw) := (HB.out.cell (p := ⟨g3, k * 11, none⟩) hlt3).trans (HC.out k hkn _ HSK.out 0 _ rfl)
          have o1 : wr.cell? ⟨g3, k * 11 + 1, none⟩ = some (.int .i64 sk.1.fl) := (HB.out.cell (p := ⟨g3, k * 11 + 1, none⟩) hlt3).trans (HC.out k hkn _ HSK.out 1 _ rfl)
          have o2 : wr.cell? ⟨g3, k * 11 + 2, none⟩ = some (.int .i64 sk.1.thr) := (HB.out.cell (p := ⟨g3, k * 11 + 2, none⟩) hlt3).trans (HC.out k hkn _ HSK.out 2 _ rfl)
          have o3 : wr.cell? ⟨g3, k * 11 + 3, none⟩ = some (.int .i64 sk.1.pend) := (HB.out.cell (p := ⟨g3, k * 11 + 3, none⟩) hlt3).trans (HC.out k hkn _ HSK.out 3 _ rfl)
          have o4 : wr.cell? ⟨g3, k * 11 + 4, none⟩ = some (.bool sk.1.can) := (HB.out.cell (p := ⟨g3, k * 11 + 4, none⟩) hlt3).trans (HC.out k hkn _ HSK.out 4 _ rfl)
          have o5 : wr.cell? ⟨g3, k * 11 + 5, none⟩ = some (.bool sk.1.one) := (HB.out.cell (p := ⟨g3, k * 11 + 5, none⟩) hlt3).trans (HC.out k hkn _ HSK.out 5 _ rfl)
          have o6 : wr.cell? ⟨g3, k * 11 + 6, none⟩ = some (.bool sk.1.inr) := (HB.out.cell (p := ⟨g3, k * 11 + 6, none⟩) hlt3).trans (HC.out k hkn _ HSK.out 6 _ rfl)
          have o7 : wr.cell? ⟨g3, k * 11 + 7, none⟩ = some (.string sk.1.name) := (HB.out.cell (p := ⟨g3, k * 11 + 7, none⟩) hlt3).trans (HC.out k hkn _ HSK.out 7 _ rfl)
          have o8 : wr.cell? ⟨g3, k * 11 + 8, none⟩ = some (.int .i64 sk.2.mn) := (HB.out.cell (p := ⟨g3, k * 11 + 8, none⟩) hlt3).trans (HC.out k hkn _ HSK.out 8 _ rfl)
          have o9 : wr.cell? ⟨g3, k * 11 + 9, none⟩ = some (.int .i64 sk.2.sm) := (HB.out.cell (p := ⟨g3, k * 11 + 9, none⟩) hlt3).trans (HC.out k hkn _ HSK.out 9 _ rfl)
          have o10 : wr.cell? ⟨g3, k * 11 + 10, none⟩ = some (.int .i64 sk.2.var) := (HB.out.cell (p := ⟨g3, k * 11 + 10, none⟩) hlt3).trans (HC.out k hkn _ HSK.out 10 _ rfl)
          go_wp2
          go_meet
          case rel => exact ⟨rfl, rfl, HG.out.alloc _, Blk.new _ _ _, HB.out.alloc HB.out.size _⟩
        case rest =>
        obtain ⟨rfl, rfl, hG, hX, hB⟩ := hcut
        clear HG HB
        have HG := Lib.hid hG
        have HB := Lib.hid hB
        have HX := Lib.hid hX
        clear hG hX hB
        go_upto_region 13 with (fail)
        go_cut [107] (fun v W => v = .bool false ∧ W = wc)
        case first => as_aux_lemma =>
          have o0 : wc.cell? ⟨wr.heap.size, 0, none⟩ = some (.int .i64 sk.1.cw) := HX.out.cellAt 0 rfl
          have o1 : wc.cell? ⟨wr.heap.size, 1, none⟩ = some (.int .i64 sk.1.fl) := HX.out.cellAt 1 rfl
          have o2 : wc.cell? ⟨wr.heap.size, 2, none⟩ = some (.int .i64 sk.1.thr) := HX.out.cellAt 2 rfl
          have o3 : wc.cell? ⟨wr.heap.size, 3, none⟩ = some (.int .i64 sk.1.pend) := HX.out.cellAt 3 rfl
          have o4 : wc.cell? ⟨wr.heap.size, 4, none⟩ = some (.bool sk.1.can) := HX.out.cellAt 4 rfl
          have o5 : wc.cell? ⟨wr.heap.size, 5, none⟩ = some (.bool sk.1.one) := HX.out.cellAt 5 rfl
          have o6 : wc.cell? ⟨wr.heap.size, 6, none⟩ = some (.bool sk.1.inr) := HX.out.cellAt 6 rfl
          have o7 : wc.cell? ⟨wr.heap.size, 7, none⟩ = some (.string sk.1.name) := HX.out.cellAt 7 rfl
          have o8 : wc.cell? ⟨wr.heap.size, 8, none⟩ = some (.int .i64 sk.2.mn) := HX.out.cellAt 8 rfl
          have o9 : wc.cell? ⟨wr.heap.size, 9, none⟩ = some (.int .i64 sk.2.sm) := HX.out.cellAt 9 rfl
          have o10 : wc.cell? ⟨wr.heap.size, 10, none⟩ = some (.int .i64 sk.2.var) := HX.out.cellAt 10 rfl
          have s0 : wc.cell? ⟨g8, 0, none⟩ = some (.int .i64 sk.1.cw) := HG.out.cellAt 0 rfl
          have s1 : wc.cell? ⟨g8, 1, none⟩ = some (.int .i64 sk.1.fl) := HG.out.cellAt 1 rfl
          have s2 : wc.cell? ⟨g8, 2, none⟩ = some (.int .i64 sk.1.thr) := HG.out.cellAt 2 rfl
          have s3 : wc.cell? ⟨g8, 3, none⟩ = some (.int .i64 sk.1.pend) := HG.out.cellAt 3 rfl
          have s4 : wc.cell? ⟨g8, 4, none⟩ = some (.bool sk.1.can) := HG.out.cellAt 4 rfl
          have s5 : wc.cell? ⟨g8, 5, none⟩ = some (.bool sk.1.one) := HG.out.cellAt 5 rfl
          have s6 : wc.cell? ⟨g8, 6, none⟩ = some (.bool sk.1.inr) := HG.out.cellAt 6 rfl
          have s8 : wc.cell? ⟨g8, 8, none⟩ = some (.int .i64 sk.2.mn) := HG.out.cellAt 8 rfl
          have s9 : wc.cell? ⟨g8, 9, none⟩ = some (.int .i64 sk.2.sm) := HG.out.cellAt 9 rfl
          have s10 : wc.cell? ⟨g8, 10, none⟩ = some (.int .i64 sk.2.var) := HG.out.cellAt 10 rfl
          go_wp2
          go_meet
          case rel => exact ⟨rfl, rfl⟩
        case rest =>
          obtain ⟨rfl, rfl⟩ := hcut
          clear lg3 lg8
          by_cases hkn : k < n
          · have k2 : (k : Int) < (n : Int) := by omega
            obtain ⟨o, ho⟩ : ∃ o, l[k]? = some o := ⟨_, List.getElem?_eq_getElem (by have := HLN.out; omega)⟩
            have HLO := Lib.hid ho
            have HGO := Lib.hid (HGD.out o (List.mem_of_getElem? ho))
            clear ho
            have hinv := sAt_inv hs0 hs1 (l := l) (by rw [HLN.out]; exact hlen) HGD.out k (by rw [HLN.out]; omega)
            rw [HSK.out] at hinv
            have HCI := Lib.hid hinv.1
            have HRI := Lib.hid hinv.2
            clear hinv
            go_upto_region 16 with (fail)
            have HOP := Lib.hid (HOP3.out.below HB.out)
            have HNE := Lib.hid (show (∃ (k : Nat) (o : Op), l[k]? = some o) → b2 ≠ g8 from fun _ => by have h1 := (HOP3.out k o HLO.out).2.1; have h2 := HG8.out; omega)
            have ES := Lib.hid (show sAt (C.new size, R.new) l (k + 1) = ((stepC sk.1 sk.2 o), (stepR sk.2 o)) by rw [sAt_succ HLO.out, HSK.out])
            refine wp_region_held_drew (S := fun V => OpsAt V A2 b2 0 l) (by kernel_rfl) (HOP.out.drew) (fun hHeld => ?_)
            refine wpAnyH_take (i := 1) (oi := { dst := some 113, op := Op.move (Operand.tmp 5), type := 25, pos := "laws.go:56", after := #[], guard := none }) (v := _) rfl (by kernel_rfl) (by kernel_rfl) (by kernel_rfl) (fun _ _ _ h => h) (Or.inl ⟨by rfl, by intro V hSw; go_simp; try with_reducible rfl⟩) (by assumption) ?_
            try simp only [Act.put, List.setIfInBounds_toArray, List.set_cons_zero, List.set_cons_succ]
            refine wpAnyH_take (i := 2) (oi := { dst := some 114, op := Op.move (Operand.tmp 9), type := 3, pos := "laws.go:56", after := #[], guard := none }) (v := _) rfl (by kernel_rfl) (by kernel_rfl) (by kernel_rfl) (fun _ _ _ h => h) (Or.inl ⟨by rfl, by intro V hSw; go_simp; try with_reducible rfl⟩) (by assumption) ?_
            try simp only [Act.put, List.setIfInBounds_toArray, List.set_cons_zero, List.set_cons_succ]
            refine wpAnyH_take (i := 3) (oi := { dst := some 115, op := Op.indexAddr 25 (Operand.tmp 113) (Operand.tmp 114), type := 0, pos := "laws.go:56", after := #[{ on := 1, ground := Ground.data }, { on := 2, ground := Ground.data }], guard := none }) (v := .pointer (some ⟨b2, k * 12, none⟩)) rfl (by kernel_rfl) (by kernel_rfl) (by kernel_rfl) (fun _ _ _ h => h) (Or.inl ⟨by rfl, by intro V hSw; have hA2 := (hSw k o HLO.out).1; go_simp; try with_reducible rfl⟩) (by assumption) ?_
            try simp only [Act.put, List.setIfInBounds_toArray, List.set_cons_zero, List.set_cons_succ]
            refine wpAnyH_take (i := 4) (oi := { dst := some 116, op := Op.load 28 (Operand.tmp 115), type := 28, pos := "laws.go:56", after := #[{ on := 3, ground := Ground.data }], guard := none }) (v := .agg #[.int .i64 o.kind, .int .i64 o.space, .int .i64 o.now, .int .i64 o.time, .int .i64 o.num, .int .i64 o.size, .bool o.el, .bool o.inf, .bool o.v, .int .i64 o.lat, .int .i64 o.del, .int .i64 o.lim]) rfl (by kernel_rfl) (by kernel_rfl) (by kernel_rfl) (fun _ _ _ h => h) (Or.inl ⟨by rfl, by intro V hSw; have i0 : V.cell? ⟨b2, k * 12, none⟩ = some (.int .i64 o.kind) := hSw.at_ HLO.out 0 _ rfl; have i1 : V.cell? ⟨b2, k * 12 + 1, none⟩ = some (.int .i64 o.space) := hSw.at_ HLO.out 1 _ rfl; have i2 : V.cell? ⟨b2, k * 12 + 2, none⟩ = some (.int .i64 o.now) := hSw.at_ HLO.out 2 _ rfl; have i3 : V.cell? ⟨b2, k * 12 + 3, none⟩ = some (.int .i64 o.time) := hSw.at_ HLO.out 3 _ rfl; have i4 : V.cell? ⟨b2, k * 12 + 4, none⟩ = some (.int .i64 o.num) := hSw.at_ HLO.out 4 _ rfl; have i5 : V.cell? ⟨b2, k * 12 + 5, none⟩ = some (.int .i64 o.size) := hSw.at_ HLO.out 5 _ rfl; have i6 : V.cell? ⟨b2, k * 12 + 6, none⟩ = some (.bool o.el) := hSw.at_ HLO.out 6 _ rfl; have i7 : V.cell? ⟨b2, k * 12 + 7, none⟩ = some (.bool o.inf) := hSw.at_ HLO.out 7 _ rfl; have i8 : V.cell? ⟨b2, k * 12 + 8, none⟩ = some (.bool o.v) := hSw.at_ HLO.out 8 _ rfl; have i9 : V.cell? ⟨b2, k * 12 + 9, none⟩ = some (.int .i64 o.lat) := hSw.at_ HLO.out 9 _ rfl; have i10 : V.cell? ⟨b2, k * 12 + 10, none⟩ = some (.int .i64 o.del) := hSw.at_ HLO.out 10 _ rfl; have i11 : V.cell? ⟨b2, k * 12 + 11, none⟩ = some (.int .i64 o.lim) := hSw.at_ HLO.out 11 _ rfl; go_simp; try with_reducible rfl⟩) (by assumption) ?_
            try simp only [Act.put, List.setIfInBounds_toArray, List.set_cons_zero, List.set_cons_succ]
            refine wpAnyH_ready (rs := [0]) (by kernel_rfl) (by simp) ?_
            refine AllReadyH.cons (o := { dst := some 112, op := Op.load 35 (Operand.tmp 8), type := 35, pos := "laws.go:56", after := #[], guard := none }) rfl (fun K hK => ?_) AllReadyH.nil
            rw [if_pos (by rfl)]
            refine wp_load_row 35 _ (by rfl) g8 (by rfl) 35 (scB sk.1 sk.2 last sk.1.can) (0, 0) _ HG.out.drew Try.underlying35 (by rfl) (by kernel_rfl) ?_
            refine hK.out _ _ hHeld (fun hHeld2 => ?_)
            clear hK K
            try simp only [Act.put, List.setIfInBounds_toArray, List.set_cons_zero, List.set_cons_succ]
            refine wpAnyH_ready (rs := [5]) (by kernel_rfl) (by simp) ?_
            refine AllReadyH.cons (o := { dst := some 117, op := Op.call { callee := Callee.value (Operand.func 8), args := #[Operand.tmp 112, Operand.tmp 116], argTypes := #[35, 28] }, type := 35, pos := "laws.go:56", after := #[{ on := 0, ground := Ground.data }, { on := 4, ground := Ground.data }], guard := none }) rfl (fun K hK => ?_) AllReadyH.nil
            go_simp
            go_at_call 8
            refine (next_any sk.1 sk.2 last o k _ HGO.out HCI.out HRI.out (by omega) HL.out sk.1.can).mono ?_
            rintro q W6 ⟨last', rfl, hl', hb'⟩
            refine hK.out _ _ (hHeld2.below hb') (fun hHeld3 => ?_)
            clear hK K
            try simp only [Act.put, List.setIfInBounds_toArray, List.set_cons_zero, List.set_cons_succ]
            refine wpAnyH_ready (rs := [6]) (by kernel_rfl) (by simp) ?_
            refine AllReadyH.cons (o := { dst := none, op := Op.store 35 (Operand.tmp 8) (Operand.tmp 117), type := 0, pos := "laws.go:56", after := #[{ on := 5, ground := Ground.data }, { on := 5, ground := Ground.chain }, { on := 0, ground := Ground.phase }, { on := 1, ground := Ground.phase }, { on := 2, ground := Ground.phase }, { on := 3, ground := Ground.phase }, { on := 4, ground := Ground.phase }, { on := 5, ground := Ground.phase }], guard := none }) rfl (fun K hK => ?_) AllReadyH.nil
            rw [if_pos (by rfl)]
            refine wp_store_row 35 _ _ (by rfl) g8 (scB (stepC sk.1 sk.2 o) (stepR sk.2 o) last' (stepC sk.1 sk.2 o).can) (by rfl) (by rfl) 35 (scB sk.1 sk.2 last sk.1.can) (HG.out.drew.below hb' HG.out.drew.lt) (by kernel_rfl) (by rfl) (scB_one _ _ _ _) ?_
            refine hK.out _ _ (hHeld3.row HNE.out _) (fun hHeld4 => ?_)
            clear hK K
            try simp only [Act.put, List.setIfInBounds_toArray, List.set_cons_zero, List.set_cons_succ]
            refine wpAnyH_done (by kernel_rfl) ?_ _
            go_wp2
            go_roundw
            case rel => exact ⟨k + 1, last', by omega, by go_num, by rw [ES.out]; exact (HG.out.drew.below hb' HG.out.drew.lt).row _, by rw [ES.out]; exact hl', below_row (HB.out.drew.trans (hb'.mono HB.out.drew.size)) HG8.out _⟩
            case measure => simp [intOf]; omega
          · have ES := Lib.hid (show sAt (C.new size, R.new) l (k + 1) = sk by rw [sAt_end (by rw [HLN.out]; omega), HSK.out])
            go_wp2
            go_roundw
            case rel => exact ⟨k + 1, last, by omega, by go_num, by rw [ES.out]; exact HG.out, by rw [ES.out]; exact HL.out, HB.out⟩
            case measure => simp [intOf]; omega
      · go_wp2
        go_ret
        exact ⟨rfl, HB4.out.trans (HB.out.mono HB4.out.size)⟩
end Go.Proofs.Ytehplpakbfnhbaa
