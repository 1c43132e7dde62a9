/-
  The rows: their arguments opened, their end.
-/
import Derived.Test.YtehplpakbfnhbaaRows
import Derived.Test.YtehplpakbfnhbaaL2
import Derived.ProofKit
import Derived.Deep.Slices
import Derived.Deep.Fields
import Derived.ChangeSame
namespace Go.Proofs.Ytehplpakbfnhbaa
open Go.ChangeShapes Go.WideShapes Go.ChangeAt Go.RowKit Go.Deep
set_option linter.unusedVariables false
set_option linter.unusedSimpArgs false

theorem own : ownKnob Try.prog.godebug = none := by kernel_rfl
theorem laid : laidOutB Try.prog = true := by kernel_rfl

section
variable {H : Type} {enc : TypeId × Value → H} {P : Program} {w : World} {base : Nat} {spare : Nat → Bool} {held : Bool}
theorem open_slice_fields {t e : TypeId} {fs : Array Field} {fuel : Nat} {cs : List Value} {x : DataW H × List MemPlace} (ht : P.underlying t = some (.slice e)) (he : P.underlying e = some (.struct fs))
    (hone : oneCellFields P fs = true) (hC : P.cellsOf e = fs.size) (h : DataW.trod enc P w base spare held fuel t cs = some x) :
    (cs = [.slice none 0 0]) ∨
    ∃ (a : Addr) (len cap : Nat), cs = [.slice (some a) len cap] ∧
      ∀ i, i < len → ∃ n : Nat,
        ∀ (j : Nat) (f : Field), fs[j]? = some f → ∃ (v : Value) (y : DataW H × List MemPlace), w.cell? (a.add (i * fs.size + j)) = some v ∧ DataW.trod enc P w base spare held n f.type [v] = some y := by
  rcases open_slice ht h with h0 | ⟨a, len, cap, m, n, D, Pl, hcs, hb, hl, hm, hmm, hx, hi⟩
  · exact .inl h0.1
  · refine .inr ⟨a, len, cap, hcs, fun i hin => ?_⟩
    have him : i < m := by rw [hmm]; split <;> omega
    obtain ⟨cs', hc, ht'⟩ := hi i him
    rw [hC] at hc
    obtain ⟨ys, n', hn', hy, hlen, hyl, hf⟩ := DataW.trod_struct he ht'
    obtain ⟨_, hcl, hat⟩ := World.cells?_some hc
    refine ⟨n', fun j f hj => ?_⟩
    obtain ⟨ho, hk⟩ := hone_of hone j f hj
    have hjl : j < fs.size := (Array.getElem?_eq_some_iff.1 hj).1
    have hcell := hat j hjl
    have hv : cs'[j]? = some (cs'[j]'(by omega)) := List.getElem?_eq_getElem (by omega)
    have h1 := hf j f hj
    rw [ho, hk] at h1
    have hone' : (cs'.drop j).take 1 = [cs'[j]'(by omega)] := by
      rw [List.drop_eq_getElem_cons (by omega)]
      rfl
    rw [hone'] at h1
    have hys : ys[j]? = some (ys[j]'(by omega)) := List.getElem?_eq_getElem (by omega)
    refine ⟨_, _, ?_, h1.trans hys⟩
    rw [← Go.Deep.add_add, hcell, hv]
end

abbrev opFields : Array Field := #[{ name := "Kind", type := 3, offset := 0, embedded := false, tag := "", pkgPath := "", byteOffset := 0 }, { name := "Space", type := 3, offset := 1, embedded := false, tag := "", pkgPath := "", byteOffset := 8 }, { name := "Now", type := 2, offset := 2, embedded := false, tag := "", pkgPath := "", byteOffset := 16 }, { name := "Time", type := 2, offset := 3, embedded := false, tag := "", pkgPath := "", byteOffset := 24 }, { name := "Num", type := 2, offset := 4, embedded := false, tag := "", pkgPath := "", byteOffset := 32 }, { name := "Size", type := 3, offset := 5, embedded := false, tag := "", pkgPath := "", byteOffset := 40 }, { name := "Eliciting", type := 4, offset := 6, embedded := false, tag := "", pkgPath := "", byteOffset := 48 }, { name := "InFlight", type := 4, offset := 7, embedded := false, tag := "", pkgPath := "", byteOffset := 49 }, { name := "V", type := 4, offset := 8, embedded := false, tag := "", pkgPath := "", byteOffset := 50 }, { name := "Latest", type := 2, offset := 9, embedded := false, tag := "", pkgPath := "", byteOffset := 56 }, { name := "Delay", type := 2, offset := 10, embedded := false, tag := "", pkgPath := "", byteOffset := 64 }, { name := "Limit", type := 2, offset := 11, embedded := false, tag := "", pkgPath := "", byteOffset := 72 }]
theorem opStruct : Try.prog.underlying 24 = some (.struct opFields) := Try.underlying24
theorem opHone : oneCellFields Try.prog opFields = true := by kernel_rfl
theorem opCells : Try.prog.cellsOf 24 = 12 := by kernel_rfl

theorem list_of {Q : Nat → Op → Prop} (n : Nat) (h : ∀ i, i < n → ∃ o, Q i o) : ∃ l : List Op, l.length = n ∧ ∀ k o, l[k]? = some o → Q k o := by
  induction n with
  | zero => exact ⟨[], rfl, fun k o h => by simp at h⟩
  | succ n ih =>
    obtain ⟨l, hl, hq⟩ := ih fun i hi => h i (by omega)
    obtain ⟨o, ho⟩ := h n (by omega)
    refine ⟨l ++ [o], by simp [hl], fun k o' hk => ?_⟩
    rcases Nat.lt_or_ge k n with hkn | hkn
    · rw [List.getElem?_append_left (by omega)] at hk
      exact hq k o' hk
    · rw [List.getElem?_append_right (by omega), hl] at hk
      have hkl := (List.getElem?_eq_some_iff.1 hk).1
      have hk0 : k - n = 0 := by simp at hkl; omega
      rw [hk0] at hk
      simp at hk
      subst hk
      have : k = n := by omega
      rw [this]
      exact ho

section
variable {H : Type} {enc : TypeId × Value → H} {w : World} {base : Nat} {spare : Nat → Bool} {held : Bool}
set_option maxHeartbeats 1000000 in
theorem open_op {r : Reach} {b0 : Nat} {v : Value} {d : DataW H} {p : List MemPlace} (hv : Value.okWide Try.prog w r b0 24 v) (h : DataW.Trod enc Try.prog w base spare held 24 v d p) : ∃ o : Op, v = .agg (opcells o).toArray := by
  obtain ⟨cs, rfl, hsz⟩ := okWide_struct opStruct hv
  obtain ⟨l⟩ := cs
  match l, hsz.trans opCells with
  | [c0, c1, c2, c3, c4, c5, c6, c7, c8, c9, c10, c11], _ =>
    obtain ⟨fuel, hf⟩ := h
    obtain ⟨xs, n, _, hx, _, hlen, hg⟩ := DataW.trod_struct opStruct hf
    match xs, hlen with
    | [y0, y1, y2, y3, y4, y5, y6, y7, y8, y9, y10, y11], _ =>
      obtain ⟨o0, k0⟩ := hone_of opHone 0 _ rfl
      obtain ⟨o1, k1⟩ := hone_of opHone 1 _ rfl
      obtain ⟨o2, k2⟩ := hone_of opHone 2 _ rfl
      obtain ⟨o3, k3⟩ := hone_of opHone 3 _ rfl
      obtain ⟨o4, k4⟩ := hone_of opHone 4 _ rfl
      obtain ⟨o5, k5⟩ := hone_of opHone 5 _ rfl
      obtain ⟨o6, k6⟩ := hone_of opHone 6 _ rfl
      obtain ⟨o7, k7⟩ := hone_of opHone 7 _ rfl
      obtain ⟨o8, k8⟩ := hone_of opHone 8 _ rfl
      obtain ⟨o9, k9⟩ := hone_of opHone 9 _ rfl
      obtain ⟨o10, k10⟩ := hone_of opHone 10 _ rfl
      obtain ⟨o11, k11⟩ := hone_of opHone 11 _ rfl
      have h0 := hg 0 _ rfl
      simp only [Value.cells, o0, k0, List.drop_zero, List.drop_succ_cons, List.take_succ_cons, List.take_zero] at h0
      obtain ⟨z0, e0, _⟩ := DataW.trod_int Try.underlying3 h0
      have h1 := hg 1 _ rfl
      simp only [Value.cells, o1, k1, List.drop_zero, List.drop_succ_cons, List.take_succ_cons, List.take_zero] at h1
      obtain ⟨z1, e1, _⟩ := DataW.trod_int Try.underlying3 h1
      have h2 := hg 2 _ rfl
      simp only [Value.cells, o2, k2, List.drop_zero, List.drop_succ_cons, List.take_succ_cons, List.take_zero] at h2
      obtain ⟨z2, e2, _⟩ := DataW.trod_int Try.underlying2 h2
      have h3 := hg 3 _ rfl
      simp only [Value.cells, o3, k3, List.drop_zero, List.drop_succ_cons, List.take_succ_cons, List.take_zero] at h3
      obtain ⟨z3, e3, _⟩ := DataW.trod_int Try.underlying2 h3
      have h4 := hg 4 _ rfl
      simp only [Value.cells, o4, k4, List.drop_zero, List.drop_succ_cons, List.take_succ_cons, List.take_zero] at h4
      obtain ⟨z4, e4, _⟩ := DataW.trod_int Try.underlying2 h4
      have h5 := hg 5 _ rfl
      simp only [Value.cells, o5, k5, List.drop_zero, List.drop_succ_cons, List.take_succ_cons, List.take_zero] at h5
      obtain ⟨z5, e5, _⟩ := DataW.trod_int Try.underlying3 h5
      have h6 := hg 6 _ rfl
      simp only [Value.cells, o6, k6, List.drop_zero, List.drop_succ_cons, List.take_succ_cons, List.take_zero] at h6
      obtain ⟨z6, e6, _⟩ := DataW.trod_bool Try.underlying4 h6
      have h7 := hg 7 _ rfl
      simp only [Value.cells, o7, k7, List.drop_zero, List.drop_succ_cons, List.take_succ_cons, List.take_zero] at h7
      obtain ⟨z7, e7, _⟩ := DataW.trod_bool Try.underlying4 h7
      have h8 := hg 8 _ rfl
      simp only [Value.cells, o8, k8, List.drop_zero, List.drop_succ_cons, List.take_succ_cons, List.take_zero] at h8
      obtain ⟨z8, e8, _⟩ := DataW.trod_bool Try.underlying4 h8
      have h9 := hg 9 _ rfl
      simp only [Value.cells, o9, k9, List.drop_zero, List.drop_succ_cons, List.take_succ_cons, List.take_zero] at h9
      obtain ⟨z9, e9, _⟩ := DataW.trod_int Try.underlying2 h9
      have h10 := hg 10 _ rfl
      simp only [Value.cells, o10, k10, List.drop_zero, List.drop_succ_cons, List.take_succ_cons, List.take_zero] at h10
      obtain ⟨z10, e10, _⟩ := DataW.trod_int Try.underlying2 h10
      have h11 := hg 11 _ rfl
      simp only [Value.cells, o11, k11, List.drop_zero, List.drop_succ_cons, List.take_succ_cons, List.take_zero] at h11
      obtain ⟨z11, e11, _⟩ := DataW.trod_int Try.underlying2 h11
      injection e0 with e0 _
      injection e1 with e1 _
      injection e2 with e2 _
      injection e3 with e3 _
      injection e4 with e4 _
      injection e5 with e5 _
      injection e6 with e6 _
      injection e7 with e7 _
      injection e8 with e8 _
      injection e9 with e9 _
      injection e10 with e10 _
      injection e11 with e11 _
      refine ⟨{ kind := z0, space := z1, now := z2, time := z3, num := z4, size := z5, el := z6, inf := z7, v := z8, lat := z9, del := z10, lim := z11 }, ?_⟩
      subst_vars
      rfl
set_option maxHeartbeats 1000000 in
theorem open_ops {r : Reach} {b0 : Nat} {v : Value} {d : DataW H} {p : List MemPlace} (hv : Value.okWide Try.prog w r b0 22 v) (h : DataW.Trod enc Try.prog w base spare held 22 v d p) :
    ∃ (A : Option Addr) (b off n cap : Nat) (l : List Op), v = .slice A n cap ∧ l.length = n ∧ OpsAt w A b off l := by
  obtain ⟨A, n, cap, rfl⟩ := okWide_slice Try.underlying22 hv
  obtain ⟨fuel, hf⟩ := h
  rcases open_slice_fields Try.underlying22 opStruct opHone opCells hf with h0 | ⟨a, len, cap', h0, hi⟩
  · have h0' : [Value.slice A n cap] = [.slice none 0 0] := h0
    injection h0' with h0' _
    injection h0' with e1 e2 e3
    exact ⟨A, 0, 0, n, cap, [], rfl, by rw [e2]; rfl, fun k o h => by simp at h⟩
  · have h0' : [Value.slice A n cap] = [.slice (some a) len cap'] := h0
    injection h0' with h0' _
    injection h0' with e1 e2 e3
    subst e1 e2 e3
    obtain ⟨l, hl, hq⟩ := list_of (Q := fun i o => ∀ (j : Nat) (v : Value), (opcells o)[j]? = some v → w.cell? (a.add (i * 12 + j)) = some v) n fun i hin => by
      obtain ⟨m, hf⟩ := hi i hin
      obtain ⟨w0, y0, g0, t0⟩ := hf 0 _ rfl
      obtain ⟨z0, e0, _⟩ := DataW.trod_int Try.underlying3 t0
      injection e0 with e0 _
      obtain ⟨w1, y1, g1, t1⟩ := hf 1 _ rfl
      obtain ⟨z1, e1, _⟩ := DataW.trod_int Try.underlying3 t1
      injection e1 with e1 _
      obtain ⟨w2, y2, g2, t2⟩ := hf 2 _ rfl
      obtain ⟨z2, e2, _⟩ := DataW.trod_int Try.underlying2 t2
      injection e2 with e2 _
      obtain ⟨w3, y3, g3, t3⟩ := hf 3 _ rfl
      obtain ⟨z3, e3, _⟩ := DataW.trod_int Try.underlying2 t3
      injection e3 with e3 _
      obtain ⟨w4, y4, g4, t4⟩ := hf 4 _ rfl
      obtain ⟨z4, e4, _⟩ := DataW.trod_int Try.underlying2 t4
      injection e4 with e4 _
      obtain ⟨w5, y5, g5, t5⟩ := hf 5 _ rfl
      obtain ⟨z5, e5, _⟩ := DataW.trod_int Try.underlying3 t5
      injection e5 with e5 _
      obtain ⟨w6, y6, g6, t6⟩ := hf 6 _ rfl
      obtain ⟨z6, e6, _⟩ := DataW.trod_bool Try.underlying4 t6
      injection e6 with e6 _
      obtain ⟨w7, y7, g7, t7⟩ := hf 7 _ rfl
      obtain ⟨z7, e7, _⟩ := DataW.trod_bool Try.underlying4 t7
      injection e7 with e7 _
      obtain ⟨w8, y8, g8, t8⟩ := hf 8 _ rfl
      obtain ⟨z8, e8, _⟩ := DataW.trod_bool Try.underlying4 t8
      injection e8 with e8 _
      obtain ⟨w9, y9, g9, t9⟩ := hf 9 _ rfl
      obtain ⟨z9, e9, _⟩ := DataW.trod_int Try.underlying2 t9
      injection e9 with e9 _
      obtain ⟨w10, y10, g10, t10⟩ := hf 10 _ rfl
      obtain ⟨z10, e10, _⟩ := DataW.trod_int Try.underlying2 t10
      injection e10 with e10 _
      obtain ⟨w11, y11, g11, t11⟩ := hf 11 _ rfl
      obtain ⟨z11, e11, _⟩ := DataW.trod_int Try.underlying2 t11
      injection e11 with e11 _
      subst e0
      subst e1
      subst e2
      subst e3
      subst e4
      subst e5
      subst e6
      subst e7
      subst e8
      subst e9
      subst e10
      subst e11
      refine ⟨{ kind := z0, space := z1, now := z2, time := z3, num := z4, size := z5, el := z6, inf := z7, v := z8, lat := z9, del := z10, lim := z11 }, fun j v hj => ?_⟩
      match j with
      | 0 => simp [opcells] at hj; subst hj; exact g0
      | 1 => simp [opcells] at hj; subst hj; exact g1
      | 2 => simp [opcells] at hj; subst hj; exact g2
      | 3 => simp [opcells] at hj; subst hj; exact g3
      | 4 => simp [opcells] at hj; subst hj; exact g4
      | 5 => simp [opcells] at hj; subst hj; exact g5
      | 6 => simp [opcells] at hj; subst hj; exact g6
      | 7 => simp [opcells] at hj; subst hj; exact g7
      | 8 => simp [opcells] at hj; subst hj; exact g8
      | 9 => simp [opcells] at hj; subst hj; exact g9
      | 10 => simp [opcells] at hj; subst hj; exact g10
      | 11 => simp [opcells] at hj; subst hj; exact g11
      | j + 12 => simp [opcells] at hj
    obtain ⟨b, off, spot⟩ := a
    refine ⟨_, b, off, n, cap, l, rfl, hl, fun k o hk => ?_⟩
    have h1 := hq k o hk 0 _ rfl
    have hkl := (List.getElem?_eq_some_iff.1 hk).1
    have hspot : spot = none := by
      have h00 := hq 0 _ (List.getElem?_eq_getElem (by omega)) 0 _ rfl
      simpa [Addr.add] using World.cell?_spot h00
    subst hspot
    have hadd : ∀ j, (⟨b, off, none⟩ : Addr).add j = ⟨b, off + j, none⟩ := fun j => by unfold Addr.add; split <;> simp_all
    refine ⟨rfl, ?_, fun j v hj => ?_⟩
    · rcases Nat.lt_or_ge b w.heap.size with hlt | hge
      · exact hlt
      · rw [hadd] at h1
        simp [World.cell?, Array.getElem?_eq_none hge] at h1
    · have h2 := hq k o hk j v hj
      rw [hadd] at h2
      rw [show off + k * 12 + j = off + (k * 12 + j) by omega]
      exact h2
end

/-- The row's end, where of the world behind no more is known than that below the old size it is as it was. -/
theorem post_of_below {H : Type} {enc : TypeId × Value → H} {P : Program} {f : Func} {s : ChangeSpec} {apart fresh handsOn again : Bool} {W W' : World} {args : Array Value} {v : Value} {ds gs : List (DataW H)} {before pa pv : List MemPlace}
    (hW : DataW.Whole enc P f.params.toList s.vars apart W args.toList ds gs before)
    (hres : ∀ (b : Nat) (sp : Nat → Bool) (hd : Bool), DataW.TrodAll enc P W' b sp hd f.resultTypes.toList (v.resultList f.resultTypes.size) (s.fn H (ds ++ gs)).results [])
    (hargs : ∀ sp : Nat → Bool, (∀ p ∈ before, sp p.block = true) → DataW.TrodAll enc P W' 0 sp true f.params.toList args.toList (s.fn H (ds ++ gs)).args pa)
    (hvars : ∀ sp : Nat → Bool, (∀ p ∈ before, sp p.block = true) → DataW.TrodVars enc P W' sp s.vars (s.fn H (ds ++ gs)).vars pv)
    (hps : before = pa ++ pv) (hb : Below W.heap.size W W')
    (hok : ∀ (j : Nat) (t : TypeId) (r : Value), f.resultTypes[j]? = some t → (v.resultList f.resultTypes.size)[j]? = some r → Value.okWide P W' .any 0 t r) :
    s.post enc P f apart fresh handsOn again W args v W' := by
  have hold : ∀ p ∈ before, (fun b => decide (b < W.heap.size)) p.block = true := fun p hp => by simpa using hW.lt p hp
  have hlt := hW.lt
  refine ⟨ds, gs, before, [], pa, pv, hW, hres _ _ _, hargs _ hold, hvars _ hold, World.keptBut_mono (fun p hp => ⟨hp, ?_⟩) (hb.frame (· ∈ before)), fun _ => ?_⟩
  · rw [hps, List.mem_append] at hp
    exact Or.inr hp
  · obtain ⟨_, _, _, _, _, hz, hn⟩ := hW
    refine ⟨hok, _, _, ([] ++ pa) ++ pv, ⟨[] ++ pa, pv, trodAll_append (hargs _ (fun _ _ => rfl)) (hres _ _ _), hvars _ (fun _ _ => rfl), rfl, ?_, ?_⟩, ?_⟩
    · intro b off hp
      have hp' : MemPlace.cell b off ∈ before := by rw [hps]; simpa using hp
      rw [hb.frozen (hlt _ hp')]
      exact hz b off hp'
    · intro ha
      have := hn ha
      rw [hps] at this
      simpa using this
    · intro p hp _
      rw [hps]
      simpa using hp
end Go.Proofs.Ytehplpakbfnhbaa
