/-
  impl.Run: what it hands back.
-/
import Derived.Test.YtehplpakbfnhbaaZ3
namespace Go.Proofs.Ytehplpakbfnhbaa
open Go.RowKit
set_option linter.unusedVariables false
set_option linter.unusedSimpArgs false

theorem Try.info40 : (Try.prog.info? 40).map (fun i => (i.zero, i.size, i.bytes)) = some (some (.agg #[.int .i64 0, .int .i64 0, .int .i64 0, .int .i64 0, .int .i64 0, .int .i64 0, .bool false, .bool false, .bool false, .int .i64 0, .int .i64 0, .int .i64 0]), 12, 80) := by kernel_rfl
theorem Try.info32 : (Try.prog.info? 32).map (fun i => (i.zero, i.size, i.bytes)) = some (some (.agg #[.int .i64 0, .int .i64 0, .int .i64 0, .int .i64 0, .bool false, .bool false, .bool false, .string ⟨#[]⟩, .int .i64 0, .int .i64 0, .int .i64 0]), 11, 80) := by kernel_rfl

/-- A slice of calls that lies at an address. -/
def OpsAt (w : World) (A : Option Addr) (b off : Nat) (l : List Op) : Prop :=
  ∀ (k : Nat) (o : Op), l[k]? = some o → A = some ⟨b, off, none⟩ ∧ b < w.heap.size ∧ ∀ (j : Nat) (v : Value), (opcells o)[j]? = some v → w.cell? ⟨b, off + k * 12 + j, none⟩ = some v

def allcells (l : List Op) (k : Nat) : List Value := (l.take k).flatMap opcells
theorem allcells_succ {l : List Op} {k : Nat} {o : Op} (h : l[k]? = some o) : allcells l (k + 1) = allcells l k ++ opcells o := by
  unfold allcells
  rw [List.take_add_one, h]
  simp
theorem flat_at {α : Type} (f : α → List Value) (s : Nat) (hf : ∀ a, (f a).length = s) : ∀ (l : List α) (k : Nat) (a : α), l[k]? = some a → ∀ (j : Nat) (v : Value), (f a)[j]? = some v → (l.flatMap f)[k * s + j]? = some v := by
  intro l
  induction l with
  | nil => intro k a h; simp at h
  | cons x l ih =>
    intro k a h j v hj
    cases k with
    | zero =>
      simp at h
      subst h
      have hl : j < (f x).length := (List.getElem?_eq_some_iff.1 hj).1
      rw [List.flatMap_cons, Nat.zero_mul, Nat.zero_add, List.getElem?_append_left hl]
      exact hj
    | succ k =>
      have h' : l[k]? = some a := by simpa using h
      have := ih k a h' j v hj
      rw [List.flatMap_cons, List.getElem?_append_right (by rw [hf, Nat.succ_mul]; omega), hf]
      rw [show (k + 1) * s + j - s = k * s + j by rw [Nat.succ_mul]; omega]
      exact this
theorem outs_at (s : C × R) (l : List Op) (n k : Nat) (h : k ≤ n) (j : Nat) (v : Value) (hj : (ocells (sAt s l k).1 (sAt s l k).2).toList[j]? = some v) : (outs s l n)[k * 11 + j]? = some v :=
  flat_at (fun j => (ocells (sAt s l j).1 (sAt s l j).2).toList) 11 (fun _ => rfl) (List.range (n + 1)) k k (by rw [List.getElem?_range (by omega)]) j v hj
theorem outs_len (s : C × R) (l : List Op) (k : Nat) : (outs s l k).length = (k + 1) * 11 := by
  induction k with
  | zero => rw [outs_zero]; rfl
  | succ k ih => rw [outs_succ, List.length_append, ih, Nat.succ_mul (k + 1) 11]; rfl
def outs0 (s : C × R) (l : List Op) (k : Nat) : List Value := (List.range k).flatMap fun j => (ocells (sAt s l j).1 (sAt s l j).2).toList
theorem outs0_succ (s : C × R) (l : List Op) (k : Nat) : outs0 s l (k + 1) = outs0 s l k ++ (ocells (sAt s l k).1 (sAt s l k).2).toList := by
  unfold outs0
  rw [List.range_succ, List.flatMap_append]
  simp

theorem own_mono {W : World} {b b' : Nat} {e : TypeId} {s : Nat} {v : Value} {n : Nat} {xs : List Value} (h : W.ownsRow b e s v n xs) (hb : b' ≤ b) : W.ownsRow b' e s v n xs := by
  refine ⟨h.1, ?_⟩
  rcases h.2 with h0 | ⟨g, cap, cur, hv, hg, r⟩
  · exact .inl h0
  · exact .inr ⟨g, cap, cur, hv, Nat.le_trans hb hg, r⟩
theorem in_of {w W : World} {v : Value} {l : List Op} {k n : Nat} (ho : W.ownsRow w.heap.size 40 12 v k (allcells l k)) (hv : k = 0 → v = .slice none 0 0) (hk : k = n) (hn : l.length = n) :
    ∃ A2 gl c2, v = .slice A2 n c2 ∧ (0 < n → gl < W.heap.size) ∧ (0 < n → A2 = some ⟨gl, 0, none⟩) ∧ (∀ (k : Nat) (o : Op), l[k]? = some o → ∀ (j : Nat) (v : Value), (opcells o)[j]? = some v → W.cell? ⟨gl, k * 12 + j, none⟩ = some v) := by
  subst hk
  rcases Nat.eq_zero_or_pos k with h0 | h0
  · subst h0
    refine ⟨none, 0, 0, hv rfl, by omega, by omega, ?_⟩
    intro k o h
    have : l = [] := List.eq_nil_of_length_eq_zero hn
    subst this
    simp at h
  · obtain ⟨g, cap, rfl, hb, hlt⟩ := ho.form h0
    refine ⟨_, g, cap, rfl, fun _ => hlt, fun _ => rfl, ?_⟩
    intro i o hi j v hj
    have hl : i < l.length := (List.getElem?_eq_some_iff.1 hi).1
    have hj12 : j < 12 := (List.getElem?_eq_some_iff.1 hj).1
    have hc := ho.cellAt (i * 12 + j) (by omega)
    rw [hc]
    unfold allcells
    rw [List.take_of_length_le (by omega)]
    exact flat_at opcells 12 (fun _ => rfl) l i o hi j v hj
theorem cells_of {w W : World} {g n c : Nat} {s : C × R} {l : List Op} (ho : W.ownsRow w.heap.size 43 11 (.slice (some ⟨g, 0, none⟩) (n + 1) c) (n + 1) (outs s l n)) {j : Nat} (hj : j ≤ n) {q : Nat} {v : Value} (hq : (ocells (sAt s l j).1 (sAt s l j).2).toList[q]? = some v) :
    W.cell? ⟨g, j * 11 + q, none⟩ = some v := by
  have hq11 : q < 11 := (List.getElem?_eq_some_iff.1 hq).1
  rw [ho.cellAt (j * 11 + q) (by omega)]
  exact outs_at s l n j hj q v hq

set_option maxRecDepth 100000 in
set_option maxHeartbeats 4000000 in
theorem run_any (A : Option Addr) (b off n cap : Nat) (size : Int) (l : List Op) (w : World) (h0 : 1200 ≤ size) (h1 : size ≤ 65527) (hn : l.length = n) (hl : n ≤ 1000) (hg : ∀ o ∈ l, Good o) (hin : OpsAt w A b off l) :
    Calls Try.prog 6 #[.int .i64 size, .slice A n cap] w fun e w' => ∃ g c2, e = .returned (.slice (some ⟨g, 0, none⟩) (n + 1) c2) ∧ w'.ownsRow w.heap.size 32 11 (.slice (some ⟨g, 0, none⟩) (n + 1) c2) (n + 1) (outs0 (C.new size, R.new) l (n + 1)) ∧ Below w.heap.size w w' := by
  have HIN := Lib.hid hin
  have HGD := Lib.hid hg
  have HLN := Lib.hid hn
  clear hin hg hn
  obtain ⟨ti, hi, hz0, hz1, hz2⟩ := info_parts Try.info40
  go_enter Try.func6, Try.ntmps6
  go_wp2
  go_loopw [5, 13] (fun v i W => ∃ k : Nat, k ≤ n ∧ i = .int .i64 k ∧ W.ownsRow w.heap.size 40 12 v k (allcells l k) ∧ Below w.heap.size w W ∧ (k = 0 → v = .slice none 0 0)) (fun _ i _ => n - (intOf i).toNat)
  case atStart => exact ⟨0, Nat.zero_le _, rfl, World.ownsRow_nil _ _ _ _, Below.refl _ _, fun _ => rfl⟩
  case round =>
    obtain ⟨k, hk, rfl, ho1, hb1, hv1⟩ := hrel
    have HO := Lib.hid ho1
    have HB := Lib.hid hb1
    have HV := Lib.hid hv1
    clear ho1 hb1 hv1
    by_cases hlt : k < n
    · obtain ⟨o, ho⟩ : ∃ o, l[k]? = some o := ⟨_, List.getElem?_eq_getElem (by have := HLN.out; omega)⟩
      obtain ⟨eA, hlb, hcell⟩ := HIN.out k o ho
      have i0 : wr.cell? ⟨b, off + k * 12, none⟩ = some (.int .i64 o.kind) := (HB.out.cell (p := ⟨b, off + k * 12, none⟩) hlb).trans (hcell 0 _ rfl)
      have i1 : wr.cell? ⟨b, off + k * 12 + 1, none⟩ = some (.int .i64 o.space) := (HB.out.cell (p := ⟨b, off + k * 12 + 1, none⟩) hlb).trans (hcell 1 _ rfl)
      have i2 : wr.cell? ⟨b, off + k * 12 + 2, none⟩ = some (.int .i64 o.now) := (HB.out.cell (p := ⟨b, off + k * 12 + 2, none⟩) hlb).trans (hcell 2 _ rfl)
      have i3 : wr.cell? ⟨b, off + k * 12 + 3, none⟩ = some (.int .i64 o.time) := (HB.out.cell (p := ⟨b, off + k * 12 + 3, none⟩) hlb).trans (hcell 3 _ rfl)
      have i4 : wr.cell? ⟨b, off + k * 12 + 4, none⟩ = some (.int .i64 o.num) := (HB.out.cell (p := ⟨b, off + k * 12 + 4, none⟩) hlb).trans (hcell 4 _ rfl)
      have i5 : wr.cell? ⟨b, off + k * 12 + 5, none⟩ = some (.int .i64 o.size) := (HB.out.cell (p := ⟨b, off + k * 12 + 5, none⟩) hlb).trans (hcell 5 _ rfl)
      have i6 : wr.cell? ⟨b, off + k * 12 + 6, none⟩ = some (.bool o.el) := (HB.out.cell (p := ⟨b, off + k * 12 + 6, none⟩) hlb).trans (hcell 6 _ rfl)
      have i7 : wr.cell? ⟨b, off + k * 12 + 7, none⟩ = some (.bool o.inf) := (HB.out.cell (p := ⟨b, off + k * 12 + 7, none⟩) hlb).trans (hcell 7 _ rfl)
      have i8 : wr.cell? ⟨b, off + k * 12 + 8, none⟩ = some (.bool o.v) := (HB.out.cell (p := ⟨b, off + k * 12 + 8, none⟩) hlb).trans (hcell 8 _ rfl)
      have i9 : wr.cell? ⟨b, off + k * 12 + 9, none⟩ = some (.int .i64 o.lat) := (HB.out.cell (p := ⟨b, off + k * 12 + 9, none⟩) hlb).trans (hcell 9 _ rfl)
      have i10 : wr.cell? ⟨b, off + k * 12 + 10, none⟩ = some (.int .i64 o.del) := (HB.out.cell (p := ⟨b, off + k * 12 + 10, none⟩) hlb).trans (hcell 10 _ rfl)
      have i11 : wr.cell? ⟨b, off + k * 12 + 11, none⟩ = some (.int .i64 o.lim) := (HB.out.cell (p := ⟨b, off + k * 12 + 11, none⟩) hlb).trans (hcell 11 _ rfl)
      have HLO := Lib.hid ho
      clear ho hcell
      have hk0 : (0 : Int) ≤ (k : Int) := by omega
      have hk1 : (k : Int) < (n : Int) := by omega
      rw [eA]
      have EA := Lib.hid eA
      clear eA
      go_wp2_with (at_builtin; refine wpList_append_own _ rfl _ _ 39 rfl w.heap.size 40 ti _ 12 80 Try.underlying39 hi hz0 hz1 hz2 rfl (by decide) _ _ _ rfl ((HO.out.alloc _).alloc _) ⟨wr.heap.size + 1, 0, none⟩ 1 1 (opcells o) rfl rfl ?c1 ?c2 ?c3 ?c4 ?c5 ?_)
      case c1 => exact World.news_of_block (cs := (opcells o).toArray) (by rw [show wr.heap.size + 1 = (wr.alloc (.cells (opcells o).toArray 24)).heap.size by simp]; exact heap_alloc_new _ _)
      case c2 => simp [Value.oneCell', opcells]
      case c3 => unfold maxLen; omega
      case c4 => omega
      case c5 => have := HB.out.size; simp; omega
      · intro v' w3 hown3 hgrow3 hnil
        have HO3 := Lib.hid hown3
        have HB3 := Lib.hid ((((HB.out.alloc HB.out.size _).alloc (by have := HB.out.size; simp; omega) _)).grown hgrow3 (by have := HB.out.size; simp; omega) (fun q e => (HO.out.lt q e).1))
        clear hown3 hgrow3 hnil
        go_wp2
        go_roundw
        case rel => exact ⟨k + 1, by omega, by go_num, by rw [allcells_succ HLO.out]; exact HO3.out, HB3.out, fun h => by omega⟩
        case measure => simp [intOf]; omega
    · have EK := Lib.hid (show k = n by omega)
      have IN2 := Lib.hid (show ∃ A2 gl c2, u5 = .slice A2 n c2 ∧ (0 < n → gl < wr.heap.size) ∧ (0 < n → A2 = some ⟨gl, 0, none⟩) ∧ (∀ (k : Nat) (o : Op), l[k]? = some o → ∀ (j : Nat) (v : Value), (opcells o)[j]? = some v → wr.cell? ⟨gl, k * 12 + j, none⟩ = some v) from in_of HO.out HV.out EK.out HLN.out)
      clear HV HO
      obtain ⟨A2, gl, c2, eu, hgl, hA2, hin2⟩ := IN2.out
      have HGL2 := Lib.hid hgl
      have HA2 := Lib.hid hA2
      have HIN2 := Lib.hid hin2
      clear hgl hA2 hin2
      subst eu
      go_wp2_with (go_at_call 9; refine (zzrun_some _ gl _ _ _ l _ h0 h1 HLN.out hl HGD.out HIN2.out HGL2.out HA2.out).mono ?_; rintro e W2 ⟨v2, rfl, ho2, hb2⟩; obtain ⟨gz, cz, rfl, hz1', hz2'⟩ := ho2.form (by omega); have HO2 := Lib.hid ho2; have HB2' := Lib.hid (HB.out.trans (hb2.mono HB.out.size)); clear ho2 hb2)
      have HLZ := Lib.hid hz2'
      have HCZ := Lib.hid (show ∀ (j : Nat), j ≤ n → ∀ (q : Nat) (v : Value), (ocells (sAt (C.new size, R.new) l j).1 (sAt (C.new size, R.new) l j).2).toList[q]? = some v → W2.cell? ⟨gz, j * 11 + q, none⟩ = some v from fun j hj q v hq => cells_of HO2.out hj hq)
      clear hz1' hz2' HO2 HB IN2 HGL2 HA2 HIN2
      obtain ⟨ti2, hi', hz0', hz1', hz2'⟩ := info_parts Try.info32
      go_loopw [8, 26] (fun v i W => ∃ j : Nat, j ≤ n + 1 ∧ i = .int .i64 j ∧ W.ownsRow W2.heap.size 32 11 v j (outs0 (C.new size, R.new) l j) ∧ Below W2.heap.size W2 W ∧ (0 < j → ∃ g c, v = .slice (some ⟨g, 0, none⟩) j c)) (fun _ i _ => (n + 1) - (intOf i).toNat)
      case atStart => exact ⟨0, Nat.zero_le _, rfl, World.ownsRow_nil _ _ _ _, Below.refl _ _, fun h => absurd h (by omega)⟩
      case round =>
        obtain ⟨j, hj, rfl, ho3, hb3, hf3⟩ := hrel
        have HO3 := Lib.hid ho3
        have HB2 := Lib.hid hb3
        have HF3 := Lib.hid hf3
        clear ho3 hb3 hf3
        by_cases hlt2 : j < n + 1
        · have j0 : (0 : Int) ≤ (j : Int) := by omega
          have j1 : (j : Int) < (n : Int) + 1 := by omega
          have i0 : wr.cell? ⟨gz, j * 11, none⟩ = some (.int .i64 (sAt (C.new size, R.new) l j).1.cw) := (HB2.out.cell (p := ⟨gz, j * 11, none⟩) HLZ.out).trans (HCZ.out j (by omega) 0 _ rfl)
          have i1 : wr.cell? ⟨gz, j * 11 + 1, none⟩ = some (.int .i64 (sAt (C.new size, R.new) l j).1.fl) := (HB2.out.cell (p := ⟨gz, j * 11 + 1, none⟩) HLZ.out).trans (HCZ.out j (by omega) 1 _ rfl)
          have i2 : wr.cell? ⟨gz, j * 11 + 2, none⟩ = some (.int .i64 (sAt (C.new size, R.new) l j).1.thr) := (HB2.out.cell (p := ⟨gz, j * 11 + 2, none⟩) HLZ.out).trans (HCZ.out j (by omega) 2 _ rfl)
          have i3 : wr.cell? ⟨gz, j * 11 + 3, none⟩ = some (.int .i64 (sAt (C.new size, R.new) l j).1.pend) := (HB2.out.cell (p := ⟨gz, j * 11 + 3, none⟩) HLZ.out).trans (HCZ.out j (by omega) 3 _ rfl)
          have i4 : wr.cell? ⟨gz, j * 11 + 4, none⟩ = some (.bool (sAt (C.new size, R.new) l j).1.can) := (HB2.out.cell (p := ⟨gz, j * 11 + 4, none⟩) HLZ.out).trans (HCZ.out j (by omega) 4 _ rfl)
          have i5 : wr.cell? ⟨gz, j * 11 + 5, none⟩ = some (.bool (sAt (C.new size, R.new) l j).1.one) := (HB2.out.cell (p := ⟨gz, j * 11 + 5, none⟩) HLZ.out).trans (HCZ.out j (by omega) 5 _ rfl)
          have i6 : wr.cell? ⟨gz, j * 11 + 6, none⟩ = some (.bool (sAt (C.new size, R.new) l j).1.inr) := (HB2.out.cell (p := ⟨gz, j * 11 + 6, none⟩) HLZ.out).trans (HCZ.out j (by omega) 6 _ rfl)
          have i7 : wr.cell? ⟨gz, j * 11 + 7, none⟩ = some (.string (sAt (C.new size, R.new) l j).1.name) := (HB2.out.cell (p := ⟨gz, j * 11 + 7, none⟩) HLZ.out).trans (HCZ.out j (by omega) 7 _ rfl)
          have i8 : wr.cell? ⟨gz, j * 11 + 8, none⟩ = some (.int .i64 (sAt (C.new size, R.new) l j).2.mn) := (HB2.out.cell (p := ⟨gz, j * 11 + 8, none⟩) HLZ.out).trans (HCZ.out j (by omega) 8 _ rfl)
          have i9 : wr.cell? ⟨gz, j * 11 + 9, none⟩ = some (.int .i64 (sAt (C.new size, R.new) l j).2.sm) := (HB2.out.cell (p := ⟨gz, j * 11 + 9, none⟩) HLZ.out).trans (HCZ.out j (by omega) 9 _ rfl)
          have i10 : wr.cell? ⟨gz, j * 11 + 10, none⟩ = some (.int .i64 (sAt (C.new size, R.new) l j).2.var) := (HB2.out.cell (p := ⟨gz, j * 11 + 10, none⟩) HLZ.out).trans (HCZ.out j (by omega) 10 _ rfl)
          go_wp2_with (at_builtin; refine wpList_append_lies _ rfl _ _ 29 rfl W2.heap.size 32 ti2 _ 11 80 Try.underlying29 hi' hz0' hz1' hz2' rfl (by decide) _ _ _ rfl ((HO3.out.alloc _).alloc _) ⟨wr.heap.size + 1, 0, none⟩ 1 1 [.int .i64 (sAt (C.new size, R.new) l j).1.cw, .int .i64 (sAt (C.new size, R.new) l j).1.fl, .int .i64 (sAt (C.new size, R.new) l j).1.thr, .int .i64 (sAt (C.new size, R.new) l j).1.pend, .bool (sAt (C.new size, R.new) l j).1.can, .bool (sAt (C.new size, R.new) l j).1.one, .bool (sAt (C.new size, R.new) l j).1.inr, .string (sAt (C.new size, R.new) l j).1.name, .int .i64 (sAt (C.new size, R.new) l j).2.mn, .int .i64 (sAt (C.new size, R.new) l j).2.sm, .int .i64 (sAt (C.new size, R.new) l j).2.var] rfl rfl ?d1 ?d2 (by decide) ?d3 ?d4 ?d5 _ rfl ?_)
          case d1 => exact World.news_of_block (cs := ocells (sAt (C.new size, R.new) l j).1 (sAt (C.new size, R.new) l j).2) (by rw [show wr.heap.size + 1 = (wr.alloc (.cells (ocells (sAt (C.new size, R.new) l j).1 (sAt (C.new size, R.new) l j).2) 43)).heap.size by simp]; exact heap_alloc_new _ _)
          case d2 => simp [Value.oneCell']
          case d3 => unfold maxLen; omega
          case d4 => omega
          case d5 => have := HB2'.out.size; have := HB2.out.size; simp; omega
          · intro g3 c3 w3 hown3 hgrow3 hat3 hlt3
            have HO4 := Lib.hid hown3
            have HB4 := Lib.hid ((((HB2.out.alloc HB2.out.size _).alloc (by have := HB2.out.size; simp; omega) _)).grown hgrow3 (by have := HB2.out.size; simp; omega) (fun q e => (HO3.out.lt q e).1))
            clear hown3 hgrow3 hat3 hlt3
            go_wp2
            go_roundw
            case rel => exact ⟨j + 1, by omega, by go_num, by rw [outs0_succ]; exact HO4.out, HB4.out, fun _ => ⟨_, _, rfl⟩⟩
            case measure => simp [intOf]; omega
        · have EJ := Lib.hid (show j = n + 1 by omega)
          obtain ⟨g5, c5, e5⟩ := HF3.out (by omega)
          have E5 := Lib.hid e5
          clear e5
          go_wp2
          go_ret
          refine ⟨g5, c5, by rw [E5.out, EJ.out]; rfl, ?_, ?_⟩
          · have h := HO3.out
            rw [E5.out, EJ.out] at h
            exact own_mono h HB2'.out.size
          · exact HB2'.out.trans (HB2.out.mono HB2'.out.size)
end Go.Proofs.Ytehplpakbfnhbaa
