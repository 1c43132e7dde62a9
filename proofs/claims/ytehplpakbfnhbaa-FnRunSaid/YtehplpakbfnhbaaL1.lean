/-
  told: what it says of calls.
-/
import Derived.Test.YtehplpakbfnhbaaZ4
namespace Go.Proofs.Ytehplpakbfnhbaa
open Go.RowKit
set_option linter.unusedVariables false
set_option linter.unusedSimpArgs false

theorem Try.info28 : (Try.prog.info? 28).map (fun i => (i.zero, i.size, i.bytes)) = some (some (.agg #[.int .i64 0, .int .i64 0, .int .i64 0, .int .i64 0, .int .i64 0, .int .i64 0, .bool false, .bool false, .bool false, .int .i64 0, .int .i64 0, .int .i64 0]), 12, 80) := by kernel_rfl
def badA (o : Op) : Prop := o.kind < 0 ∨ 6 < o.kind ∨ o.space < 0 ∨ 2 < o.space ∨ o.size < 0 ∨ 65535 < o.size ∨ o.now < 0 ∨ o.time < 0 ∨ 3000000 ≤ o.now ∨ 3000000 ≤ o.time ∨ o.num < 0 ∨ 4611686018427387904 ≤ o.num
def badB (o : Op) : Prop := o.lat < 0 ∨ o.del < 0 ∨ o.lim < 0 ∨ 1099511627776 < o.lat ∨ 1099511627776 < o.del ∨ 1099511627776 < o.lim ∨ (o.kind = 6 ∧ o.space = 0)
instance (o : Op) : Decidable (badA o) := by unfold badA; infer_instance
instance (o : Op) : Decidable (badB o) := by unfold badB; infer_instance
theorem good_of {o : Op} (a : ¬ badA o) (b : ¬ badB o) : Good o := by
  unfold badA at a
  unfold badB at b
  constructor <;> omega
/-- What told answers. -/
def toldB (size : Int) (l : List Op) : Bool := decide ((∀ o ∈ l, ¬ badA o ∧ ¬ badB o) ∧ l.length ≤ 1000 ∧ 1200 ≤ size ∧ size ≤ 65527)

theorem told_bad {size : Int} {l : List Op} {k : Nat} {o : Op} (h : l[k]? = some o) (hb : badA o ∨ badB o) : toldB size l = false := by
  unfold toldB
  refine decide_eq_false fun hh => ?_
  have := hh.1 o (List.mem_of_getElem? h)
  rcases hb with hb | hb
  · exact this.1 hb
  · exact this.2 hb
theorem told_good {size : Int} {l : List Op} (h : ∀ o ∈ l, ¬ badA o ∧ ¬ badB o) : toldB size l = decide (l.length ≤ 1000 ∧ 1200 ≤ size ∧ size ≤ 65527) := by
  unfold toldB
  exact decide_eq_decide.mpr ⟨fun x => x.2, fun x => ⟨h, x⟩⟩

set_option maxRecDepth 100000 in
set_option maxHeartbeats 20000000 in
theorem told_any (A : Option Addr) (b off n cap : Nat) (size : Int) (l : List Op) (w : World) (hn : l.length = n) (hl : n ≤ 2147483650) (hin : OpsAt w A b off l) :
    Calls Try.prog 5 #[.int .i64 size, .slice A n cap] w fun e w' => ∃ v, e = .returned (.tuple #[v, .bool (toldB size l)]) ∧ (toldB size l = true → w'.ownsRow w.heap.size 28 12 v n (allcells l n)) ∧ Below w.heap.size w w' := by
  have HIN := Lib.hid hin
  have HLN := Lib.hid hn
  clear hin hn
  obtain ⟨ti, hi, hz0, hz1, hz2⟩ := info_parts Try.info28
  go_enter Try.func5, Try.ntmps5
  go_wp2
  go_loopg [6, 11] n (fun gk v i W => ∃ k : Nat, k ≤ n ∧ gk = n - k ∧ i = .int .i64 k ∧ W.ownsRow w.heap.size 28 12 v k (allcells l k) ∧ Below w.heap.size w W ∧ ∀ o ∈ l.take k, ¬ badA o ∧ ¬ badB o)
  case atStart => exact ⟨0, Nat.zero_le _, rfl, rfl, World.ownsRow_nil _ _ _ _, Below.refl _ _, by simp⟩
  case round =>
    obtain ⟨k, hk, hgk, rfl, ho1, hb1, hg1⟩ := hrel
    have HGK := Lib.hid hgk
    have HO := Lib.hid ho1
    have HB := Lib.hid hb1
    have HG := Lib.hid hg1
    clear ho1 hb1 hg1 hgk
    by_cases hlt : k < n
    · obtain ⟨o, ho⟩ : ∃ o, l[k]? = some o := ⟨_, List.getElem?_eq_getElem (by have := HLN.out; omega)⟩
      obtain ⟨eA, hlb, hcell⟩ := HIN.out k o ho
      have i0 : wr.cell? ⟨b, off + k * 12, none⟩ = some (.int .i64 o.kind) := (HB.out.cell (p := ⟨b, off + k * 12, none⟩) hlb).trans (hcell 0 _ rfl)
      have i1 : wr.cell? ⟨b, off + k * 12 + 1, none⟩ = some (.int .i64 o.space) := (HB.out.cell (p := ⟨b, off + k * 12 + 1, none⟩) hlb).trans (hcell 1 _ rfl)
      have i2 : wr.cell? ⟨b, off + k * 12 + 2, none⟩ = some (.int .i64 o.now) := (HB.out.cell (p := ⟨b, off + k * 12 + 2, none⟩) hlb).trans (hcell 2 _ rfl)
      have i3 : wr.cell? ⟨b, off + k * 12 + 3, none⟩ = some (.int .i64 o.time) := (HB.out.cell (p := ⟨b, off + k * 12 + 3, none⟩) hlb).trans (hcell 3 _ rfl)
      have i4 : wr.cell? ⟨b, off + k * 12 + 4, none⟩ = some (.int .i64 o.num) := (HB.out.cell (p := ⟨b, off + k * 12 + 4, none⟩) hlb).trans (hcell 4 _ rfl)
      have i5 : wr.cell? ⟨b, off + k * 12 + 5, none⟩ = some (.int .i64 o.size) := (HB.out.cell (p := ⟨b, off + k * 12 + 5, none⟩) hlb).trans (hcell 5 _ rfl)
      have i6 : wr.cell? ⟨b, off + k * 12 + 6, none⟩ = some (.bool o.el) := (HB.out.cell (p := ⟨b, off + k * 12 + 6, none⟩) hlb).trans (hcell 6 _ rfl)
      have i7 : wr.cell? ⟨b, off + k * 12 + 7, none⟩ = some (.bool o.inf) := (HB.out.cell (p := ⟨b, off + k * 12 + 7, none⟩) hlb).trans (hcell 7 _ rfl)
      have i8 : wr.cell? ⟨b, off + k * 12 + 8, none⟩ = some (.bool o.v) := (HB.out.cell (p := ⟨b, off + k * 12 + 8, none⟩) hlb).trans (hcell 8 _ rfl)
      have i9 : wr.cell? ⟨b, off + k * 12 + 9, none⟩ = some (.int .i64 o.lat) := (HB.out.cell (p := ⟨b, off + k * 12 + 9, none⟩) hlb).trans (hcell 9 _ rfl)
      have i10 : wr.cell? ⟨b, off + k * 12 + 10, none⟩ = some (.int .i64 o.del) := (HB.out.cell (p := ⟨b, off + k * 12 + 10, none⟩) hlb).trans (hcell 10 _ rfl)
      have i11 : wr.cell? ⟨b, off + k * 12 + 11, none⟩ = some (.int .i64 o.lim) := (HB.out.cell (p := ⟨b, off + k * 12 + 11, none⟩) hlb).trans (hcell 11 _ rfl)
      have HLO := Lib.hid ho
      clear ho hcell
      have hk0 : (0 : Int) ≤ (k : Int) := by omega
      have hk1 : (k : Int) < (n : Int) := by omega
      subst eA
      go_upto_region 5 with (fail)
      go_cut [68] (fun v W => v = .bool (decide (badA o)) ∧ W = wr.alloc (.cells #[.int .i64 o.kind, .int .i64 o.space, .int .i64 o.now, .int .i64 o.time, .int .i64 o.num, .int .i64 o.size, .bool o.el, .bool o.inf, .bool o.v, .int .i64 o.lat, .int .i64 o.del, .int .i64 o.lim] 24))
      case first => as_aux_lemma =>
        go_wp2
        all_goals go_meet
        all_goals (case rel => exact ⟨congrArg Value.bool (by first | (exact (decide_eq_true (by unfold badA; omega)).symm) | (exact (decide_eq_false (by unfold badA; omega)).symm) | (rw [Bool.eq_iff_iff]; simp only [Bool.or_eq_true, Bool.and_eq_true, decide_eq_true_eq, beq_iff_eq]; unfold badA; omega)), rfl⟩)
      case rest =>
        obtain ⟨rfl, rfl⟩ := hcut
        by_cases hA : badA o
        · have e1 : decide (badA o) = true := decide_eq_true hA
          have ET := Lib.hid (told_bad (size := size) HLO.out (.inl hA))
          rw [e1]
          clear hA e1
          go_wp2
          go_ret2
          exact ⟨.slice none 0 0, by rw [ET.out]; rfl, fun h => by rw [ET.out] at h; exact absurd h (by decide), HB.out.alloc HB.out.size _⟩
        · have e1 : decide (badA o) = false := decide_eq_false hA
          have NA := Lib.hid hA
          rw [e1]
          clear hA e1
          go_upto_region 7 with (fail)
          go_cut [96] (fun v W => v = .bool (decide (badB o)) ∧ W = wr.alloc (.cells #[.int .i64 o.kind, .int .i64 o.space, .int .i64 o.now, .int .i64 o.time, .int .i64 o.num, .int .i64 o.size, .bool o.el, .bool o.inf, .bool o.v, .int .i64 o.lat, .int .i64 o.del, .int .i64 o.lim] 24))
          case first => as_aux_lemma =>
            go_wp2
            all_goals go_meet
            all_goals (case rel => exact ⟨congrArg Value.bool (by first | (exact (decide_eq_true (by unfold badB; omega)).symm) | (exact (decide_eq_false (by unfold badB; omega)).symm) | (rw [Bool.eq_iff_iff]; simp only [Bool.or_eq_true, Bool.and_eq_true, decide_eq_true_eq, beq_iff_eq]; unfold badB; omega)), (by first | rfl | rw [show o.kind = 6 by omega])⟩)
          case rest =>
            obtain ⟨rfl, rfl⟩ := hcut
            by_cases hB : badB o
            · have e1 : decide (badB o) = true := decide_eq_true hB
              have ET := Lib.hid (told_bad (size := size) HLO.out (.inr hB))
              rw [e1]
              clear hB e1
              go_wp2
              go_ret2
              exact ⟨.slice none 0 0, by rw [ET.out]; rfl, fun h => by rw [ET.out] at h; exact absurd h (by decide), HB.out.alloc HB.out.size _⟩
            · have e1 : decide (badB o) = false := decide_eq_false hB
              have NB := Lib.hid hB
              rw [e1]
              clear hB e1
              go_wp2_with (at_builtin; refine wpList_append_own _ rfl _ _ 25 rfl w.heap.size 28 ti _ 12 80 Try.underlying25 hi hz0 hz1 hz2 rfl (by decide) _ _ _ rfl ((HO.out.alloc _).alloc _) ⟨wr.heap.size + 1, 0, none⟩ 1 1 (opcells o) rfl rfl ?c1 ?c2 ?c3 ?c4 ?c5 ?_)
              case c1 => exact World.news_of_block (cs := (opcells o).toArray) (by rw [show wr.heap.size + 1 = (wr.alloc (.cells (opcells o).toArray 24)).heap.size by simp]; exact heap_alloc_new _ _)
              case c2 => simp [Value.oneCell', opcells]
              case c3 => unfold maxLen; omega
              case c4 => omega
              case c5 => have := HB.out.size; simp; omega
              · intro v' w3 hown3 hgrow3 hnil
                have HO3 := Lib.hid hown3
                have HB3 := Lib.hid ((((HB.out.alloc HB.out.size _).alloc (by have := HB.out.size; simp; omega) _)).grown hgrow3 (by have := HB.out.size; simp; omega) (fun q e => (HO.out.lt q e).1))
                clear hown3 hgrow3 hnil
                go_wp2
                go_roundg (n - (k + 1))
                case measure => have := HGK.out; omega
                case rel =>
                  refine ⟨k + 1, by omega, rfl, by go_num, by rw [allcells_succ HLO.out]; exact HO3.out, HB3.out, ?_⟩
                  intro x hx
                  rw [List.take_add_one, HLO.out] at hx
                  rcases List.mem_append.1 hx with hx | hx
                  · exact HG.out x hx
                  · simp at hx
                    subst hx
                    exact ⟨NA.out, NB.out⟩
    · have EK := Lib.hid (show k = n by omega)
      have ET := Lib.hid (told_good (size := size) (l := l) (fun x hx => HG.out x (by rw [EK.out, List.take_of_length_le (by have := HLN.out; omega)]; exact hx)))
      clear HGK
      go_wp2
      all_goals go_ret2
      all_goals (refine ⟨u6, ?_, fun _ => (by have h := HO.out; rw [EK.out] at h; exact h), HB.out⟩)
      all_goals (rw [ET.out, HLN.out])
      all_goals (refine congrArg (fun b => Ending.returned (.tuple #[u6, .bool b])) ?_)
      all_goals (first | (exact (decide_eq_true (by omega)).symm) | (exact (decide_eq_false (by omega)).symm) | (exact decide_eq_decide.mpr (by omega)))
end Go.Proofs.Ytehplpakbfnhbaa
