/-
  The law FnLossHalves returns true for every input, and what its arguments hold reads afterwards as it did before.
  Conditions: none. The statement is Rows.FnLossHalvesSaid as it is given, for every start of the machine.
-/
import Derived.Test.YtehplpakbfnhbaaF1
namespace Go.Proofs.Ytehplpakbfnhbaa
open Go.ChangeShapes Go.WideShapes Go.ChangeAt Go.RowKit Go.Deep
set_option linter.unusedVariables false

set_option maxRecDepth 100000 in
theorem half_lifted (os : Os) (started : os.Started) (H : Type) (enc : TypeId × Value → H) :
    ReturnsInHanded {} Try.checked os 3 .any (Rows.fnLossHalvesSpec.pre6 enc Try.prog Try.f3 Rows.fnLossHalvesRow.domain false) (Rows.fnLossHalvesSpec.post enc Try.prog Try.f3 false true false false) := by
  refine returnsInHanded_of_change (C := Try.checked) own started (by kernel_rfl) Try.func3
    (ChangeSpec.witness6 (enc := enc) (C := Try.checked) false ⟨#[], #[.int .i64 0, .slice none 0 0, .agg #[.int .i64 0, .int .i64 0, .int .i64 0, .int .i64 0, .int .i64 0, .int .i64 0, .bool false, .bool false, .bool false, .int .i64 0, .int .i64 0, .int .i64 0]], []⟩ 8 (by kernel_rfl) (by kernel_rfl) (by kernel_rfl) (by kernel_rfl)) ?_
  intro W base args ds gs before hval0 hW hcnd _
  have hval : ∀ (j : Nat) t v, Try.f3.params[j]? = some t → args[j]? = some v → Value.okWide Try.prog W .any base t v := hval0
  have hW' := hW
  have hlt := hW.lt
  obtain ⟨p, q, hA0, hV, rfl, hfz, hnd⟩ := hW
  have hA : DataW.TrodAll enc Try.prog W 0 (fun _ => true) true Try.f3.params.toList args.toList ds p := hA0
  rw [Try.params3] at hA hval
  obtain ⟨v0, v1, v2, d0, d1, d2, p0, p1, p2, rfl, rfl, rfl, h0, h1, h2⟩ := trodAll_three hA
  obtain ⟨rfl, rfl⟩ := trodVars_none hV
  obtain ⟨a, rfl, rfl, rfl, wa⟩ := open_int Try.underlying3 (hval 0 3 v0 rfl rfl) h0
  obtain ⟨A, b, off, n, cap, l, rfl, hl, hin⟩ := open_ops (hval 1 22 v1 rfl rfl) h1
  obtain ⟨o, rfl⟩ := open_op (hval 2 24 v2 rfl rfl) h2
  clear hA0 hval0
  simp only [List.append_nil, List.nil_append] at hW' hlt
  refine (half_walk A b off n cap a l o W hl hin).mono fun e W' ⟨he, hb⟩ => ?_
  subst he
  have hp1 : ∀ x ∈ p1, x.block < W.heap.size := fun x hx => hlt x (List.mem_append_left _ hx)
  have hp2 : ∀ x ∈ p2, x.block < W.heap.size := fun x hx => hlt x (List.mem_append_right _ hx)
  exact ⟨_, rfl, post_of_below (pa := p1 ++ p2) (pv := []) hW' (fun _ _ _ => trodAll_mk1 (shut_bool Try.underlying4 _))
    (fun sp hsp => trodAll_mk3 (shut_int Try.underlying3 wa)
      (WideElems.Trod_stays laid (by kernel_rfl) (of_decide_eq_true (by kernel_rfl)) h1 (fun x hx => hb.same (hp1 x hx)) (fun x hx => hsp x (List.mem_append_left _ hx)))
      (WideElems.Trod_stays laid (by kernel_rfl) (of_decide_eq_true (by kernel_rfl)) h2 (fun x hx => hb.same (hp2 x hx)) (fun x hx => hsp x (List.mem_append_right _ hx))))
    (fun _ _ => rfl) (by simp) hb (ok_one (by kernel_rfl) rfl (okWide_bool_mk Try.underlying4 _))⟩

theorem half_holds : Rows.FnLossHalvesSaid :=
  OpenClaim.holds_of_wide 3 Try.f3 rfl rfl rfl rfl rfl rfl rfl ⟨rfl, rfl, rfl, rfl, rfl⟩ rfl rfl rfl rfl rfl (by kernel_rfl) Try.func3 (by kernel_rfl)
    (of_decide_eq_true (by kernel_rfl)) (by unfold Func.isWrapper; first | (rw [if_pos (by decide +kernel)]; kernel_rfl) | (rw [if_neg (by decide +kernel)]; exact ⟨rfl, rfl⟩))
    (fun os started H enc _ => half_lifted os started H enc)
#print axioms half_holds
end Go.Proofs.Ytehplpakbfnhbaa
