/-
  What Sub of timecore computes; and times as numbers.
-/
import Derived.Test.YtehplpakbfnhbaaT2
namespace Go.Proofs.Ytehplpakbfnhbaa
open Go.RowKit

theorem equal_any (x y e : Int) (w : World) (h : x = y) (x0 : 0 ≤ x) (x1 : x < 1000000000) :
    Calls Try.prog 41 #[.agg #[.int .u64 x, .int .i64 e], .agg #[.int .u64 y, .int .i64 e]] w fun r w' => r = .returned (.bool true) ∧ Below w.heap.size w w' := by
  subst h; exact equal_same x e w x0 x1

set_option maxHeartbeats 1000000 in
theorem sub_any (x y e : Int) (w : World) (x0 : 0 ≤ x) (x1 : x < 1000000000) (y0 : 0 ≤ y) (y1 : y < 1000000000) (e0 : 0 ≤ e) (e1 : e < 100000000000) :
    Calls Try.prog 32 #[.agg #[.int .u64 x, .int .i64 e], .agg #[.int .u64 y, .int .i64 e]] w fun r w' => r = .returned (.int .i64 (x - y)) ∧ Below w.heap.size w w' := by
  have hm0 := and_both x y x0 (by omega) y0 (by omega)
  have hm1 := and_mono x x0 (by omega)
  have hm2 := and_mono y y0 (by omega)
  have hm3 := and_mask x x0 (by omega)
  have hm4 := and_mask y y0 (by omega)
  go_enter Try.func32, Try.ntmps32
  go_wp2
  go_region_held3 (fun W => W.cell? ⟨w.heap.size, 0, none⟩ = some (.int .u64 x) ∧ W.cell? ⟨w.heap.size, 1, none⟩ = some (.int .i64 e) ∧ W.cell? ⟨w.heap.size + 1, 0, none⟩ = some (.int .u64 y) ∧ W.cell? ⟨w.heap.size + 1, 1, none⟩ = some (.int .i64 e)) (first | (go_keep; done) | (refine ⟨?_, ?_, ?_, ?_⟩ <;> (first | (simp [*]; done) | (rw [hc' _ _ (by first | (simp; done) | (simp; omega))]; simp [*]))) | (refine ⟨?_, ?_, ?_, ?_⟩ <;> (rw [hc2 _ _ (by have hz := hb.size; simp at hz ⊢; omega)]; simp [*]))) (first | (go_at_call 28; refine (add_any _ _ _ _ (by omega) (by omega) (by omega) (by omega) (by omega) (by omega) (by omega) (by omega)).mono ?_; rintro r w' ⟨rfl, hb⟩; obtain ⟨hc', hf'⟩ := bcell hb) | (go_at_call 41; refine (equal_any _ _ _ _ (by omega) (by omega) (by omega)).mono ?_; rintro r w2 ⟨rfl, hb2⟩; obtain ⟨hc2, hf2⟩ := bcell hb2))
  go_wp2
  go_ret
  exact ⟨rfl, (((((Below.refl _ _).alloc (Nat.le_refl _) _).alloc (by simp) _).drew).trans (hb.mono (by simp; omega))).trans (hb2.mono (by have hz := hb.size; simp at hz ⊢; omega))⟩

/-- A time as a number: -1 is the zero time, c ≥ 0 is c nanoseconds behind the beginning. -/
def tw (c : Int) : Int := if c < 0 then 0 else c
def te (c : Int) : Int := if c < 0 then 0 else 62136596800
def tv (c : Int) : Value := .agg #[.int .u64 (tw c), .int .i64 (te c)]
theorem tw_0 (c : Int) : 0 ≤ tw c := by unfold tw; split <;> omega
theorem tw_1 (c : Int) (h : c < 3000000) : tw c < 1000000000 := by unfold tw; split <;> omega
theorem te_0 (c : Int) : 0 ≤ te c := by unfold te; split <;> omega
theorem te_1 (c : Int) : te c < 100000000000 := by unfold te; split <;> omega
theorem tw_neg : tw (-1) = 0 := rfl
theorem te_neg : te (-1) = 0 := rfl

theorem before_at (a b : Int) (w : World) (a0 : -1 ≤ a) (a1 : a < 3000000) (b0 : -1 ≤ b) (b1 : b < 3000000) :
    Calls Try.prog 29 #[.agg #[.int .u64 (tw a), .int .i64 (te a)], .agg #[.int .u64 (tw b), .int .i64 (te b)]] w fun r w' => r = .returned (.bool (decide (a < b))) ∧ Below w.heap.size w w' := by
  refine (before_any _ _ _ _ w (tw_0 a) (tw_1 a a1) (tw_0 b) (tw_1 b b1)).mono fun r w' ⟨hr, hb⟩ => ⟨hr.trans (ret_bool ?_), hb⟩
  unfold tw te
  by_cases ha : a < 0 <;> by_cases hb : b < 0 <;> simp [ha, hb] <;> omega
theorem after_at (a b : Int) (w : World) (a0 : -1 ≤ a) (a1 : a < 3000000) (b0 : -1 ≤ b) (b1 : b < 3000000) :
    Calls Try.prog 31 #[.agg #[.int .u64 (tw a), .int .i64 (te a)], .agg #[.int .u64 (tw b), .int .i64 (te b)]] w fun r w' => r = .returned (.bool (decide (b < a))) ∧ Below w.heap.size w w' := by
  refine (after_any _ _ _ _ w (tw_0 a) (tw_1 a a1) (tw_0 b) (tw_1 b b1)).mono fun r w' ⟨hr, hb⟩ => ⟨hr.trans (ret_bool ?_), hb⟩
  unfold tw te
  by_cases ha : a < 0 <;> by_cases hb : b < 0 <;> simp [ha, hb] <;> omega
theorem isZero_at (a : Int) (w : World) :
    Calls Try.prog 30 #[.agg #[.int .u64 (tw a), .int .i64 (te a)]] w fun r w' => r = .returned (.bool (decide (a < 0))) ∧ Below w.heap.size w w' := by
  refine (isZero_any _ _ w).mono fun r w' ⟨hr, hb⟩ => ⟨hr.trans (ret_bool ?_), hb⟩
  unfold tw te
  by_cases ha : a < 0 <;> simp [ha]
theorem sub_at (a b : Int) (w : World) (a0 : -1 ≤ a) (a1 : a < 3000000) (b0 : -1 ≤ b) (b1 : b < 3000000) (hab : a < 0 ↔ b < 0) :
    Calls Try.prog 32 #[.agg #[.int .u64 (tw a), .int .i64 (te a)], .agg #[.int .u64 (tw b), .int .i64 (te b)]] w fun r w' => r = .returned (.int .i64 (a - b)) ∧ Below w.heap.size w w' := by
  have he : te b = te a := by unfold te; by_cases hb : b < 0 <;> simp [hb, hab]
  rw [he]
  refine (sub_any _ _ _ w (tw_0 a) (tw_1 a a1) (tw_0 b) (tw_1 b b1) (te_0 a) (te_1 a)).mono fun r w' ⟨hr, hb⟩ => ⟨hr.trans (ret_int ?_), hb⟩
  unfold tw
  by_cases hb : b < 0 <;> simp [hb, hab] <;> omega

set_option maxHeartbeats 400000 in
theorem unixTime_at (w : World) :
    Calls Try.prog 35 #[.int .i64 1000000, .int .i32 0] w fun r w' => r = .returned (.agg #[.int .u64 0, .int .i64 62136596800]) ∧ Below w.heap.size w w' := by
  go_enter Try.func35, Try.ntmps35
  go_wp2
  exact bodyPost_ret (v := .agg #[.int .u64 0, .int .i64 62136596800]) (by simp [results, Try.results35, go_sem]) rfl ⟨rfl, (Below.refl _ _).alloc (Nat.le_refl _) _⟩
set_option maxHeartbeats 400000 in
theorem unix_at (w : World) :
    Calls Try.prog 27 #[.int .i64 1000000, .int .i64 0] w fun r w' => r = .returned (.agg #[.int .u64 0, .int .i64 62136596800]) ∧ Below w.heap.size w w' := by
  go_enter Try.func27, Try.ntmps27
  go_wp2_with (first | (go_at_call 35; refine (unixTime_at _).mono ?_; rintro r w' ⟨rfl, hb⟩; obtain ⟨hc', hf'⟩ := bcell hb))
  exact bodyPost_ret (v := .agg #[.int .u64 0, .int .i64 62136596800]) (by simp [results, Try.results27, go_sem, hc']) rfl ⟨rfl, ((((Below.refl _ _).alloc (Nat.le_refl _) _).trans (hb.mono (by simp))).setCell (Nat.le_refl _) _).setCell (Nat.le_refl _) _⟩
set_option maxHeartbeats 400000 in
theorem zzTime_raw (c : Int) (w : World) (c0 : 0 ≤ c) (c1 : c < 3000000) :
    Calls Try.prog 18 #[.int .i64 c] w fun r w' => r = .returned (.agg #[.int .u64 c, .int .i64 62136596800]) ∧ Below w.heap.size w w' := by
  go_enter Try.func18, Try.ntmps18
  go_wp2_with (first | (go_at_call 27; refine (unix_at _).mono ?_; rintro r w1 ⟨rfl, hb1⟩; obtain ⟨hc1, hf1⟩ := bcell hb1; have hz1 : w.heap.size < w1.heap.size := by have := hb1.size; simp at this; omega) | (go_at_call 28; refine (add_any _ _ _ _ (by omega) (by omega) (by omega) (by omega) (by omega) (by omega) (by omega) (by omega)).mono ?_; rintro r w2 ⟨rfl, hb2⟩; obtain ⟨hc2, hf2⟩ := bcell hb2))
  exact bodyPost_ret (v := .agg #[.int .u64 c, .int .i64 62136596800]) (by simp [results, Try.results18, go_sem, hc2, hc1, hz1]) rfl ⟨rfl, (((((Below.refl _ _).alloc (Nat.le_refl _) _).trans (hb1.mono (by simp))).trans (hb2.mono (by omega))).setCell (Nat.le_refl _) _).setCell (Nat.le_refl _) _⟩

theorem zzTime_at (c : Int) (w : World) (c0 : 0 ≤ c) (c1 : c < 3000000) :
    Calls Try.prog 18 #[.int .i64 c] w fun r w' => r = .returned (.agg #[.int .u64 (tw c), .int .i64 (te c)]) ∧ Below w.heap.size w w' := by
  have h1 : tw c = c := by unfold tw; rw [if_neg (by omega)]
  have h2 : te c = 62136596800 := by unfold te; rw [if_neg (by omega)]
  rw [h1, h2]
  exact zzTime_raw c w c0 c1
end Go.Proofs.Ytehplpakbfnhbaa
