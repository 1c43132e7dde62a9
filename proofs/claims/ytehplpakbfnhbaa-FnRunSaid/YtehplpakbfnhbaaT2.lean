/-
  What the methods of timecore compute on times that bear no reading of a monotonic clock.
-/
import Derived.Test.YtehplpakbfnhbaaT1
import Derived.Deep.RegionHeld3
namespace Go.Proofs.Ytehplpakbfnhbaa
open Go.RowKit

theorem tdiv_small (d : Int) (d2 : -1000000000 < d) (d3 : d < 1000000000) : d.tdiv 1000000000 = 0 := by
  rcases Int.le_total 0 d with h | h
  · rw [Int.tdiv_eq_ediv_of_nonneg h]; omega
  · have : d = -(-d) := by omega
    rw [this, Int.neg_tdiv, Int.tdiv_eq_ediv_of_nonneg (by omega)]; omega
theorem tmod_small (d : Int) (d2 : -1000000000 < d) (d3 : d < 1000000000) : d.tmod 1000000000 = d := by
  have := Int.tmod_add_mul_tdiv d 1000000000
  rw [tdiv_small d d2 d3] at this
  omega

set_option maxHeartbeats 400000 in
theorem addSec_zero (b : Nat) (t e : Int) (w : World) (h0 : 0 ≤ t) (h1 : t < 1073741824) (e0 : 0 ≤ e) (e1 : e < 100000000000) (hc : w.cell? ⟨b, 0, none⟩ = some (.int .u64 t)) (he : w.cell? ⟨b, 1, none⟩ = some (.int .i64 e)) (hf : w.frozen? ⟨b, 1, none⟩ = false) :
    Calls Try.prog 37 #[.pointer (some ⟨b, 0, none⟩), .int .i64 0] w fun r w' => r = .returned (.tuple #[]) ∧ w.setCell ⟨b, 1, none⟩ (.int .i64 e) = w' := by
  have hm := and_mono t h0 h1
  go_enter Try.func37, Try.ntmps37
  go_wp2
  go_end0
  exact ⟨rfl, rfl⟩

set_option maxHeartbeats 400000 in
theorem add_any (t e d : Int) (w : World) (h0 : 0 ≤ t) (h1 : t < 1000000000) (e0 : 0 ≤ e) (e1 : e < 100000000000) (d0 : 0 ≤ t + d) (d1 : t + d < 1000000000) (d2 : -1000000000 < d) (d3 : d < 1000000000) :
    Calls Try.prog 28 #[.agg #[.int .u64 t, .int .i64 e], .int .i64 d] w fun r w' => r = .returned (.agg #[.int .u64 (t + d), .int .i64 e]) ∧ Below w.heap.size w w' := by
  have q1 : d.tdiv 1000000000 = 0 := tdiv_small d d2 d3
  have q2 : d.tmod 1000000000 = d := tmod_small d d2 d3
  have hm0 := and_mask t h0 (by omega)
  have hm1 := andnot_mask t h0 (by omega)
  have hm2 := or_zero (t + d) d0 (by omega)
  have hm3 := and_mono (t + d) d0 (by omega)
  go_enter Try.func28, Try.ntmps28
  go_wp2
  go_end0
  go_wp2
  exact bodyPost_ret (v := .agg #[.int .u64 (t + d), .int .i64 e]) (by simp [results, Try.results28, go_sem]) rfl ⟨rfl, ((Below.refl _ _).alloc (Nat.le_refl _) _).alloc (by simp) _⟩

set_option maxHeartbeats 400000 in
theorem isZero_any (x e : Int) (w : World) :
    Calls Try.prog 30 #[.agg #[.int .u64 x, .int .i64 e]] w fun r w' => r = .returned (.bool (decide (x = 0 ∧ e = 0))) ∧ Below w.heap.size w w' := by
  by_cases hx : x = 0
  · by_cases he : e = 0
    · have hr : decide (x = 0 ∧ e = 0) = true := by simp [hx, he]
      rw [hr]
      subst hx he
      clear hr
      go_enter Try.func30, Try.ntmps30
      go_wp2
      go_ret
      exact ⟨rfl, (Below.refl _ _).alloc (Nat.le_refl _) _⟩
    · have h2 : (e == 0) = false := by simpa using he
      have hr : decide (x = 0 ∧ e = 0) = false := by simp [he]
      rw [hr]
      subst hx
      clear hr
      go_enter Try.func30, Try.ntmps30
      go_wp2
      go_ret
      exact ⟨rfl, (Below.refl _ _).alloc (Nat.le_refl _) _⟩
  · have h1 : (x == 0) = false := by simpa using hx
    have hr : decide (x = 0 ∧ e = 0) = false := by simp [hx]
    rw [hr]
    clear hr
    go_enter Try.func30, Try.ntmps30
    go_wp2
    go_ret
    exact ⟨rfl, (Below.refl _ _).alloc (Nat.le_refl _) _⟩

set_option maxHeartbeats 1000000 in
theorem before_any (x e y f : Int) (w : World) (x0 : 0 ≤ x) (x1 : x < 1000000000) (y0 : 0 ≤ y) (y1 : y < 1000000000) :
    Calls Try.prog 29 #[.agg #[.int .u64 x, .int .i64 e], .agg #[.int .u64 y, .int .i64 f]] w fun r w' => r = .returned (.bool (decide (e < f ∨ e = f ∧ x < y))) ∧ Below w.heap.size w w' := by
  have hm0 := and_both x y x0 (by omega) y0 (by omega)
  have hm1 := and_mono x x0 (by omega)
  have hm2 := and_mono y y0 (by omega)
  have hm3 := and_mask x x0 (by omega)
  have hm4 := and_mask y y0 (by omega)
  by_cases h : e < f
  · have hr : decide (e < f ∨ e = f ∧ x < y) = true := by simp [h]
    rw [hr]; clear hr
    go_enter Try.func29, Try.ntmps29
    go_wp2
    go_ret
    exact ⟨rfl, ((Below.refl _ _).alloc (Nat.le_refl _) _).alloc (by simp) _⟩
  · by_cases h2 : e = f
    · subst h2
      have hr : decide (e < e ∨ e = e ∧ x < y) = decide (x < y) := by simp
      rw [hr]; clear hr
      go_enter Try.func29, Try.ntmps29
      go_wp2
      go_ret
      exact ⟨rfl, ((Below.refl _ _).alloc (Nat.le_refl _) _).alloc (by simp) _⟩
    · have hr : decide (e < f ∨ e = f ∧ x < y) = false := by simp [h, h2]
      rw [hr]; clear hr
      have h3 : (e == f) = false := by simpa using h2
      go_enter Try.func29, Try.ntmps29
      go_wp2
      go_ret
      exact ⟨rfl, ((Below.refl _ _).alloc (Nat.le_refl _) _).alloc (by simp) _⟩

set_option maxHeartbeats 1000000 in
theorem after_any (x e y f : Int) (w : World) (x0 : 0 ≤ x) (x1 : x < 1000000000) (y0 : 0 ≤ y) (y1 : y < 1000000000) :
    Calls Try.prog 31 #[.agg #[.int .u64 x, .int .i64 e], .agg #[.int .u64 y, .int .i64 f]] w fun r w' => r = .returned (.bool (decide (f < e ∨ e = f ∧ y < x))) ∧ Below w.heap.size w w' := by
  have hm0 := and_both x y x0 (by omega) y0 (by omega)
  have hm1 := and_mono x x0 (by omega)
  have hm2 := and_mono y y0 (by omega)
  have hm3 := and_mask x x0 (by omega)
  have hm4 := and_mask y y0 (by omega)
  by_cases h : f < e
  · have hr : decide (f < e ∨ e = f ∧ y < x) = true := by simp [h]
    rw [hr]; clear hr
    go_enter Try.func31, Try.ntmps31
    go_wp2
    go_ret
    exact ⟨rfl, ((Below.refl _ _).alloc (Nat.le_refl _) _).alloc (by simp) _⟩
  · by_cases h2 : e = f
    · subst h2
      have hr : decide (e < e ∨ e = e ∧ y < x) = decide (y < x) := by simp
      rw [hr]; clear hr
      go_enter Try.func31, Try.ntmps31
      go_wp2
      go_ret
      exact ⟨rfl, ((Below.refl _ _).alloc (Nat.le_refl _) _).alloc (by simp) _⟩
    · have hr : decide (f < e ∨ e = f ∧ y < x) = false := by simp [h, h2]
      rw [hr]; clear hr
      have h3 : (e == f) = false := by simpa using h2
      go_enter Try.func31, Try.ntmps31
      go_wp2
      go_ret
      exact ⟨rfl, ((Below.refl _ _).alloc (Nat.le_refl _) _).alloc (by simp) _⟩

set_option maxHeartbeats 1000000 in
theorem equal_same (x e : Int) (w : World) (x0 : 0 ≤ x) (x1 : x < 1000000000) :
    Calls Try.prog 41 #[.agg #[.int .u64 x, .int .i64 e], .agg #[.int .u64 x, .int .i64 e]] w fun r w' => r = .returned (.bool true) ∧ Below w.heap.size w w' := by
  have hm0 := and_both x x x0 (by omega) x0 (by omega)
  have hm1 := and_mono x x0 (by omega)
  have hm3 := and_mask x x0 (by omega)
  go_enter Try.func41, Try.ntmps41
  go_wp2
  go_ret
  exact ⟨rfl, ((Below.refl _ _).alloc (Nat.le_refl _) _).alloc (by simp) _⟩

end Go.Proofs.Ytehplpakbfnhbaa
