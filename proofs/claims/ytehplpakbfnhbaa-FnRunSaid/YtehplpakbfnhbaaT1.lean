/-
  What the small methods of timecore compute.
-/
import Derived.Test.YtehplpakbfnhbaaWd
import Derived.Laws.BitsAllLaws
import Derived.IntWalk
import Derived.Deep.QuietTactic
import Derived.BigQuiet
namespace Go.Proofs.Ytehplpakbfnhbaa
open Go.RowKit

theorem and_mask (t : Int) (h0 : 0 ≤ t) (h1 : t < 1073741824) : bits .and .u64 t 1073741823 = t := by
  rw [u64_and t _ h0 (by omega) (by decide) (by decide)]
  have : t.toNat &&& (1073741823 : Int).toNat = t.toNat := by
    show t.toNat &&& (2 ^ 30 - 1) = t.toNat
    rw [Nat.and_two_pow_sub_one_eq_mod]
    exact Nat.mod_eq_of_lt (by omega)
  rw [this]; omega
theorem and_mono (t : Int) (h0 : 0 ≤ t) (h1 : t < 1073741824) : bits .and .u64 t 9223372036854775808 = 0 := by
  rw [u64_and t _ h0 (by omega) (by decide) (by decide)]
  have : t.toNat &&& (9223372036854775808 : Int).toNat = 0 := by
    show t.toNat &&& 2 ^ 63 = 0
    apply Nat.eq_of_testBit_eq
    intro i
    rw [Nat.testBit_and, Nat.zero_testBit, Nat.testBit_two_pow]
    by_cases hi : 63 = i
    · subst hi
      have : t.toNat.testBit 63 = false := Nat.testBit_lt_two_pow (by omega)
      rw [this, Bool.false_and]
    · simp [hi]
  rw [this]; rfl
theorem and_both (s t : Int) (h0 : 0 ≤ s) (h1 : s < 1073741824) (h2 : 0 ≤ t) (h3 : t < 1073741824) : bits .and .u64 (bits .and .u64 s t) 9223372036854775808 = 0 := by
  rw [u64_and s t h0 (by omega) h2 (by omega)]
  have : s.toNat &&& t.toNat ≤ s.toNat := Nat.and_le_left
  exact and_mono _ (by omega) (by omega)
theorem andnot_mask (t : Int) (h0 : 0 ≤ t) (h1 : t < 1073741824) : bits .andNot .u64 t 1073741823 = 0 := by
  rw [u64_andNot t _ h0 (by omega) (by decide) (by decide)]
  have : t.toNat &&& (18446744073709551615 - (1073741823 : Int).toNat) = 0 := by
    show t.toNat &&& (18446744073709551615 - 1073741823) = 0
    apply Nat.eq_of_testBit_eq
    intro i
    rw [Nat.testBit_and, Nat.zero_testBit]
    by_cases hi : i < 30
    · have : (18446744073709551615 - 1073741823 : Nat).testBit i = false := by
        have : (18446744073709551615 - 1073741823 : Nat) = (2 ^ 34 - 1) * 2 ^ 30 := by decide
        rw [this, Nat.testBit_mul_two_pow]
        simp; omega
      rw [this, Bool.and_false]
    · have : t.toNat.testBit i = false := Nat.testBit_lt_two_pow (by
        have : 2 ^ 30 ≤ 2 ^ i := Nat.pow_le_pow_right (by decide) (by omega)
        omega)
      rw [this, Bool.false_and]
  rw [this]; rfl
theorem or_zero (t : Int) (h0 : 0 ≤ t) (h1 : t < 1073741824) : bits .or .u64 0 t = t := by
  rw [u64_or 0 t (by decide) (by decide) h0 (by omega)]
  simp; omega

set_option maxHeartbeats 400000 in
theorem nsec_any (b o : Nat) (t : Int) (w : World) (h0 : 0 ≤ t) (h1 : t < 1073741824) (hc : w.cell? ⟨b, o, none⟩ = some (.int .u64 t)) :
    Calls Try.prog 36 #[.pointer (some ⟨b, o, none⟩)] w fun e w' => e = .returned (.int .i32 t) ∧ w = w' := by
  have hm := and_mask t h0 h1
  go_enter Try.func36, Try.ntmps36
  go_wp2
  go_ret
  exact ⟨ret_int rfl, rfl⟩

set_option maxHeartbeats 400000 in
theorem sec_any (b o : Nat) (t e : Int) (w : World) (h0 : 0 ≤ t) (h1 : t < 1073741824) (hc : w.cell? ⟨b, o, none⟩ = some (.int .u64 t)) (he : w.cell? ⟨b, o + 1, none⟩ = some (.int .i64 e)) :
    Calls Try.prog 39 #[.pointer (some ⟨b, o, none⟩)] w fun r w' => r = .returned (.int .i64 e) ∧ w = w' := by
  have hm := and_mono t h0 h1
  go_enter Try.func39, Try.ntmps39
  go_wp2
  go_ret
  exact ⟨ret_int rfl, rfl⟩
end Go.Proofs.Ytehplpakbfnhbaa
