/-
  What updateSample does to the estimates.
-/
import Derived.Test.YtehplpakbfnhbaaC3
namespace Go.Proofs.Ytehplpakbfnhbaa
open Go.RowKit
set_option linter.unusedVariables false

def absI (x : Int) : Int := if x < 0 then -x else x
set_option maxHeartbeats 400000 in
theorem abs_any (x : Int) (w : World) (h0 : -9000000000000000000 < x) (h1 : x < 9000000000000000000) :
    Calls Try.prog 34 #[.int .i64 x] w fun r w' => r = .returned (.int .i64 (absI x)) ∧ w = w' := by
  by_cases h : x < 0
  · have e : absI x = -x := by simp [absI, h]
    rw [e]; clear e
    go_enter Try.func34, Try.ntmps34
    go_wp2
    go_ret
    exact ⟨rfl, rfl⟩
  · have e : absI x = x := by simp [absI, h]
    rw [e]; clear e
    go_enter Try.func34, Try.ntmps34
    go_wp2
    go_ret
    exact ⟨rfl, rfl⟩

theorem absI_b (x b : Int) (h0 : -b ≤ x) (h1 : x ≤ b) : 0 ≤ absI x ∧ absI x ≤ b := by unfold absI; split <;> omega

def R.adj (r : R) (v : Bool) (lat del lim : Int) : Int :=
  if lat - (if v then min del lim else del) < min r.mn lat then lat else lat - (if v then min del lim else del)
def R.sample (r : R) (now : Int) (v : Bool) (lat del lim : Int) : R :=
  if r.mn < 0 then { mn := lat, latest := lat, sm := lat, var := lat / 2, first := now }
  else { mn := min r.mn lat, latest := lat, sm := (7 * r.sm + r.adj v lat del lim) / 8, var := (3 * r.var + absI (r.sm - r.adj v lat del lim)) / 4, first := r.first }

set_option maxHeartbeats 1000000 in
theorem sample_f_as (g : Nat) (r : R) (now sp lat del lim : Int) (w : World) (hg : Blk w g 54 (rcells r)) (l0 : 0 ≤ lat) (l1 : lat ≤ 1099511627776) (d0 : 0 ≤ del) (d1 : del ≤ 1099511627776) (m0 : 0 ≤ lim) (m1 : lim ≤ 1099511627776)
    (r0 : 0 ≤ r.mn) (r1 : r.mn ≤ 1099511627776) (q0 : 0 ≤ r.sm) (q1 : r.sm ≤ 1099511627776) (v0 : 0 ≤ r.var) (v1 : r.var ≤ 1099511627776)
    (k1 : r.mn ≤ lat) (k2 : lat - del < r.mn) :
    Calls Try.prog 25 #[.pointer (some ⟨g, 0, none⟩), .agg #[.int .u64 (tw now), .int .i64 (te now)], .bool false, .int .u8 sp, .int .i64 lat, .int .i64 del, .int .i64 lim] w fun e w' => e = .returned (.tuple #[]) ∧ Blk w' g 54 (rcells { mn := r.mn, latest := lat, sm := (7 * r.sm + lat) / 8, var := (3 * r.var + absI (r.sm - lat)) / 4, first := r.first }) ∧ w.grownBy w' (some g) := by
  have c0 : w.cell? ⟨g, 0, none⟩ = some (.int .i64 r.mn) := hg.cellAt 0 rfl
  have c1 : w.cell? ⟨g, 1, none⟩ = some (.int .i64 r.latest) := hg.cellAt 1 rfl
  have c2 : w.cell? ⟨g, 2, none⟩ = some (.int .i64 r.sm) := hg.cellAt 2 rfl
  have c3 : w.cell? ⟨g, 3, none⟩ = some (.int .i64 r.var) := hg.cellAt 3 rfl
  have f0 := hg.frozen 0
  have f1 := hg.frozen 1
  have f2 := hg.frozen 2
  have f3 := hg.frozen 3
  have lg := hg.lt
  have G := Lib.hid hg
  clear hg
  obtain ⟨a0, a1⟩ := absI_b (r.sm - lat) 2199023255552 (by omega) (by omega)
  go_enter Try.func25, Try.ntmps25
  go_wp2_with fail
  refine (abs_any _ _ (by omega) (by omega)).mono ?_
  rintro e w' ⟨rfl, rfl⟩
  go_wp2
  go_end0
  exact ⟨rfl, Blk.to (by repeat (with_reducible first | exact G.out | apply Blk.drew | apply Blk.alloc | apply Blk.set_)) (by simp [rcells]), by repeat (with_reducible first | exact World.grownBy.refl w _ | apply only_drew | apply only_alloc | refine only_setCell ?_ (.inl rfl) _)⟩

set_option maxHeartbeats 1000000 in
theorem sample_f_at (g : Nat) (r : R) (now sp lat del lim : Int) (w : World) (hg : Blk w g 54 (rcells r)) (l0 : 0 ≤ lat) (l1 : lat ≤ 1099511627776) (d0 : 0 ≤ del) (d1 : del ≤ 1099511627776) (m0 : 0 ≤ lim) (m1 : lim ≤ 1099511627776)
    (r0 : 0 ≤ r.mn) (r1 : r.mn ≤ 1099511627776) (q0 : 0 ≤ r.sm) (q1 : r.sm ≤ 1099511627776) (v0 : 0 ≤ r.var) (v1 : r.var ≤ 1099511627776)
    (k1 : r.mn ≤ lat) (k2 : r.mn ≤ lat - del) :
    Calls Try.prog 25 #[.pointer (some ⟨g, 0, none⟩), .agg #[.int .u64 (tw now), .int .i64 (te now)], .bool false, .int .u8 sp, .int .i64 lat, .int .i64 del, .int .i64 lim] w fun e w' => e = .returned (.tuple #[]) ∧ Blk w' g 54 (rcells { mn := r.mn, latest := lat, sm := (7 * r.sm + (lat - del)) / 8, var := (3 * r.var + absI (r.sm - (lat - del))) / 4, first := r.first }) ∧ w.grownBy w' (some g) := by
  have c0 : w.cell? ⟨g, 0, none⟩ = some (.int .i64 r.mn) := hg.cellAt 0 rfl
  have c1 : w.cell? ⟨g, 1, none⟩ = some (.int .i64 r.latest) := hg.cellAt 1 rfl
  have c2 : w.cell? ⟨g, 2, none⟩ = some (.int .i64 r.sm) := hg.cellAt 2 rfl
  have c3 : w.cell? ⟨g, 3, none⟩ = some (.int .i64 r.var) := hg.cellAt 3 rfl
  have f0 := hg.frozen 0
  have f1 := hg.frozen 1
  have f2 := hg.frozen 2
  have f3 := hg.frozen 3
  have lg := hg.lt
  have G := Lib.hid hg
  clear hg
  obtain ⟨a0, a1⟩ := absI_b (r.sm - (lat - del)) 2199023255552 (by omega) (by omega)
  go_enter Try.func25, Try.ntmps25
  go_wp2_with fail
  refine (abs_any _ _ (by omega) (by omega)).mono ?_
  rintro e w' ⟨rfl, rfl⟩
  go_wp2
  go_end0
  exact ⟨rfl, Blk.to (by repeat (with_reducible first | exact G.out | apply Blk.drew | apply Blk.alloc | apply Blk.set_)) (by simp [rcells]), by repeat (with_reducible first | exact World.grownBy.refl w _ | apply only_drew | apply only_alloc | refine only_setCell ?_ (.inl rfl) _)⟩

set_option maxHeartbeats 1000000 in
theorem sample_f_bs (g : Nat) (r : R) (now sp lat del lim : Int) (w : World) (hg : Blk w g 54 (rcells r)) (l0 : 0 ≤ lat) (l1 : lat ≤ 1099511627776) (d0 : 0 ≤ del) (d1 : del ≤ 1099511627776) (m0 : 0 ≤ lim) (m1 : lim ≤ 1099511627776)
    (r0 : 0 ≤ r.mn) (r1 : r.mn ≤ 1099511627776) (q0 : 0 ≤ r.sm) (q1 : r.sm ≤ 1099511627776) (v0 : 0 ≤ r.var) (v1 : r.var ≤ 1099511627776)
    (k1 : lat < r.mn) (k2 : lat - del < lat) :
    Calls Try.prog 25 #[.pointer (some ⟨g, 0, none⟩), .agg #[.int .u64 (tw now), .int .i64 (te now)], .bool false, .int .u8 sp, .int .i64 lat, .int .i64 del, .int .i64 lim] w fun e w' => e = .returned (.tuple #[]) ∧ Blk w' g 54 (rcells { mn := lat, latest := lat, sm := (7 * r.sm + lat) / 8, var := (3 * r.var + absI (r.sm - lat)) / 4, first := r.first }) ∧ w.grownBy w' (some g) := by
  have c0 : w.cell? ⟨g, 0, none⟩ = some (.int .i64 r.mn) := hg.cellAt 0 rfl
  have c1 : w.cell? ⟨g, 1, none⟩ = some (.int .i64 r.latest) := hg.cellAt 1 rfl
  have c2 : w.cell? ⟨g, 2, none⟩ = some (.int .i64 r.sm) := hg.cellAt 2 rfl
  have c3 : w.cell? ⟨g, 3, none⟩ = some (.int .i64 r.var) := hg.cellAt 3 rfl
  have f0 := hg.frozen 0
  have f1 := hg.frozen 1
  have f2 := hg.frozen 2
  have f3 := hg.frozen 3
  have lg := hg.lt
  have G := Lib.hid hg
  clear hg
  obtain ⟨a0, a1⟩ := absI_b (r.sm - lat) 2199023255552 (by omega) (by omega)
  go_enter Try.func25, Try.ntmps25
  go_wp2_with fail
  refine (abs_any _ _ (by omega) (by omega)).mono ?_
  rintro e w' ⟨rfl, rfl⟩
  go_wp2
  go_end0
  exact ⟨rfl, Blk.to (by repeat (with_reducible first | exact G.out | apply Blk.drew | apply Blk.alloc | apply Blk.set_)) (by simp [rcells]), by repeat (with_reducible first | exact World.grownBy.refl w _ | apply only_drew | apply only_alloc | refine only_setCell ?_ (.inl rfl) _)⟩

set_option maxHeartbeats 1000000 in
theorem sample_f_bt (g : Nat) (r : R) (now sp lat del lim : Int) (w : World) (hg : Blk w g 54 (rcells r)) (l0 : 0 ≤ lat) (l1 : lat ≤ 1099511627776) (d0 : 0 ≤ del) (d1 : del ≤ 1099511627776) (m0 : 0 ≤ lim) (m1 : lim ≤ 1099511627776)
    (r0 : 0 ≤ r.mn) (r1 : r.mn ≤ 1099511627776) (q0 : 0 ≤ r.sm) (q1 : r.sm ≤ 1099511627776) (v0 : 0 ≤ r.var) (v1 : r.var ≤ 1099511627776)
    (k1 : lat < r.mn) (k2 : lat ≤ lat - del) :
    Calls Try.prog 25 #[.pointer (some ⟨g, 0, none⟩), .agg #[.int .u64 (tw now), .int .i64 (te now)], .bool false, .int .u8 sp, .int .i64 lat, .int .i64 del, .int .i64 lim] w fun e w' => e = .returned (.tuple #[]) ∧ Blk w' g 54 (rcells { mn := lat, latest := lat, sm := (7 * r.sm + (lat - del)) / 8, var := (3 * r.var + absI (r.sm - (lat - del))) / 4, first := r.first }) ∧ w.grownBy w' (some g) := by
  have c0 : w.cell? ⟨g, 0, none⟩ = some (.int .i64 r.mn) := hg.cellAt 0 rfl
  have c1 : w.cell? ⟨g, 1, none⟩ = some (.int .i64 r.latest) := hg.cellAt 1 rfl
  have c2 : w.cell? ⟨g, 2, none⟩ = some (.int .i64 r.sm) := hg.cellAt 2 rfl
  have c3 : w.cell? ⟨g, 3, none⟩ = some (.int .i64 r.var) := hg.cellAt 3 rfl
  have f0 := hg.frozen 0
  have f1 := hg.frozen 1
  have f2 := hg.frozen 2
  have f3 := hg.frozen 3
  have lg := hg.lt
  have G := Lib.hid hg
  clear hg
  obtain ⟨a0, a1⟩ := absI_b (r.sm - (lat - del)) 2199023255552 (by omega) (by omega)
  go_enter Try.func25, Try.ntmps25
  go_wp2_with fail
  refine (abs_any _ _ (by omega) (by omega)).mono ?_
  rintro e w' ⟨rfl, rfl⟩
  go_wp2
  go_end0
  exact ⟨rfl, Blk.to (by repeat (with_reducible first | exact G.out | apply Blk.drew | apply Blk.alloc | apply Blk.set_)) (by simp [rcells]), by repeat (with_reducible first | exact World.grownBy.refl w _ | apply only_drew | apply only_alloc | refine only_setCell ?_ (.inl rfl) _)⟩

set_option maxHeartbeats 1000000 in
theorem sample_tl_as (g : Nat) (r : R) (now sp lat del lim : Int) (w : World) (hg : Blk w g 54 (rcells r)) (l0 : 0 ≤ lat) (l1 : lat ≤ 1099511627776) (d0 : 0 ≤ del) (d1 : del ≤ 1099511627776) (m0 : 0 ≤ lim) (m1 : lim ≤ 1099511627776)
    (r0 : 0 ≤ r.mn) (r1 : r.mn ≤ 1099511627776) (q0 : 0 ≤ r.sm) (q1 : r.sm ≤ 1099511627776) (v0 : 0 ≤ r.var) (v1 : r.var ≤ 1099511627776)
    (k0 : del ≤ lim) (k1 : r.mn ≤ lat) (k2 : lat - del < r.mn) :
    Calls Try.prog 25 #[.pointer (some ⟨g, 0, none⟩), .agg #[.int .u64 (tw now), .int .i64 (te now)], .bool true, .int .u8 sp, .int .i64 lat, .int .i64 del, .int .i64 lim] w fun e w' => e = .returned (.tuple #[]) ∧ Blk w' g 54 (rcells { mn := r.mn, latest := lat, sm := (7 * r.sm + lat) / 8, var := (3 * r.var + absI (r.sm - lat)) / 4, first := r.first }) ∧ w.grownBy w' (some g) := by
  have c0 : w.cell? ⟨g, 0, none⟩ = some (.int .i64 r.mn) := hg.cellAt 0 rfl
  have c1 : w.cell? ⟨g, 1, none⟩ = some (.int .i64 r.latest) := hg.cellAt 1 rfl
  have c2 : w.cell? ⟨g, 2, none⟩ = some (.int .i64 r.sm) := hg.cellAt 2 rfl
  have c3 : w.cell? ⟨g, 3, none⟩ = some (.int .i64 r.var) := hg.cellAt 3 rfl
  have f0 := hg.frozen 0
  have f1 := hg.frozen 1
  have f2 := hg.frozen 2
  have f3 := hg.frozen 3
  have lg := hg.lt
  have G := Lib.hid hg
  clear hg
  obtain ⟨a0, a1⟩ := absI_b (r.sm - lat) 2199023255552 (by omega) (by omega)
  go_enter Try.func25, Try.ntmps25
  go_wp2_with fail
  refine (abs_any _ _ (by omega) (by omega)).mono ?_
  rintro e w' ⟨rfl, rfl⟩
  go_wp2
  go_end0
  exact ⟨rfl, Blk.to (by repeat (with_reducible first | exact G.out | apply Blk.drew | apply Blk.alloc | apply Blk.set_)) (by simp [rcells]), by repeat (with_reducible first | exact World.grownBy.refl w _ | apply only_drew | apply only_alloc | refine only_setCell ?_ (.inl rfl) _)⟩

set_option maxHeartbeats 1000000 in
theorem sample_tl_at (g : Nat) (r : R) (now sp lat del lim : Int) (w : World) (hg : Blk w g 54 (rcells r)) (l0 : 0 ≤ lat) (l1 : lat ≤ 1099511627776) (d0 : 0 ≤ del) (d1 : del ≤ 1099511627776) (m0 : 0 ≤ lim) (m1 : lim ≤ 1099511627776)
    (r0 : 0 ≤ r.mn) (r1 : r.mn ≤ 1099511627776) (q0 : 0 ≤ r.sm) (q1 : r.sm ≤ 1099511627776) (v0 : 0 ≤ r.var) (v1 : r.var ≤ 1099511627776)
    (k0 : del ≤ lim) (k1 : r.mn ≤ lat) (k2 : r.mn ≤ lat - del) :
    Calls Try.prog 25 #[.pointer (some ⟨g, 0, none⟩), .agg #[.int .u64 (tw now), .int .i64 (te now)], .bool true, .int .u8 sp, .int .i64 lat, .int .i64 del, .int .i64 lim] w fun e w' => e = .returned (.tuple #[]) ∧ Blk w' g 54 (rcells { mn := r.mn, latest := lat, sm := (7 * r.sm + (lat - del)) / 8, var := (3 * r.var + absI (r.sm - (lat - del))) / 4, first := r.first }) ∧ w.grownBy w' (some g) := by
  have c0 : w.cell? ⟨g, 0, none⟩ = some (.int .i64 r.mn) := hg.cellAt 0 rfl
  have c1 : w.cell? ⟨g, 1, none⟩ = some (.int .i64 r.latest) := hg.cellAt 1 rfl
  have c2 : w.cell? ⟨g, 2, none⟩ = some (.int .i64 r.sm) := hg.cellAt 2 rfl
  have c3 : w.cell? ⟨g, 3, none⟩ = some (.int .i64 r.var) := hg.cellAt 3 rfl
  have f0 := hg.frozen 0
  have f1 := hg.frozen 1
  have f2 := hg.frozen 2
  have f3 := hg.frozen 3
  have lg := hg.lt
  have G := Lib.hid hg
  clear hg
  obtain ⟨a0, a1⟩ := absI_b (r.sm - (lat - del)) 2199023255552 (by omega) (by omega)
  go_enter Try.func25, Try.ntmps25
  go_wp2_with fail
  refine (abs_any _ _ (by omega) (by omega)).mono ?_
  rintro e w' ⟨rfl, rfl⟩
  go_wp2
  go_end0
  exact ⟨rfl, Blk.to (by repeat (with_reducible first | exact G.out | apply Blk.drew | apply Blk.alloc | apply Blk.set_)) (by simp [rcells]), by repeat (with_reducible first | exact World.grownBy.refl w _ | apply only_drew | apply only_alloc | refine only_setCell ?_ (.inl rfl) _)⟩

set_option maxHeartbeats 1000000 in
theorem sample_tl_bs (g : Nat) (r : R) (now sp lat del lim : Int) (w : World) (hg : Blk w g 54 (rcells r)) (l0 : 0 ≤ lat) (l1 : lat ≤ 1099511627776) (d0 : 0 ≤ del) (d1 : del ≤ 1099511627776) (m0 : 0 ≤ lim) (m1 : lim ≤ 1099511627776)
    (r0 : 0 ≤ r.mn) (r1 : r.mn ≤ 1099511627776) (q0 : 0 ≤ r.sm) (q1 : r.sm ≤ 1099511627776) (v0 : 0 ≤ r.var) (v1 : r.var ≤ 1099511627776)
    (k0 : del ≤ lim) (k1 : lat < r.mn) (k2 : lat - del < lat) :
    Calls Try.prog 25 #[.pointer (some ⟨g, 0, none⟩), .agg #[.int .u64 (tw now), .int .i64 (te now)], .bool true, .int .u8 sp, .int .i64 lat, .int .i64 del, .int .i64 lim] w fun e w' => e = .returned (.tuple #[]) ∧ Blk w' g 54 (rcells { mn := lat, latest := lat, sm := (7 * r.sm + lat) / 8, var := (3 * r.var + absI (r.sm - lat)) / 4, first := r.first }) ∧ w.grownBy w' (some g) := by
  have c0 : w.cell? ⟨g, 0, none⟩ = some (.int .i64 r.mn) := hg.cellAt 0 rfl
  have c1 : w.cell? ⟨g, 1, none⟩ = some (.int .i64 r.latest) := hg.cellAt 1 rfl
  have c2 : w.cell? ⟨g, 2, none⟩ = some (.int .i64 r.sm) := hg.cellAt 2 rfl
  have c3 : w.cell? ⟨g, 3, none⟩ = some (.int .i64 r.var) := hg.cellAt 3 rfl
  have f0 := hg.frozen 0
  have f1 := hg.frozen 1
  have f2 := hg.frozen 2
  have f3 := hg.frozen 3
  have lg := hg.lt
  have G := Lib.hid hg
  clear hg
  obtain ⟨a0, a1⟩ := absI_b (r.sm - lat) 2199023255552 (by omega) (by omega)
  go_enter Try.func25, Try.ntmps25
  go_wp2_with fail
  refine (abs_any _ _ (by omega) (by omega)).mono ?_
  rintro e w' ⟨rfl, rfl⟩
  go_wp2
  go_end0
  exact ⟨rfl, Blk.to (by repeat (with_reducible first | exact G.out | apply Blk.drew | apply Blk.alloc | apply Blk.set_)) (by simp [rcells]), by repeat (with_reducible first | exact World.grownBy.refl w _ | apply only_drew | apply only_alloc | refine only_setCell ?_ (.inl rfl) _)⟩

set_option maxHeartbeats 1000000 in
theorem sample_tl_bt (g : Nat) (r : R) (now sp lat del lim : Int) (w : World) (hg : Blk w g 54 (rcells r)) (l0 : 0 ≤ lat) (l1 : lat ≤ 1099511627776) (d0 : 0 ≤ del) (d1 : del ≤ 1099511627776) (m0 : 0 ≤ lim) (m1 : lim ≤ 1099511627776)
    (r0 : 0 ≤ r.mn) (r1 : r.mn ≤ 1099511627776) (q0 : 0 ≤ r.sm) (q1 : r.sm ≤ 1099511627776) (v0 : 0 ≤ r.var) (v1 : r.var ≤ 1099511627776)
    (k0 : del ≤ lim) (k1 : lat < r.mn) (k2 : lat ≤ lat - del) :
    Calls Try.prog 25 #[.pointer (some ⟨g, 0, none⟩), .agg #[.int .u64 (tw now), .int .i64 (te now)], .bool true, .int .u8 sp, .int .i64 lat, .int .i64 del, .int .i64 lim] w fun e w' => e = .returned (.tuple #[]) ∧ Blk w' g 54 (rcells { mn := lat, latest := lat, sm := (7 * r.sm + (lat - del)) / 8, var := (3 * r.var + absI (r.sm - (lat - del))) / 4, first := r.first }) ∧ w.grownBy w' (some g) := by
  have c0 : w.cell? ⟨g, 0, none⟩ = some (.int .i64 r.mn) := hg.cellAt 0 rfl
  have c1 : w.cell? ⟨g, 1, none⟩ = some (.int .i64 r.latest) := hg.cellAt 1 rfl
  have c2 : w.cell? ⟨g, 2, none⟩ = some (.int .i64 r.sm) := hg.cellAt 2 rfl
  have c3 : w.cell? ⟨g, 3, none⟩ = some (.int .i64 r.var) := hg.cellAt 3 rfl
  have f0 := hg.frozen 0
  have f1 := hg.frozen 1
  have f2 := hg.frozen 2
  have f3 := hg.frozen 3
  have lg := hg.lt
  have G := Lib.hid hg
  clear hg
  obtain ⟨a0, a1⟩ := absI_b (r.sm - (lat - del)) 2199023255552 (by omega) (by omega)
  go_enter Try.func25, Try.ntmps25
  go_wp2_with fail
  refine (abs_any _ _ (by omega) (by omega)).mono ?_
  rintro e w' ⟨rfl, rfl⟩
  go_wp2
  go_end0
  exact ⟨rfl, Blk.to (by repeat (with_reducible first | exact G.out | apply Blk.drew | apply Blk.alloc | apply Blk.set_)) (by simp [rcells]), by repeat (with_reducible first | exact World.grownBy.refl w _ | apply only_drew | apply only_alloc | refine only_setCell ?_ (.inl rfl) _)⟩

set_option maxHeartbeats 1000000 in
theorem sample_tr_as (g : Nat) (r : R) (now sp lat del lim : Int) (w : World) (hg : Blk w g 54 (rcells r)) (l0 : 0 ≤ lat) (l1 : lat ≤ 1099511627776) (d0 : 0 ≤ del) (d1 : del ≤ 1099511627776) (m0 : 0 ≤ lim) (m1 : lim ≤ 1099511627776)
    (r0 : 0 ≤ r.mn) (r1 : r.mn ≤ 1099511627776) (q0 : 0 ≤ r.sm) (q1 : r.sm ≤ 1099511627776) (v0 : 0 ≤ r.var) (v1 : r.var ≤ 1099511627776)
    (k0 : lim < del) (k1 : r.mn ≤ lat) (k2 : lat - lim < r.mn) :
    Calls Try.prog 25 #[.pointer (some ⟨g, 0, none⟩), .agg #[.int .u64 (tw now), .int .i64 (te now)], .bool true, .int .u8 sp, .int .i64 lat, .int .i64 del, .int .i64 lim] w fun e w' => e = .returned (.tuple #[]) ∧ Blk w' g 54 (rcells { mn := r.mn, latest := lat, sm := (7 * r.sm + lat) / 8, var := (3 * r.var + absI (r.sm - lat)) / 4, first := r.first }) ∧ w.grownBy w' (some g) := by
  have c0 : w.cell? ⟨g, 0, none⟩ = some (.int .i64 r.mn) := hg.cellAt 0 rfl
  have c1 : w.cell? ⟨g, 1, none⟩ = some (.int .i64 r.latest) := hg.cellAt 1 rfl
  have c2 : w.cell? ⟨g, 2, none⟩ = some (.int .i64 r.sm) := hg.cellAt 2 rfl
  have c3 : w.cell? ⟨g, 3, none⟩ = some (.int .i64 r.var) := hg.cellAt 3 rfl
  have f0 := hg.frozen 0
  have f1 := hg.frozen 1
  have f2 := hg.frozen 2
  have f3 := hg.frozen 3
  have lg := hg.lt
  have G := Lib.hid hg
  clear hg
  obtain ⟨a0, a1⟩ := absI_b (r.sm - lat) 2199023255552 (by omega) (by omega)
  go_enter Try.func25, Try.ntmps25
  go_wp2_with fail
  refine (abs_any _ _ (by omega) (by omega)).mono ?_
  rintro e w' ⟨rfl, rfl⟩
  go_wp2
  go_end0
  exact ⟨rfl, Blk.to (by repeat (with_reducible first | exact G.out | apply Blk.drew | apply Blk.alloc | apply Blk.set_)) (by simp [rcells]), by repeat (with_reducible first | exact World.grownBy.refl w _ | apply only_drew | apply only_alloc | refine only_setCell ?_ (.inl rfl) _)⟩

set_option maxHeartbeats 1000000 in
theorem sample_tr_at (g : Nat) (r : R) (now sp lat del lim : Int) (w : World) (hg : Blk w g 54 (rcells r)) (l0 : 0 ≤ lat) (l1 : lat ≤ 1099511627776) (d0 : 0 ≤ del) (d1 : del ≤ 1099511627776) (m0 : 0 ≤ lim) (m1 : lim ≤ 1099511627776)
    (r0 : 0 ≤ r.mn) (r1 : r.mn ≤ 1099511627776) (q0 : 0 ≤ r.sm) (q1 : r.sm ≤ 1099511627776) (v0 : 0 ≤ r.var) (v1 : r.var ≤ 1099511627776)
    (k0 : lim < del) (k1 : r.mn ≤ lat) (k2 : r.mn ≤ lat - lim) :
    Calls Try.prog 25 #[.pointer (some ⟨g, 0, none⟩), .agg #[.int .u64 (tw now), .int .i64 (te now)], .bool true, .int .u8 sp, .int .i64 lat, .int .i64 del, .int .i64 lim] w fun e w' => e = .returned (.tuple #[]) ∧ Blk w' g 54 (rcells { mn := r.mn, latest := lat, sm := (7 * r.sm + (lat - lim)) / 8, var := (3 * r.var + absI (r.sm - (lat - lim))) / 4, first := r.first }) ∧ w.grownBy w' (some g) := by
  have c0 : w.cell? ⟨g, 0, none⟩ = some (.int .i64 r.mn) := hg.cellAt 0 rfl
  have c1 : w.cell? ⟨g, 1, none⟩ = some (.int .i64 r.latest) := hg.cellAt 1 rfl
  have c2 : w.cell? ⟨g, 2, none⟩ = some (.int .i64 r.sm) := hg.cellAt 2 rfl
  have c3 : w.cell? ⟨g, 3, none⟩ = some (.int .i64 r.var) := hg.cellAt 3 rfl
  have f0 := hg.frozen 0
  have f1 := hg.frozen 1
  have f2 := hg.frozen 2
  have f3 := hg.frozen 3
  have lg := hg.lt
  have G := Lib.hid hg
  clear hg
  obtain ⟨a0, a1⟩ := absI_b (r.sm - (lat - lim)) 2199023255552 (by omega) (by omega)
  go_enter Try.func25, Try.ntmps25
  go_wp2_with fail
  refine (abs_any _ _ (by omega) (by omega)).mono ?_
  rintro e w' ⟨rfl, rfl⟩
  go_wp2
  go_end0
  exact ⟨rfl, Blk.to (by repeat (with_reducible first | exact G.out | apply Blk.drew | apply Blk.alloc | apply Blk.set_)) (by simp [rcells]), by repeat (with_reducible first | exact World.grownBy.refl w _ | apply only_drew | apply only_alloc | refine only_setCell ?_ (.inl rfl) _)⟩

set_option maxHeartbeats 1000000 in
theorem sample_tr_bs (g : Nat) (r : R) (now sp lat del lim : Int) (w : World) (hg : Blk w g 54 (rcells r)) (l0 : 0 ≤ lat) (l1 : lat ≤ 1099511627776) (d0 : 0 ≤ del) (d1 : del ≤ 1099511627776) (m0 : 0 ≤ lim) (m1 : lim ≤ 1099511627776)
    (r0 : 0 ≤ r.mn) (r1 : r.mn ≤ 1099511627776) (q0 : 0 ≤ r.sm) (q1 : r.sm ≤ 1099511627776) (v0 : 0 ≤ r.var) (v1 : r.var ≤ 1099511627776)
    (k0 : lim < del) (k1 : lat < r.mn) (k2 : lat - lim < lat) :
    Calls Try.prog 25 #[.pointer (some ⟨g, 0, none⟩), .agg #[.int .u64 (tw now), .int .i64 (te now)], .bool true, .int .u8 sp, .int .i64 lat, .int .i64 del, .int .i64 lim] w fun e w' => e = .returned (.tuple #[]) ∧ Blk w' g 54 (rcells { mn := lat, latest := lat, sm := (7 * r.sm + lat) / 8, var := (3 * r.var + absI (r.sm - lat)) / 4, first := r.first }) ∧ w.grownBy w' (some g) := by
  have c0 : w.cell? ⟨g, 0, none⟩ = some (.int .i64 r.mn) := hg.cellAt 0 rfl
  have c1 : w.cell? ⟨g, 1, none⟩ = some (.int .i64 r.latest) := hg.cellAt 1 rfl
  have c2 : w.cell? ⟨g, 2, none⟩ = some (.int .i64 r.sm) := hg.cellAt 2 rfl
  have c3 : w.cell? ⟨g, 3, none⟩ = some (.int .i64 r.var) := hg.cellAt 3 rfl
  have f0 := hg.frozen 0
  have f1 := hg.frozen 1
  have f2 := hg.frozen 2
  have f3 := hg.frozen 3
  have lg := hg.lt
  have G := Lib.hid hg
  clear hg
  obtain ⟨a0, a1⟩ := absI_b (r.sm - lat) 2199023255552 (by omega) (by omega)
  go_enter Try.func25, Try.ntmps25
  go_wp2_with fail
  refine (abs_any _ _ (by omega) (by omega)).mono ?_
  rintro e w' ⟨rfl, rfl⟩
  go_wp2
  go_end0
  exact ⟨rfl, Blk.to (by repeat (with_reducible first | exact G.out | apply Blk.drew | apply Blk.alloc | apply Blk.set_)) (by simp [rcells]), by repeat (with_reducible first | exact World.grownBy.refl w _ | apply only_drew | apply only_alloc | refine only_setCell ?_ (.inl rfl) _)⟩

set_option maxHeartbeats 1000000 in
theorem sample_tr_bt (g : Nat) (r : R) (now sp lat del lim : Int) (w : World) (hg : Blk w g 54 (rcells r)) (l0 : 0 ≤ lat) (l1 : lat ≤ 1099511627776) (d0 : 0 ≤ del) (d1 : del ≤ 1099511627776) (m0 : 0 ≤ lim) (m1 : lim ≤ 1099511627776)
    (r0 : 0 ≤ r.mn) (r1 : r.mn ≤ 1099511627776) (q0 : 0 ≤ r.sm) (q1 : r.sm ≤ 1099511627776) (v0 : 0 ≤ r.var) (v1 : r.var ≤ 1099511627776)
    (k0 : lim < del) (k1 : lat < r.mn) (k2 : lat ≤ lat - lim) :
    Calls Try.prog 25 #[.pointer (some ⟨g, 0, none⟩), .agg #[.int .u64 (tw now), .int .i64 (te now)], .bool true, .int .u8 sp, .int .i64 lat, .int .i64 del, .int .i64 lim] w fun e w' => e = .returned (.tuple #[]) ∧ Blk w' g 54 (rcells { mn := lat, latest := lat, sm := (7 * r.sm + (lat - lim)) / 8, var := (3 * r.var + absI (r.sm - (lat - lim))) / 4, first := r.first }) ∧ w.grownBy w' (some g) := by
  have c0 : w.cell? ⟨g, 0, none⟩ = some (.int .i64 r.mn) := hg.cellAt 0 rfl
  have c1 : w.cell? ⟨g, 1, none⟩ = some (.int .i64 r.latest) := hg.cellAt 1 rfl
  have c2 : w.cell? ⟨g, 2, none⟩ = some (.int .i64 r.sm) := hg.cellAt 2 rfl
  have c3 : w.cell? ⟨g, 3, none⟩ = some (.int .i64 r.var) := hg.cellAt 3 rfl
  have f0 := hg.frozen 0
  have f1 := hg.frozen 1
  have f2 := hg.frozen 2
  have f3 := hg.frozen 3
  have lg := hg.lt
  have G := Lib.hid hg
  clear hg
  obtain ⟨a0, a1⟩ := absI_b (r.sm - (lat - lim)) 2199023255552 (by omega) (by omega)
  go_enter Try.func25, Try.ntmps25
  go_wp2_with fail
  refine (abs_any _ _ (by omega) (by omega)).mono ?_
  rintro e w' ⟨rfl, rfl⟩
  go_wp2
  go_end0
  exact ⟨rfl, Blk.to (by repeat (with_reducible first | exact G.out | apply Blk.drew | apply Blk.alloc | apply Blk.set_)) (by simp [rcells]), by repeat (with_reducible first | exact World.grownBy.refl w _ | apply only_drew | apply only_alloc | refine only_setCell ?_ (.inl rfl) _)⟩

set_option maxHeartbeats 1000000 in
theorem sample_first (g : Nat) (r : R) (now sp lat del lim : Int) (v : Bool) (w : World) (hg : Blk w g 54 (rcells r)) (l0 : 0 ≤ lat) (l1 : lat ≤ 1099511627776) (r0 : r.mn < 0) :
    Calls Try.prog 25 #[.pointer (some ⟨g, 0, none⟩), .agg #[.int .u64 (tw now), .int .i64 (te now)], .bool v, .int .u8 sp, .int .i64 lat, .int .i64 del, .int .i64 lim] w fun e w' => e = .returned (.tuple #[]) ∧ Blk w' g 54 (rcells { mn := lat, latest := lat, sm := lat, var := lat / 2, first := now }) ∧ w.grownBy w' (some g) := by
  have c0 : w.cell? ⟨g, 0, none⟩ = some (.int .i64 r.mn) := hg.cellAt 0 rfl
  have c1 : w.cell? ⟨g, 1, none⟩ = some (.int .i64 r.latest) := hg.cellAt 1 rfl
  have c2 : w.cell? ⟨g, 2, none⟩ = some (.int .i64 r.sm) := hg.cellAt 2 rfl
  have c3 : w.cell? ⟨g, 3, none⟩ = some (.int .i64 r.var) := hg.cellAt 3 rfl
  have c4 : w.cell? ⟨g, 4, none⟩ = some (.int .u64 (tw r.first)) := hg.cellAt 4 rfl
  have c5 : w.cell? ⟨g, 5, none⟩ = some (.int .i64 (te r.first)) := hg.cellAt 5 rfl
  have f0 := hg.frozen 0
  have f1 := hg.frozen 1
  have f2 := hg.frozen 2
  have f3 := hg.frozen 3
  have f4 := hg.frozen 4
  have f5 := hg.frozen 5
  have lg := hg.lt
  have G := Lib.hid hg
  clear hg
  go_enter Try.func25, Try.ntmps25
  go_wp2
  refine bodyPost_ret (results_none rfl _ _ _) rfl ?_
  exact ⟨rfl, Blk.to (by repeat (with_reducible first | exact G.out | apply Blk.drew | apply Blk.alloc | apply Blk.set_)) (by simp [rcells]), by repeat (with_reducible first | exact World.grownBy.refl w _ | apply only_drew | apply only_alloc | refine only_setCell ?_ (.inl rfl) _)⟩

theorem sample_any (g : Nat) (r : R) (now sp lat del lim : Int) (v : Bool) (w : World) (hg : Blk w g 54 (rcells r)) (l0 : 0 ≤ lat) (l1 : lat ≤ 1099511627776) (d0 : 0 ≤ del) (d1 : del ≤ 1099511627776) (m0 : 0 ≤ lim) (m1 : lim ≤ 1099511627776)
    (r1 : r.mn ≤ 1099511627776) (q0 : 0 ≤ r.sm) (q1 : r.sm ≤ 1099511627776) (v0 : 0 ≤ r.var) (v1 : r.var ≤ 1099511627776) :
    Calls Try.prog 25 #[.pointer (some ⟨g, 0, none⟩), .agg #[.int .u64 (tw now), .int .i64 (te now)], .bool v, .int .u8 sp, .int .i64 lat, .int .i64 del, .int .i64 lim] w fun e w' => e = .returned (.tuple #[]) ∧ Blk w' g 54 (rcells (r.sample now v lat del lim)) ∧ w.grownBy w' (some g) := by
  by_cases r0 : r.mn < 0
  · have e : r.sample now v lat del lim = { mn := lat, latest := lat, sm := lat, var := lat / 2, first := now } := by unfold R.sample; rw [if_pos r0]
    rw [e]
    exact sample_first g r now sp lat del lim v w hg l0 l1 r0
  · have e : r.sample now v lat del lim = { mn := min r.mn lat, latest := lat, sm := (7 * r.sm + r.adj v lat del lim) / 8, var := (3 * r.var + absI (r.sm - r.adj v lat del lim)) / 4, first := r.first } := by unfold R.sample; rw [if_neg r0]
    rw [e]
    clear e
    unfold R.adj
    cases v with
    | false =>
      simp only [Bool.false_eq_true, if_false]
      by_cases k1 : r.mn ≤ lat
      · have em : min r.mn lat = r.mn := by omega
        rw [em]
        by_cases k2 : lat - del < r.mn
        · rw [if_pos k2]; exact sample_f_as g r now sp lat del lim w hg l0 l1 d0 d1 m0 m1 (by omega) r1 q0 q1 v0 v1 k1 k2
        · rw [if_neg k2]; exact sample_f_at g r now sp lat del lim w hg l0 l1 d0 d1 m0 m1 (by omega) r1 q0 q1 v0 v1 k1 (by omega)
      · have em : min r.mn lat = lat := by omega
        rw [em]
        by_cases k2 : lat - del < lat
        · rw [if_pos k2]; exact sample_f_bs g r now sp lat del lim w hg l0 l1 d0 d1 m0 m1 (by omega) r1 q0 q1 v0 v1 (by omega) k2
        · rw [if_neg k2]; exact sample_f_bt g r now sp lat del lim w hg l0 l1 d0 d1 m0 m1 (by omega) r1 q0 q1 v0 v1 (by omega) (by omega)
    | true =>
      simp only [if_true]
      by_cases k0 : del ≤ lim
      · have ed : min del lim = del := by omega
        rw [ed]
        by_cases k1 : r.mn ≤ lat
        · have em : min r.mn lat = r.mn := by omega
          rw [em]
          by_cases k2 : lat - del < r.mn
          · rw [if_pos k2]; exact sample_tl_as g r now sp lat del lim w hg l0 l1 d0 d1 m0 m1 (by omega) r1 q0 q1 v0 v1 k0 k1 k2
          · rw [if_neg k2]; exact sample_tl_at g r now sp lat del lim w hg l0 l1 d0 d1 m0 m1 (by omega) r1 q0 q1 v0 v1 k0 k1 (by omega)
        · have em : min r.mn lat = lat := by omega
          rw [em]
          by_cases k2 : lat - del < lat
          · rw [if_pos k2]; exact sample_tl_bs g r now sp lat del lim w hg l0 l1 d0 d1 m0 m1 (by omega) r1 q0 q1 v0 v1 k0 (by omega) k2
          · rw [if_neg k2]; exact sample_tl_bt g r now sp lat del lim w hg l0 l1 d0 d1 m0 m1 (by omega) r1 q0 q1 v0 v1 k0 (by omega) (by omega)
      · have ed : min del lim = lim := by omega
        rw [ed]
        by_cases k1 : r.mn ≤ lat
        · have em : min r.mn lat = r.mn := by omega
          rw [em]
          by_cases k2 : lat - lim < r.mn
          · rw [if_pos k2]; exact sample_tr_as g r now sp lat del lim w hg l0 l1 d0 d1 m0 m1 (by omega) r1 q0 q1 v0 v1 (by omega) k1 k2
          · rw [if_neg k2]; exact sample_tr_at g r now sp lat del lim w hg l0 l1 d0 d1 m0 m1 (by omega) r1 q0 q1 v0 v1 (by omega) k1 (by omega)
        · have em : min r.mn lat = lat := by omega
          rw [em]
          by_cases k2 : lat - lim < lat
          · rw [if_pos k2]; exact sample_tr_bs g r now sp lat del lim w hg l0 l1 d0 d1 m0 m1 (by omega) r1 q0 q1 v0 v1 (by omega) (by omega) k2
          · rw [if_neg k2]; exact sample_tr_bt g r now sp lat del lim w hg l0 l1 d0 d1 m0 m1 (by omega) r1 q0 q1 v0 v1 (by omega) (by omega) (by omega)
end Go.Proofs.Ytehplpakbfnhbaa
