/-
  Contracts of time.Time's nsec, sec, addSec, Add, Before and of queue.ZZTimeAtNs, as far as this law's road needs them.
-/
import Derived.Test.Qxb6627667aRows
import Derived.WalkKit
import Derived.WalkSpells
import Derived.WalkLawsBesides
import Derived.RowKit3
import Derived.Deep.RegionWith
namespace Go.Proofs.Qxb6627667a
open Go.RowKit

theorem and_mask (x : Int) (h0 : 0 ≤ x) (h1 : x < 1000000000) : bits .and .u64 x 1073741823 = x := by
  rw [u64_and x 1073741823 h0 (by omega) (by omega) (by omega)]
  show ((x.toNat &&& 1073741823 : Nat) : Int) = x
  rw [show (1073741823 : Nat) = 2 ^ 30 - 1 from rfl, Nat.and_two_pow_sub_one_eq_mod, Nat.mod_eq_of_lt (by omega)]
  omega

theorem and_mono (x : Int) (h0 : 0 ≤ x) (h1 : x < 1000000000) : bits .and .u64 x 9223372036854775808 = 0 := by
  rw [u64_and x 9223372036854775808 h0 (by omega) (by omega) (by omega)]
  show ((x.toNat &&& 9223372036854775808 : Nat) : Int) = 0
  rw [show (9223372036854775808 : Nat) = 2 ^ 63 from rfl, nat_bit, Nat.div_eq_of_lt (by omega)]
  rfl

theorem or_zero (x : Int) (h0 : 0 ≤ x) (h1 : x < 1000000000) : bits .or .u64 0 x = x := by
  rw [u64_or 0 x (by omega) (by omega) h0 (by omega)]
  show ((0 ||| x.toNat : Nat) : Int) = x
  rw [Nat.zero_or]; omega

theorem andNot_zero : bits .andNot .u64 0 1073741823 = 0 := by
  rw [u64_andNot 0 1073741823 (by omega) (by omega) (by omega) (by omega)]
  show ((0 &&& _ : Nat) : Int) = 0
  rw [Nat.zero_and]; rfl

set_option maxHeartbeats 400000 in
theorem nsec_any (b : Nat) (x : Int) (w : World) (h : w.cell? ⟨b, 0, none⟩ = some (.int .u64 x)) (h0 : 0 ≤ x) (h1 : x < 1000000000) :
    Calls Try.prog 19 #[.pointer (some ⟨b, 0, none⟩)] w fun e w' => e = .returned (.int .i32 x) ∧ w = w' := by
  have hm := and_mask x h0 h1
  go_enter Try.func19, Try.ntmps19
  go_wp2
  go_ret
  exact ⟨rfl, rfl⟩

set_option maxHeartbeats 400000 in
theorem sec_any (b : Nat) (x y : Int) (w : World) (h : w.cell? ⟨b, 0, none⟩ = some (.int .u64 x)) (hy : w.cell? ⟨b, 1, none⟩ = some (.int .i64 y)) (h0 : 0 ≤ x) (h1 : x < 1000000000) :
    Calls Try.prog 18 #[.pointer (some ⟨b, 0, none⟩)] w fun e w' => e = .returned (.int .i64 y) ∧ w = w' := by
  have hm := and_mono x h0 h1
  go_enter Try.func18, Try.ntmps18
  go_wp2
  go_ret
  exact ⟨rfl, rfl⟩

set_option maxHeartbeats 400000 in
theorem addSec_any (b : Nat) (x d : Int) (w : World) (h : w.cell? ⟨b, 0, none⟩ = some (.int .u64 x)) (hy : w.cell? ⟨b, 1, none⟩ = some (.int .i64 0)) (hf : w.frozen? ⟨b, 1, none⟩ = false) (h0 : 0 ≤ x) (h1 : x < 1000000000) (h2 : -10000000000 ≤ d) (h3 : d ≤ 10000000000) :
    Calls Try.prog 20 #[.pointer (some ⟨b, 0, none⟩), .int .i64 d] w fun e w' => e = .returned (.tuple #[]) ∧ w.setCell ⟨b, 1, none⟩ (.int .i64 d) = w' := by
  have hm := and_mono x h0 h1
  go_enter Try.func20, Try.ntmps20
  go_wp2
  go_end0
  exact ⟨rfl, rfl⟩

/-- The time 'ns' nanoseconds behind Go's zero time, as its three cells. -/
def tWall (ns : Int) : Int := ns % 1000000000
def tExt (ns : Int) : Int := ns / 1000000000


theorem tparts (ns : Int) (hl : -9223372036854775808 ≤ ns) (hh : ns ≤ 9223372036854775807) : ∃ q r : Int, ns.tdiv 1000000000 = q ∧ ns.tmod 1000000000 = r ∧ -9223372037 ≤ q ∧ q ≤ 9223372037 ∧ -1000000000 < r ∧ r < 1000000000 ∧
    (0 ≤ r → tWall ns = r ∧ tExt ns = q) ∧ (r < 0 → tWall ns = r + 1000000000 ∧ tExt ns = q - 1) := by
  refine ⟨_, _, rfl, rfl, ?_⟩
  have h := Int.tmod_add_mul_tdiv ns 1000000000
  have h1 := Int.lt_tmod_of_pos ns (show (0 : Int) < 1000000000 by decide)
  have h2 := Int.tmod_lt_of_pos ns (show (0 : Int) < 1000000000 by decide)
  unfold tWall tExt
  omega

theorem tWall_bd (ns : Int) : 0 ≤ tWall ns ∧ tWall ns < 1000000000 := by unfold tWall; omega


set_option maxHeartbeats 1000000 in
theorem add_any (ns : Int) (w : World) (hl : -9223372036854775808 ≤ ns) (hh : ns ≤ 9223372036854775807) :
    Calls Try.prog 16 #[.agg #[.int .u64 0, .int .i64 0, .pointer none], .int .i64 ns] w fun e w' =>
      e = .returned (.agg #[.int .u64 (tWall ns), .int .i64 (tExt ns), .pointer none]) ∧ ∃ c1 c2 : Array Value, w' = (w.alloc (.cells c1 31)).alloc (.cells c2 31) := by
  obtain ⟨q, r, hq, hr, q1, q2, r1, r2, p1, p2⟩ := tparts ns hl hh
  have hz := andNot_zero
  by_cases hn : 0 ≤ r
  · obtain ⟨e1, e2⟩ := p1 hn
    rw [e1, e2]
    clear p1 p2 e1 e2
    have ho := or_zero r hn r2
    have hm := and_mono r hn r2
    go_enter Try.func16, Try.ntmps16
    go_wp2_with (first
      | (go_at_call 19; refine (nsec_any _ 0 _ (by simp [go_sem]) (by decide) (by decide)).mono ?_; rintro e w' ⟨rfl, rfl⟩)
      | (go_at_call 20; refine (addSec_any _ r q _ (by simp [go_sem]) (by simp [go_sem]) (by simp [go_sem]) hn r2 (by omega) (by omega)).mono ?_; rintro e w' ⟨rfl, rfl⟩))
    simp [bodyPost, results, Try.results16, go_sem]
    exact ⟨_, _, rfl⟩
  · obtain ⟨e1, e2⟩ := p2 (by omega)
    rw [e1, e2]
    clear p1 p2 e1 e2
    have ho := or_zero (r + 1000000000) (by omega) (by omega)
    have hm := and_mono (r + 1000000000) (by omega) (by omega)
    have hn' : r < 0 := by omega
    clear hn
    go_enter Try.func16, Try.ntmps16
    go_wp2_with (first
      | (go_at_call 19; refine (nsec_any _ 0 _ (by simp [go_sem]) (by decide) (by decide)).mono ?_; rintro e w' ⟨rfl, rfl⟩)
      | (go_at_call 20; refine (addSec_any _ (r + 1000000000) (q - 1) _ (by simp [go_sem]) (by simp [go_sem]) (by simp [go_sem]) (by omega) (by omega) (by omega) (by omega)).mono ?_; rintro e w' ⟨rfl, rfl⟩))
    simp [bodyPost, results, Try.results16, go_sem]
    exact ⟨_, _, rfl⟩

set_option maxHeartbeats 1000000 in
theorem timeAt_any (ns : Int) (w : World) (hl : -9223372036854775808 ≤ ns) (hh : ns ≤ 9223372036854775807) :
    Calls Try.prog 14 #[.int .i64 ns] w fun e w' =>
      e = .returned (.agg #[.int .u64 (tWall ns), .int .i64 (tExt ns), .pointer none]) ∧ ∃ c1 c2 c3 : Array Value, w' = ((w.alloc (.cells c1 31)).alloc (.cells c2 31)).alloc (.cells c3 31) := by
  go_enter Try.func14, Try.ntmps14
  go_wp2_with (first
      | (go_at_call 16; refine (add_any ns _ hl hh).mono ?_; rintro e w' ⟨rfl, c1, c2, rfl⟩))
  simp [bodyPost, results, Try.results14, go_sem]
  exact ⟨_, _, _, rfl⟩

/-- Which of two times comes first goes by their nanoseconds. -/
theorem before_parts (a b : Int) : (decide (tExt a < tExt b) || (decide (tExt a = tExt b) && decide (tWall a < tWall b))) = decide (a < b) := by
  unfold tWall tExt
  rw [Bool.eq_iff_iff]; simp; omega

set_option maxHeartbeats 1000000 in
theorem before_any (a b : Int) (w : World) :
    Calls Try.prog 15 #[.agg #[.int .u64 (tWall a), .int .i64 (tExt a), .pointer none], .agg #[.int .u64 (tWall b), .int .i64 (tExt b), .pointer none]] w fun e w' =>
      e = .returned (.bool (decide (a < b))) ∧ ∃ c1 c2 : Array Value, w' = (w.alloc (.cells c1 31)).alloc (.cells c2 31) := by
  rw [← before_parts]
  obtain ⟨a1, a2⟩ := tWall_bd a
  obtain ⟨b1, b2⟩ := tWall_bd b
  generalize tWall a = x at *
  generalize tWall b = y at *
  generalize tExt a = s at *
  generalize tExt b = t at *
  have hxy : bits .and .u64 (bits .and .u64 x y) 9223372036854775808 = 0 := by
    rw [u64_and x y a1 (by omega) b1 (by omega)]
    refine and_mono _ (by omega) ?_
    have := @Nat.and_le_left x.toNat y.toNat
    omega
  rcases Int.lt_trichotomy s t with hst | hst | hst
  · have hv : (decide (s < t) || decide (s = t) && decide (x < y)) = true := by simp [hst]
    rw [hv]
    clear hv
    go_enter Try.func15, Try.ntmps15
    go_wp2_with fail
    refine (sec_any _ x s _ (by simp [go_sem]) (by simp [go_sem]) a1 a2).mono ?_
    rintro e w' ⟨rfl, rfl⟩
    go_wp2_with fail
    refine (sec_any _ y t _ (by simp [go_sem]) (by simp [go_sem]) b1 b2).mono ?_
    rintro e w' ⟨rfl, rfl⟩
    go_wp2_with fail
    go_ret
    exact ⟨rfl, _, _, rfl⟩
  · subst hst
    have hv : (decide (s < s) || decide (s = s) && decide (x < y)) = decide (x < y) := by simp
    rw [hv]
    clear hv
    go_enter Try.func15, Try.ntmps15
    go_wp2_with fail
    refine (sec_any _ x s _ (by simp [go_sem]) (by simp [go_sem]) a1 a2).mono ?_
    rintro e w' ⟨rfl, rfl⟩
    go_wp2_with fail
    refine (sec_any _ y s _ (by simp [go_sem]) (by simp [go_sem]) b1 b2).mono ?_
    rintro e w' ⟨rfl, rfl⟩
    go_wp2_with fail
    refine (nsec_any _ x _ (by simp [go_sem]) a1 a2).mono ?_
    rintro e w' ⟨rfl, rfl⟩
    go_wp2_with fail
    refine (nsec_any _ y _ (by simp [go_sem]) b1 b2).mono ?_
    rintro e w' ⟨rfl, rfl⟩
    go_wp2_with fail
    go_ret
    exact ⟨rfl, _, _, rfl⟩
  · have hv : (decide (s < t) || decide (s = t) && decide (x < y)) = false := by
      have h1 : ¬ s < t := by omega
      have h2 : ¬ s = t := by omega
      simp [h1, h2]
    rw [hv]
    clear hv
    go_enter Try.func15, Try.ntmps15
    go_wp2_with fail
    refine (sec_any _ x s _ (by simp [go_sem]) (by simp [go_sem]) a1 a2).mono ?_
    rintro e w' ⟨rfl, rfl⟩
    go_wp2_with fail
    refine (sec_any _ y t _ (by simp [go_sem]) (by simp [go_sem]) b1 b2).mono ?_
    rintro e w' ⟨rfl, rfl⟩
    go_wp2_with fail
    go_ret
    exact ⟨by simp; omega, _, _, rfl⟩
end Go.Proofs.Qxb6627667a
