/-
  The contracts of zzToDurations and of Durations.Mean; the size guards answer a bool.
-/
import Derived.Test.Qxb6627730aRows
import Derived.WalkKit
import Derived.WalkSpells
import Derived.WalkLawsBesides
import Derived.WalkSmall
import Derived.Deep.OwnRows
namespace Go.Proofs.Qxb6627730a
open Go.RowKit

def IsBool (e : Ending) : Prop := ∃ b, e = .returned (.bool b)
set_option maxHeartbeats 400000 in
theorem bytes5_any (ao : Option Addr) (n cap : Nat) (w : World) (hn : n ≤ 9223372036854775807) : Calls Try.prog 5 #[.slice ao n cap] w fun e w' => IsBool e ∧ w = w' := by
  go_enter Try.func5, Try.ntmps5
  go_wp2_with fail
  all_goals (go_ret; exact ⟨⟨_, rfl⟩, rfl⟩)
set_option maxHeartbeats 400000 in
theorem bytes8_any (ao : Option Addr) (n cap : Nat) (c : Int) (w : World) (hn : n ≤ 9223372036854775807) : Calls Try.prog 8 #[.slice ao n cap, .int .i64 c] w fun e w' => IsBool e ∧ w = w' := by
  go_enter Try.func8, Try.ntmps8
  go_wp2_with fail
  all_goals (go_ret; exact ⟨⟨_, rfl⟩, rfl⟩)

/-- The numbers xs lie at the slice 'ao'. -/
def IntsAt (w : World) (ao : Option Addr) (xs : List Int) : Prop := ∀ k x, xs[k]? = some x → ∃ b off, ao = some ⟨b, off, none⟩ ∧ b < w.heap.size ∧ w.cell? ⟨b, off + k, none⟩ = some (.int .i64 x)
theorem intsAt_below {w W : World} {ao : Option Addr} {xs : List Int} (h : IntsAt w ao xs) (hb : Below w.heap.size w W) : IntsAt W ao xs := fun k x hx => by
  obtain ⟨b, off, e, hlt, hc⟩ := h k x hx
  exact ⟨b, off, e, Nat.lt_of_lt_of_le hlt hb.size, (hb.cell hlt).trans hc⟩

/-- The sum of the first k. -/
def sumTo (xs : List Int) (k : Nat) : Int := (xs.take k).sum
theorem sumTo_zero (xs : List Int) : sumTo xs 0 = 0 := by simp [sumTo]
theorem sumTo_step {xs : List Int} {k : Nat} {x : Int} (hx : xs[k]? = some x) : sumTo xs (k + 1) = sumTo xs k + x := by
  simp [sumTo, List.take_add_one, hx]
theorem sumTo_all (xs : List Int) : sumTo xs xs.length = xs.sum := by simp [sumTo]

/-- Every running total fits. -/
def Fits (xs : List Int) : Prop := ∀ k, k ≤ xs.length → -9223372036854775808 ≤ sumTo xs k ∧ sumTo xs k ≤ 9223372036854775807

theorem ret_int {k : IntKind} {a b : Int} (h : a = b) : Ending.returned (.int k a) = .returned (.int k b) := by rw [h]

set_option maxHeartbeats 400000 in
theorem mean_zero (ao : Option Addr) (cap : Nat) (w : World) : Calls Try.prog 7 #[.slice ao 0 cap] w fun e w' => e = .returned (.int .i64 0) ∧ w = w' := by
  go_enter Try.func7, Try.ntmps7
  go_wp2_with fail
  go_ret
  exact ⟨rfl, rfl⟩

set_option maxHeartbeats 400000 in
theorem mean_some (ao : Option Addr) (n cap : Nat) (xs : List Int) (w : World) (hl : xs.length = n) (hn : n ≤ 9223372036854775807) (h0 : 0 < n) (ho : IntsAt w ao xs) (hf : Fits xs) :
    Calls Try.prog 7 #[.slice ao n cap] w fun e w' => e = .returned (.int .i64 (xs.sum.tdiv n)) ∧ w = w' := by
  have H : Hid (xs.length = n) := hl
  have HF : Hid (Fits xs) := hf
  clear hl hf
  go_enter Try.func7, Try.ntmps7
  go_wp2_with fail
  go_loop [3, 11] (fun s i => ∃ k : Nat, i = .int .i64 k ∧ k ≤ n ∧ s = .int .i64 (sumTo xs k)) (fun _ i => n - (intOf i).toNat)
  case atStart => exact ⟨0, rfl, Nat.zero_le _, by rw [sumTo_zero]⟩
  case round =>
    obtain ⟨k, rfl, hk, rfl⟩ := hrel
    by_cases hlt : k < n
    · obtain ⟨x, hx⟩ : ∃ x, xs[k]? = some x := ⟨xs[k]'(by rw [H.out]; omega), by simp⟩
      obtain ⟨b, off, rfl, hbl, hc⟩ := ho k x hx
      have h1 := HF.out k (by rw [H.out]; omega)
      have h2 := HF.out (k + 1) (by rw [H.out]; omega)
      rw [sumTo_step hx] at h2
      have HS : Hid (sumTo xs (k + 1) = sumTo xs k + x) := sumTo_step hx
      obtain ⟨h3, h4⟩ := h1
      obtain ⟨h5, h6⟩ := h2
      clear hx ho
      go_wp2_with fail
      go_round
      case rel => exact ⟨k + 1, by go_num, by omega, by rw [HS.out]⟩
      case measure => simp [intOf]; omega
    · have e : k = n := by omega
      subst e
      have HS : Hid (sumTo xs k = xs.sum) := by rw [← H.out]; exact sumTo_all xs
      have h1 := HF.out k (by rw [H.out]; omega)
      obtain ⟨h3, h4⟩ := h1
      go_wp2_with fail
      go_ret
      exact ⟨ret_int (by rw [HS.out]), rfl⟩

theorem Try.info27 : (Try.prog.info? 27).map (fun i => (i.zero, i.size, i.bytes)) = some (some (.int .i64 0), 1, 8) := by kernel_rfl

/-- The row at block g, of n cells: the first k are those of ys. -/
structure Fill (g n : Nat) (ys : List Int) (w wr : World) (k : Nat) : Prop where
  below : Below g w wr
  row : wr.rowIs g 27 n (fun j => .int .i64 (if j < k then ys.getD j 0 else 0))

theorem Fill.start {g n : Nat} {ys : List Int} {w : World} (hg : g = w.heap.size) : Fill g n ys w (w.alloc (.cells (madeCells #[.int .i64 0] n) 27)) 0 where
  below := (Below.refl _ _).alloc (by omega) _
  row := by subst hg; exact (World.rowIs_made w (.int .i64 0) n 27).congr (fun i _ => by simp)
theorem Fill.step {g n : Nat} {ys : List Int} {w wr : World} {k : Nat} {y : Int} (h : Fill g n ys w wr k) (hy : ys[k]? = some y) : Fill g n ys w (wr.setCell ⟨g, k, none⟩ (.int .i64 y)) (k + 1) where
  below := h.below.setCell (Nat.le_refl _) _
  row := (h.row.set k (.int .i64 y)).congr (fun i _ => by
    have hgd : ys.getD k 0 = y := by simp [List.getD, hy]
    by_cases e : i = k
    · subst e; simp [hy]
    · have : (i < k + 1) ↔ (i < k) := by omega
      simp [e, this])
theorem Fill.cell {g n : Nat} {ys : List Int} {w wr : World} {k : Nat} (h : Fill g n ys w wr k) (hk : k < n) : wr.cell? ⟨g, k, none⟩ = some (.int .i64 0) := by
  rw [h.row.cell hk]; simp
theorem Fill.ints {g n : Nat} {ys : List Int} {w wr : World} (h : Fill g n ys w wr n) (hl : ys.length = n) : IntsAt wr (some ⟨g, 0, none⟩) ys := fun k x hx => by
  have hk : k < n := by rw [← hl]; exact (List.getElem?_eq_some_iff.1 hx).1
  refine ⟨g, 0, rfl, h.row.lt, ?_⟩
  rw [Nat.zero_add, h.row.cell hk]
  simp [hk, hx]

set_option maxHeartbeats 400000 in
theorem toDur_any (ao : Option Addr) (n cap : Nat) (xs : List Int) (w : World) (hl : xs.length = n) (hn : n ≤ 1000000) (ho : IntsAt w ao xs) :
    Calls Try.prog 6 #[.slice ao n cap] w fun e w' => e = .returned (.slice (some ⟨w.heap.size, 0, none⟩) n n) ∧ Below w.heap.size w w' ∧ IntsAt w' (some ⟨w.heap.size, 0, none⟩) xs := by
  have H : Hid (xs.length = n) := hl
  clear hl
  have hmk := run_make_row' (P := Try.prog) 25 27 (.int .i64 0) 8 Try.underlying25 Try.info27 rfl .i64 .i64 n (by omega) (by omega)
  have hst : Fill w.heap.size n xs w (w.alloc (.cells (madeCells #[.int .i64 0] n) 27)) 0 := Fill.start rfl
  go_enter Try.func6, Try.ntmps6
  go_wp2_with fail
  clear hmk
  go_loopw [4] (fun i wr => ∃ k : Nat, i = .int .i64 k ∧ k ≤ n ∧ Fill w.heap.size n xs w wr k) (fun i _ => n - (intOf i).toNat)
  case atStart => exact ⟨0, rfl, Nat.zero_le _, hst⟩
  case round =>
    clear hst
    obtain ⟨k, rfl, hk, hfill⟩ := hrel
    by_cases hlt : k < n
    · obtain ⟨x, hx⟩ : ∃ x, xs[k]? = some x := ⟨xs[k]'(by rw [H.out]; omega), by simp⟩
      obtain ⟨b, off, rfl, hbl, hc⟩ := intsAt_below ho hfill.below k x hx
      have hc1 := hfill.cell hlt
      have hf1 := hfill.row.frozen k
      have HN := hfill.step hx
      clear hx ho hfill hbl
      go_wp2_with fail
      go_roundw
      case rel => exact ⟨k + 1, by go_num, by omega, HN⟩
      case measure => simp [intOf]; omega
    · have e : k = n := by omega
      subst e
      have HI := hfill.ints H.out
      have HB := hfill.below
      clear hfill ho
      go_wp2_with fail
      go_ret
      exact ⟨rfl, HB, HI⟩
end Go.Proofs.Qxb6627730a
