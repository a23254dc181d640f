/-
  Meets and meetsB1AnyNonzero compute what they should on lists of words; the size guards answer a bool.
-/
import Derived.Test.Qxb6627773aRows
import Derived.WalkKit
import Derived.WalkSpells
import Derived.WalkLawsBesides
import Derived.WalkSmall
import Derived.Deep.QuietTactic
import Derived.BigQuiet
import Derived.Deep.OwnRows
namespace Go.Proofs.Qxb6627773a
open Go.RowKit

def IsBool (e : Ending) : Prop := ∃ b, e = .returned (.bool b)
set_option maxHeartbeats 400000 in
theorem bytes5_any (ao : Option Addr) (n cap : Nat) (ao' : Option Addr) (n' cap' : Nat) (c : Int) (w : World) (hn : n ≤ 9223372036854775807) (hn' : n' ≤ 9223372036854775807) : Calls Try.prog 5 #[.slice ao n cap, .slice ao' n' cap', .int .i64 c] w fun e w' => IsBool e ∧ w = w' := by
  go_enter Try.func5, Try.ntmps5
  go_wp2_with fail
  all_goals (go_ret; exact ⟨⟨_, rfl⟩, rfl⟩)
set_option maxHeartbeats 400000 in
theorem bytes8_any (ao : Option Addr) (n cap : Nat) (ao' : Option Addr) (n' cap' : Nat) (c : Int) (w : World) (hn : n ≤ 9223372036854775807) (hn' : n' ≤ 9223372036854775807) : Calls Try.prog 8 #[.slice ao n cap, .slice ao' n' cap', .int .i64 c] w fun e w' => IsBool e ∧ w = w' := by
  go_enter Try.func8, Try.ntmps8
  go_wp2_with fail
  all_goals (go_ret; exact ⟨⟨_, rfl⟩, rfl⟩)

/-- The words xs lie at the slice 'ao'. -/
def IntsAt (w : World) (ao : Option Addr) (xs : List Int) : Prop := ∀ k x, xs[k]? = some x → ∃ b off, ao = some ⟨b, off, none⟩ ∧ b < w.heap.size ∧ w.cell? ⟨b, off + k, none⟩ = some (.int .u64 x)
theorem intsAt_below {w W : World} {ao : Option Addr} {xs : List Int} (h : IntsAt w ao xs) (hb : Below w.heap.size w W) : IntsAt W ao xs := fun k x hx => by
  obtain ⟨b, off, e, hlt, hc⟩ := h k x hx
  exact ⟨b, off, e, Nat.lt_of_lt_of_le hlt hb.size, (hb.cell hlt).trans hc⟩
theorem intsAt_drewN {w : World} {ao : Option Addr} {xs : List Int} (h : IntsAt w ao xs) (d : Nat) : IntsAt (w.drewN d) ao xs := intsAt_below h (below_drewN (Below.refl _ _) d)

/-- Do two words share a bit? -/
def A (x y : Int) : Bool := bits .and .u64 x y != 0
/-- Do two sets meet? -/
def meets (xs ys : List Int) : Bool := (xs.zip ys).any fun p => A p.1 p.2

theorem meets_take {xs ys : List Int} {k : Nat} {x y : Int} (hx : xs[k]? = some x) (hy : ys[k]? = some y) : meets (xs.take (k + 1)) (ys.take (k + 1)) = (meets (xs.take k) (ys.take k) || A x y) := by
  have h1 := (List.getElem?_eq_some_iff.1 hx).1
  have h2 := (List.getElem?_eq_some_iff.1 hy).1
  unfold meets
  rw [List.take_add_one, List.take_add_one, hx, hy, List.zip_append (by simp; omega)]
  simp
theorem meets_of_take {xs ys : List Int} (k : Nat) (h : meets (xs.take k) (ys.take k) = true) : meets xs ys = true := by
  unfold meets at *
  rw [List.zip_eq_zipWith, ← List.take_zipWith, ← List.zip_eq_zipWith] at h
  obtain ⟨p, hp, hA⟩ := List.any_eq_true.1 h
  exact List.any_eq_true.2 ⟨p, List.mem_of_mem_take hp, hA⟩

set_option maxHeartbeats 400000 in
theorem meets_any (ao ao' : Option Addr) (n cap cap' : Nat) (xs ys : List Int) (w : World) (h1 : xs.length = n) (h2 : ys.length = n) (hn : n ≤ 9223372036854775807) (ho : IntsAt w ao xs) (ho' : IntsAt w ao' ys) :
    Calls Try.prog 6 #[.slice ao n cap, .slice ao' n cap'] w fun e w' => e = .returned (.bool (meets xs ys)) ∧ ∃ d, w' = w.drewN d := by
  have H : Hid (xs.length = n ∧ ys.length = n) := ⟨h1, h2⟩
  clear h1 h2
  go_enter Try.func6, Try.ntmps6
  go_wp2_with fail
  go_loopw [8] (fun i wr => ∃ k : Nat, i = .int .i64 k ∧ k ≤ n ∧ Hid (meets (xs.take k) (ys.take k) = false) ∧ ∃ d, wr = w.drewN d) (fun i _ => n - (intOf i).toNat)
  case atStart => exact ⟨0, rfl, Nat.zero_le _, rfl, 0, rfl⟩
  case round =>
    obtain ⟨k, rfl, hk, HM, d, rfl⟩ := hrel
    by_cases hlt : k < n
    · obtain ⟨x, hx⟩ : ∃ x, xs[k]? = some x := ⟨xs[k]'(by have := H.out; omega), by simp⟩
      obtain ⟨y, hy⟩ : ∃ y, ys[k]? = some y := ⟨ys[k]'(by have := H.out; omega), by simp⟩
      obtain ⟨b, off, rfl, hbl, hc⟩ := ho k x hx
      obtain ⟨b', off', rfl, hbl', hc'⟩ := ho' k y hy
      have hst := meets_take hx hy
      rw [HM.out, Bool.false_or] at hst
      have i0 : (0 : Int) ≤ (k : Int) := by omega
      have i1 : (k : Int) < (n : Int) := by omega
      clear hx hy ho ho' hbl hbl'
      cases hA : A x y with
      | false =>
        rw [hA] at hst
        have HN : Hid (meets (xs.take (k + 1)) (ys.take (k + 1)) = false) := hst
        have hA' : (bits .and .u64 x y != 0) = false := hA
        clear hst hA HM
        go_wp2_with fail
        go_quiet (fail)
        go_wp2_with fail
        go_roundw
        case rel => exact ⟨k + 1, by go_num, by omega, HN, _, rfl⟩
        case measure => simp [intOf]; omega
      | true =>
        rw [hA] at hst
        have HN : Hid (meets xs ys = true) := meets_of_take (k + 1) hst
        have hA' : (bits .and .u64 x y != 0) = true := hA
        clear hst hA HM
        go_wp2_with fail
        go_quiet (fail)
        go_wp2_with fail
        go_ret
        exact ⟨by rw [HN.out]; rfl, d + nq, by simp⟩
    · have e : k = n := by omega
      subst e
      have HN : Hid (meets xs ys = false) := by
        have := HM.out
        rw [List.take_of_length_le (by have := H.out; omega), List.take_of_length_le (by have := H.out; omega)] at this
        exact this
      clear HM
      go_wp2_with fail
      go_ret
      exact ⟨by rw [HN.out]; rfl, d, rfl⟩

/-- Has a set a node? -/
def anyNZ (xs : List Int) : Bool := xs.any (· != 0)
theorem anyNZ_take {xs : List Int} {k : Nat} {x : Int} (hx : xs[k]? = some x) : anyNZ (xs.take (k + 1)) = (anyNZ (xs.take k) || (x != 0)) := by
  unfold anyNZ
  rw [List.take_add_one, hx, List.any_append]; simp
theorem anyNZ_of_take {xs : List Int} (k : Nat) (h : anyNZ (xs.take k) = true) : anyNZ xs = true := by
  unfold anyNZ at *
  obtain ⟨p, hp, hA⟩ := List.any_eq_true.1 h
  exact List.any_eq_true.2 ⟨p, List.mem_of_mem_take hp, hA⟩

set_option maxHeartbeats 400000 in
theorem nonzero_any (ao : Option Addr) (n cap : Nat) (xs : List Int) (w : World) (h1 : xs.length = n) (hn : n ≤ 9223372036854775807) (ho : IntsAt w ao xs) :
    Calls Try.prog 7 #[.slice ao n cap] w fun e w' => e = .returned (.bool (anyNZ xs)) ∧ w = w' := by
  have H : Hid (xs.length = n) := h1
  clear h1
  go_enter Try.func7, Try.ntmps7
  go_wp2_with fail
  go_loop [3] (fun i => ∃ k : Nat, i = .int .i64 k ∧ k ≤ n ∧ Hid (anyNZ (xs.take k) = false)) (fun i => n - (intOf i).toNat)
  case atStart => exact ⟨0, rfl, Nat.zero_le _, rfl⟩
  case round =>
    obtain ⟨k, rfl, hk, HM⟩ := hrel
    by_cases hlt : k < n
    · obtain ⟨x, hx⟩ : ∃ x, xs[k]? = some x := ⟨xs[k]'(by have := H.out; omega), by simp⟩
      obtain ⟨b, off, rfl, hbl, hc⟩ := ho k x hx
      have hst := anyNZ_take hx
      rw [HM.out, Bool.false_or] at hst
      clear hx ho hbl
      cases hA : (x != 0) with
      | false =>
        rw [hA] at hst
        have HN : Hid (anyNZ (xs.take (k + 1)) = false) := hst
        clear hst HM
        go_wp2_with fail
        go_round
        case rel => exact ⟨k + 1, by go_num, by omega, HN⟩
        case measure => simp [intOf]; omega
      | true =>
        rw [hA] at hst
        have HN : Hid (anyNZ xs = true) := anyNZ_of_take (k + 1) hst
        clear hst HM
        go_wp2_with fail
        go_ret
        exact ⟨by rw [HN.out]; rfl, rfl⟩
    · have e : k = n := by omega
      subst e
      have HN : Hid (anyNZ xs = false) := by
        have := HM.out
        rw [List.take_of_length_le (by have := H.out; omega)] at this
        exact this
      clear HM
      go_wp2_with fail
      go_ret
      exact ⟨by rw [HN.out]; rfl, rfl⟩
end Go.Proofs.Qxb6627773a
