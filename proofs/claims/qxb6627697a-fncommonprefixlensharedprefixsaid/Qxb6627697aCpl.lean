/-
  The length of a common prefix, on lists of bytes; commonPrefixLen computes it; the size guards answer a bool.
-/
import Derived.Test.Qxb6627697aRows
import Derived.WalkKit
import Derived.WalkSpells
import Derived.WalkLawsBesides
import Derived.WalkSmall
import Derived.Deep.QuietTactic
import Derived.BigQuiet
namespace Go.Proofs.Qxb6627697a
open Go.RowKit

/-- The length of the common prefix. -/
def cpl : List UInt8 → List UInt8 → Nat
  | x :: xs, y :: ys => if x = y then cpl xs ys + 1 else 0
  | _, _ => 0

theorem cpl_le_left : ∀ a b : List UInt8, cpl a b ≤ a.length
  | [], _ => by simp [cpl]
  | _ :: _, [] => by simp [cpl]
  | x :: xs, y :: ys => by
    simp only [cpl]
    split
    · have := cpl_le_left xs ys; simp; omega
    · omega
theorem cpl_comm : ∀ a b : List UInt8, cpl a b = cpl b a
  | [], [] => rfl
  | [], _ :: _ => rfl
  | _ :: _, [] => rfl
  | x :: xs, y :: ys => by
    simp only [cpl]
    by_cases h : x = y
    · rw [if_pos h, if_pos h.symm, cpl_comm xs ys]
    · rw [if_neg h, if_neg (fun e => h e.symm)]
theorem cpl_le_right (a b : List UInt8) : cpl a b ≤ b.length := by rw [cpl_comm]; exact cpl_le_left b a
theorem cpl_append : ∀ p a b : List UInt8, cpl (p ++ a) (p ++ b) = p.length + cpl a b
  | [], a, b => by simp
  | x :: p, a, b => by
    simp only [List.cons_append, cpl, if_true, List.length_cons]
    rw [cpl_append p a b]; omega
theorem cpl_nil (a : List UInt8) : cpl a [] = 0 := by cases a <;> rfl
theorem cpl_self (p a : List UInt8) : cpl (p ++ a) p = p.length := by
  have := cpl_append p a []
  rw [List.append_nil, cpl_nil] at this
  exact this
theorem cpl_take : ∀ (a b : List UInt8) (k : Nat), cpl (a.take k) b = min k (cpl a b)
  | [], _, k => by simp [cpl]
  | _ :: _, [], k => by rw [cpl_nil, cpl_nil]; simp
  | x :: xs, y :: ys, 0 => by simp [cpl]
  | x :: xs, y :: ys, k + 1 => by
    simp only [List.take_succ_cons, cpl]
    split
    · rw [cpl_take xs ys k]; omega
    · omega
theorem cpl_take_self (a : List UInt8) (k : Nat) (h : k ≤ a.length) : cpl (a.take k) a = k := by
  have h1 := cpl_take a a k
  have h2 := cpl_append a [] []
  simp at h2
  rw [h1, h2]
  simp [cpl]; omega
/-- They agree before k, and k is at an end. -/
theorem cpl_end : ∀ (a b : List UInt8) (k : Nat), (∀ j, j < k → a[j]? = b[j]?) → k ≤ a.length → k ≤ b.length → (k = a.length ∨ k = b.length) → cpl a b = k
  | [], _, k, _, h1, _, _ => by simp at h1; subst h1; simp [cpl]
  | _ :: _, [], k, _, _, h2, _ => by simp at h2; subst h2; rfl
  | x :: xs, y :: ys, 0, _, _, _, h => by simp at h
  | x :: xs, y :: ys, k + 1, h, h1, h2, h3 => by
    have e : x = y := by have := h 0 (by omega); simpa using this
    simp only [cpl, if_pos e]
    rw [cpl_end xs ys k (fun j hj => by have := h (j + 1) (by omega); simpa using this) (by simpa using h1) (by simpa using h2) (by simpa using h3)]
/-- They agree before k, and part at k. -/
theorem cpl_stop : ∀ (a b : List UInt8) (k : Nat) (u v : UInt8), (∀ j, j < k → a[j]? = b[j]?) → a[k]? = some u → b[k]? = some v → u ≠ v → cpl a b = k
  | [], _, k, u, _, _, h1, _, _ => by simp at h1
  | _ :: _, [], k, _, v, _, _, h2, _ => by simp at h2
  | x :: xs, y :: ys, 0, u, v, _, h1, h2, h => by
    simp at h1 h2; subst h1 h2; simp [cpl, h]
  | x :: xs, y :: ys, k + 1, u, v, h, h1, h2, h3 => by
    have e : x = y := by have := h 0 (by omega); simpa using this
    simp only [cpl, if_pos e]
    rw [cpl_stop xs ys k u v (fun j hj => by have := h (j + 1) (by omega); simpa using this) (by simpa using h1) (by simpa using h2) h3]

/-- The two strings agree before k. -/
def Agree (a b : ByteArray) (k : Nat) : Prop := ∀ j, j < k → a.data.toList[j]? = b.data.toList[j]?
theorem at_toList (a : ByteArray) (k : Nat) (h : k < a.size) : a.data.toList[k]? = some a[k] := by
  rw [List.getElem?_eq_getElem (by simpa using h)]; rfl
theorem Agree.step {a b : ByteArray} {k : Nat} (h : Agree a b k) (h1 : k < a.size) (h2 : k < b.size) (e : a[k] = b[k]) : Agree a b (k + 1) := fun j hj => by
  by_cases hk : j = k
  · subst hk; rw [at_toList a j h1, at_toList b j h2, e]
  · exact h j (by omega)
theorem Agree.stop {a b : ByteArray} {k : Nat} (h : Agree a b k) (h1 : k < a.size) (h2 : k < b.size) (e : ¬ a[k] = b[k]) : cpl a.data.toList b.data.toList = k :=
  cpl_stop _ _ k a[k] b[k] h (at_toList a k h1) (at_toList b k h2) e
theorem Agree.fin {a b : ByteArray} {k : Nat} (h : Agree a b k) (h1 : k ≤ a.size) (h2 : k ≤ b.size) (e : k = a.size ∨ k = b.size) : cpl a.data.toList b.data.toList = k :=
  cpl_end _ _ k h (by simpa using h1) (by simpa using h2) (by simpa using e)

theorem u8_ne {x y : UInt8} (h : ¬ x = y) : ((x.toNat : Int) != (y.toNat : Int)) = true := by
  simp only [bne_iff_ne, ne_eq]
  intro e
  exact h (UInt8.toNat_inj.1 (by omega))
theorem ret_int {k : IntKind} {a b : Int} (h : a = b) : Ending.returned (.int k a) = .returned (.int k b) := by rw [h]

set_option maxHeartbeats 400000 in
theorem cpl_any (a b : ByteArray) (w : World) (ha : a.size ≤ maxLen) (hb : b.size ≤ maxLen) :
    Calls Try.prog 8 #[.string a, .string b] w fun e w' => e = .returned (.int .i64 (cpl a.data.toList b.data.toList)) ∧ ∃ n, w' = w.drewN n := by
  unfold maxLen at ha hb
  go_enter Try.func8, Try.ntmps8
  go_wp2_with fail
  all_goals
    go_loopw [13] (fun i wr => ∃ k : Nat, i = .int .i64 k ∧ k ≤ a.size ∧ k ≤ b.size ∧ Agree a b k ∧ ∃ d, wr = w.drewN d) (fun i _ => a.size - (intOf i).toNat)
    case atStart => exact ⟨0, rfl, Nat.zero_le _, Nat.zero_le _, fun j hj => absurd hj (by omega), 0, rfl⟩
    case round =>
      obtain ⟨k, rfl, hka, hkb, hag, d, rfl⟩ := hrel
      have HA : Hid (Agree a b k) := hag
      clear hag
      by_cases hlt : k < a.size ∧ k < b.size
      · obtain ⟨l1, l2⟩ := hlt
        have i0 : (0 : Int) ≤ (k : Int) := by omega
        have i1 : (k : Int) < (a.size : Int) := by omega
        have i2 : (k : Int) < (b.size : Int) := by omega
        by_cases hc : a[k] = b[k]
        · have hc' : ((a[k].toNat : Int) != (b[k].toNat : Int)) = false := by simp [hc]
          have HG : Hid (Agree a b (k + 1)) := HA.out.step l1 l2 hc
          clear hc
          go_wp2_with fail
          go_quiet (fail)
          go_wp2_with fail
          go_roundw
          case rel => exact ⟨k + 1, by go_num, by omega, by omega, HG.out, _, rfl⟩
          case measure => simp [intOf]; omega
        · have hc' : ((a[k].toNat : Int) != (b[k].toNat : Int)) = true := u8_ne hc
          have HG : Hid (cpl a.data.toList b.data.toList = k) := HA.out.stop l1 l2 hc
          clear hc
          go_wp2_with fail
          go_quiet (fail)
          go_wp2_with fail
          go_ret
          exact ⟨ret_int (by rw [HG.out]), d + nq, by simp⟩
      · have HG : Hid (cpl a.data.toList b.data.toList = k) := HA.out.fin hka hkb (by omega)
        go_wp2_with fail
        go_ret
        exact ⟨ret_int (by rw [HG.out]; omega), _, rfl⟩

set_option maxHeartbeats 400000 in
theorem zz_any (a b : ByteArray) (w : World) (ha : a.size ≤ maxLen) (hb : b.size ≤ maxLen) :
    Calls Try.prog 6 #[.string a, .string b] w fun e w' => e = .returned (.int .i64 (cpl a.data.toList b.data.toList)) ∧ ∃ n, w' = w.drewN n := by
  go_enter Try.func6, Try.ntmps6
  go_wp2_with (go_at_call 8; refine (cpl_any a b _ ha hb).mono ?_; rintro e w' ⟨rfl, n, rfl⟩)
  go_ret
  exact ⟨rfl, _, rfl⟩

/-- The call answers a bool. -/
def IsBool (e : Ending) : Prop := ∃ b, e = .returned (.bool b)
set_option maxHeartbeats 400000 in
theorem bytes5_any (a b c : ByteArray) (w : World) : Calls Try.prog 5 #[.string a, .string b, .string c] w fun e w' => IsBool e ∧ w = w' := by
  go_enter Try.func5, Try.ntmps5
  go_wp2_with fail
  all_goals (go_ret; exact ⟨⟨_, rfl⟩, rfl⟩)
set_option maxHeartbeats 400000 in
theorem bytes7_any (a b : ByteArray) (k : Int) (w : World) : Calls Try.prog 7 #[.string a, .string b, .int .i64 k] w fun e w' => IsBool e ∧ w = w' := by
  go_enter Try.func7, Try.ntmps7
  go_wp2_with fail
  all_goals (go_ret; exact ⟨⟨_, rfl⟩, rfl⟩)
end Go.Proofs.Qxb6627697a
