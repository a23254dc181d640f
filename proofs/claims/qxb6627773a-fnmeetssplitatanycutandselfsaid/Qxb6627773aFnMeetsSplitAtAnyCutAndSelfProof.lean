/-
  FnMeetsSplitAtAnyCutAndSelfSaid, proved. The frame is the given shell's.
-/
import Derived.Test.Qxb6627773aRows
import Derived.Test.Qxb6627773aPlain
import Derived.WalkKit
import Derived.ProofKit
import Derived.OpenShut
import Derived.ShutString
import Derived.ChangeOld
import Derived.Below
namespace Go.Proofs.Qxb6627773a.fnMeetsSplitAtAnyCutAndSelf
open Go.ChangeShapes Go.WideShapes Go.ChangeAt Go.RowKit
open Go.ChangeMaps (open_string shut_string)
set_option linter.unusedVariables false

theorem own : ownKnob Try.prog.godebug = none := by kernel_rfl
theorem laidOut : laidOutB Try.prog = true := by kernel_rfl

/-- WHAT THE WALK IS TOLD OF A SLICE OF INTEGERS THAT CAME IN: it is nil; or it leads to a row of 'cap' cells, the numbers 'zs' (the first 'len' are its elements, the rest its spare room), each fitting its kind. -/
def IsRow (k : IntKind) (w : World) (a : Option Addr) (len cap : Nat) (zs : List Int) : Prop :=
  (a = none ∧ len = 0 ∧ cap = 0 ∧ zs = []) ∨
  ∃ x, a = some x ∧ len ≤ cap ∧ cap ≤ maxLen ∧ zs.length = cap ∧ (∀ i, i < zs.length → w.cell? (x.add i) = some (.int k (zs.getD i 0))) ∧ ∀ n ∈ zs, (Lit.int k n).wf = true

/-- What the walk uses of it: its elements, as a list. -/
theorem isRow_ints {w : World} {a : Option Addr} {len cap : Nat} {zs : List Int} (h : IsRow .u64 w a len cap zs) : ∃ xs : List Int, xs.length = len ∧ IntsAt w a xs ∧ Words xs ∧ len ≤ maxLen ∧ (a = none → len = 0 ∧ cap = 0) := by
  rcases h with ⟨rfl, rfl, rfl, rfl⟩ | ⟨x, rfl, h1, h2, h3, h4, h5⟩
  · exact ⟨[], rfl, fun k x hx => by simp at hx, fun x hx => by simp at hx, Nat.zero_le _, fun _ => ⟨rfl, rfl⟩⟩
  · refine ⟨zs.take len, by simp; omega, fun k y hy => ?_, fun y hy => ?_, by omega, fun h => by cases h⟩
    · have hk : k < zs.length := by have := (List.getElem?_eq_some_iff.1 hy).1; simp at this; omega
      obtain ⟨b, off, rfl, hc⟩ := ints_at h4 (by omega)
      have hc' := hc k hk
      have e : zs.getD k 0 = y := by
        rw [List.getElem?_take] at hy
        split at hy
        · simp [List.getD, hy]
        · cases hy
      rw [e] at hc'
      exact ⟨b, off, rfl, block_lt_of_cell hc', hc'⟩
    · have := bounds_u64 (h5 y (List.mem_of_mem_take hy))
      exact ⟨by omega, by omega⟩

theorem meets_val (ao ao' : Option Addr) (n cap cap' : Nat) (xs ys : List Int) (w : World) (v : Bool) (h1 : xs.length = n) (h2 : ys.length = n) (hn : n ≤ 9223372036854775807) (ho : IntsAt w ao xs) (ho' : IntsAt w ao' ys) (hv : meets xs ys = v) :
    Calls Try.prog 6 #[.slice ao n cap, .slice ao' n cap'] w fun e w' => e = .returned (.bool v) ∧ ∃ d, w' = w.drewN d := by
  subst hv; exact meets_any ao ao' n cap cap' xs ys w h1 h2 hn ho ho'

theorem quiet_of2 {P : Program} {f : FuncId} {args : Array Value} {w : World} {p n : Nat} {v : Value}
    (h : Calls P f args (w.drewN (p + n)) fun e w' => e = .returned v ∧ ∃ m, w' = (w.drewN (p + n)).drewN m) : Calls P f args (w.drewN (p + n)) fun e w'' => e = .returned v ∧ ∃ m, w'' = w.drewN (p + m) :=
  h.mono fun _ _ ⟨he, m, hm⟩ => ⟨he, n + m, by rw [hm, World.drewN_drewN, Nat.add_assoc]⟩
theorem intsAt_take {w : World} {ao : Option Addr} {xs : List Int} (h : IntsAt w ao xs) (k : Nat) : IntsAt w ao (xs.take k) := fun j x hx => by
  refine h j x ?_
  rw [List.getElem?_take] at hx
  split at hx
  · exact hx
  · cases hx
theorem intsAt_drop {w : World} {g : Nat} {xs : List Int} (h : IntsAt w (some ⟨g, 0, none⟩) xs) (k : Nat) : IntsAt w (some ⟨g, k, none⟩) (xs.drop k) := fun j x hx => by
  rw [List.getElem?_drop] at hx
  obtain ⟨b, off, e, h1, h2⟩ := h (k + j) x hx
  cases e
  exact ⟨g, k, rfl, h1, by simpa using h2⟩
theorem intsAt_none {w : World} {ao : Option Addr} {xs : List Int} {k : Nat} (h : xs.length ≤ k) : IntsAt w ao (xs.drop k) := fun j x hx => by
  rw [List.drop_eq_nil_of_le h] at hx
  simp at hx

theorem nonzero_val (ao : Option Addr) (n cap : Nat) (xs : List Int) (w : World) (v : Bool) (h1 : xs.length = n) (hn : n ≤ 9223372036854775807) (ho : IntsAt w ao xs) (hv : anyNZ xs = v) :
    Calls Try.prog 7 #[.slice ao n cap] w fun e w' => e = .returned (.bool v) ∧ w = w' := by
  subst hv; exact nonzero_any ao n cap xs w h1 hn ho

set_option maxHeartbeats 2000000 in
theorem walk (a0 : Option Addr) (len0 cap0 : Nat) (z0 : List Int) (a1 : Option Addr) (len1 cap1 : Nat) (z1 : List Int) (a2 : Int) (w : World) (w0 : IsRow .u64 w a0 len0 cap0 z0) (w1 : IsRow .u64 w a1 len1 cap1 z1) (w2 : (Lit.int .i64 a2).wf = true) :
    Calls Try.prog 3 #[.slice a0 len0 cap0, .slice a1 len1 cap1, .int .i64 a2] w fun e w' => e = .returned (.bool true) ∧ Below w.heap.size w w' := by
  obtain ⟨xs, hx, ho, hwx, hmx, hnx⟩ := isRow_ints w0
  obtain ⟨ys, hy, ho', hwy, hmy, hny⟩ := isRow_ints w1
  unfold maxLen at hmx hmy
  clear w0 w1
  have H : Hid (xs.length = len0 ∧ ys.length = len1) := ⟨hx, hy⟩
  have HW : Hid (Words xs ∧ Words ys) := ⟨hwx, hwy⟩
  have HN : Hid ((a0 = none → len0 = 0 ∧ cap0 = 0) ∧ (a1 = none → len1 = 0 ∧ cap1 = 0)) := ⟨hnx, hny⟩
  clear hx hy hwx hwy hnx hny w2
  go_enter Try.func3, Try.ntmps3
  go_wp2_with fail
  refine (bytes5_any _ _ _ _ _ _ _ _ (by omega) (by omega)).mono ?_
  rintro e w1 ⟨⟨b1, rfl⟩, rfl⟩
  cases b1 with
  | false =>
    go_wp2_with fail
    go_ret
    exact ⟨rfl, Below.refl _ _⟩
  | true =>
  by_cases h0 : 65536 < len0
  · go_wp2_with fail
    go_ret
    exact ⟨rfl, Below.refl _ _⟩
  by_cases h1 : 65536 < len1
  · go_wp2_with fail
    go_ret
    exact ⟨rfl, Below.refl _ _⟩
  by_cases h2 : ¬ len0 = len1
  · have h2' : ((len0 : Int) != (len1 : Int)) = true := by simp; omega
    go_wp2_with fail
    go_ret
    exact ⟨rfl, Below.refl _ _⟩
  obtain rfl : len1 = len0 := by omega
  by_cases h3 : a2 < 0
  · go_wp2_with fail
    go_ret
    exact ⟨rfl, Below.refl _ _⟩
  by_cases h4 : (len1 : Int) < a2
  · go_wp2_with fail
    go_ret
    exact ⟨rfl, Below.refl _ _⟩
  obtain ⟨k, rfl⟩ : ∃ k : Nat, a2 = k := ⟨a2.toNat, by omega⟩
  have hk : k ≤ len1 := by omega
  clear h1 h2 h3 h4 hmx hmy
  have q0 := fun w a c => run_neq_slice_nil_any (P := Try.prog) w 22 27 a len1 c 0 0 Try.underlying22
  have hmk := run_make_row' (P := Try.prog) 22 27 (.int .u64 0) 8 Try.underlying22 Try.info27 rfl .i64 .i64 len1 (by omega) (by omega)
  obtain ⟨b1, hb1⟩ : ∃ b, meets (xs.take k) (ys.take k) = b := ⟨_, rfl⟩
  obtain ⟨b2, hb2⟩ : ∃ b, meets (xs.drop k) (ys.drop k) = b := ⟨_, rfl⟩
  obtain ⟨sx, hsx⟩ : ∃ b, anyNZ xs = b := ⟨_, rfl⟩
  obtain ⟨sy, hsy⟩ : ∃ b, anyNZ ys = b := ⟨_, rfl⟩
  have hb0 : meets xs ys = (b1 || b2) := by rw [meets_cut xs ys k (by have := H.out; omega), hb1, hb2]
  have L1 : (xs.take k).length = k := by have := H.out; simp; omega
  have L2 : (ys.take k).length = k := by have := H.out; simp; omega
  have L3 : (xs.drop k).length = len1 - k := by have := H.out; simp; omega
  have L4 : (ys.drop k).length = len1 - k := by have := H.out; simp; omega
  have F : Hid ((meets (xs.take k) (ys.take k) = b1 ∧ meets (xs.drop k) (ys.drop k) = b2 ∧ meets xs ys = (b1 || b2)) ∧ (meets xs xs = sx ∧ anyNZ xs = sx ∧ meets ys ys = sy ∧ anyNZ ys = sy) ∧ ((xs.take k).length = k ∧ (ys.take k).length = k ∧ (xs.drop k).length = len1 - k ∧ (ys.drop k).length = len1 - k)) :=
    ⟨⟨hb1, hb2, hb0⟩, ⟨by rw [meets_self xs HW.out.1, hsx], hsx, by rw [meets_self ys HW.out.2, hsy], hsy⟩, L1, L2, L3, L4⟩
  clear hb1 hb2 hsx hsy hb0 L1 L2 L3 L4 HW
  cases a0 with
  | none =>
    cases a1 with
    | none =>
      have Z0 : Hid (len1 = 0 ∧ cap0 = 0) := HN.out.1 rfl
      have Z1 : Hid (len1 = 0 ∧ cap1 = 0) := HN.out.2 rfl
      clear HN
      have Ix := ho
      have Iy := ho'
      have Ba := Below.refl w.heap.size w
      clear ho ho'
      have Jx := Ix
      have Jy := Iy
      have Bc := Ba
      clear Ix Iy Ba
      go_wp2_with fail
      clear q0 hmk
      have i0 : (0 : Int) ≤ (k : Int) := by omega
      have i1 : (k : Int) ≤ (len1 : Int) := by omega
      obtain rfl : k = len1 := by have := Z0.out; omega
      have c0 : (k : Int) ≤ (cap0 : Int) := by have := Z0.out; omega
      have c1 : (k : Int) ≤ (cap1 : Int) := by have := Z1.out; omega
      refine (meets_val _ _ k _ _ xs ys _ (b1 || b2) H.out.1 H.out.2 (by omega) Jx Jy F.out.1.2.2).mono ?_
      rintro e W1 ⟨rfl, d1, hd⟩
      have Kx := intsAt_drewN Jx d1
      have Ky := intsAt_drewN Jy d1
      rw [← hd] at Kx Ky
      have Bd : Below w.heap.size w W1 := by rw [hd]; exact below_drewN Bc d1
      clear hd Jx Jy Bc
      go_wp2_with fail
      go_quiet ((go_at_call 6; exact Calls.quiet_of (meets_val _ _ k _ _ (xs.take k) (ys.take k) _ b1 F.out.2.2.1 F.out.2.2.2.1 (by omega) (intsAt_drewN (intsAt_take Kx k) _) (intsAt_drewN (intsAt_take Ky k) _) F.out.1.1)))
      go_wp2_with fail
      go_quiet ((go_at_call 6; exact quiet_of2 (meets_val _ _ (0) _ _ (xs.drop k) (ys.drop k) _ b2 (by have := F.out.2.2.2.2; omega) (by have := F.out.2.2.2.2; omega) (by omega) (intsAt_drewN (intsAt_none (by have := H.out; omega)) _) (intsAt_drewN (intsAt_none (by have := H.out; omega)) _) F.out.1.2.1)))
      go_wp2_with fail
      refine (meets_val _ _ k _ _ xs xs _ sx H.out.1 H.out.1 (by omega) (intsAt_drewN Kx _) (intsAt_drewN Kx _) F.out.2.1.1).mono ?_
      rintro e W2 ⟨rfl, d2, hd⟩
      have B2 : Below W1.heap.size W1 W2 := by rw [hd]; exact below_drewN (below_drewN (Below.refl _ _) _) _
      have Mx := intsAt_below Kx B2
      have My := intsAt_below Ky B2
      have Be := Bd.trans (B2.mono Bd.size)
      clear hd B2 Kx Ky Bd
      go_wp2_with fail
      refine (meets_val _ _ k _ _ ys ys _ sy H.out.2 H.out.2 (by omega) My My F.out.2.1.2.2.1).mono ?_
      rintro e W3 ⟨rfl, d3, hd⟩
      have B3 : Below W2.heap.size W2 W3 := by rw [hd]; exact below_drewN (Below.refl _ _) _
      have Nx := intsAt_below Mx B3
      have Ny := intsAt_below My B3
      have Bf := Be.trans (B3.mono Be.size)
      clear hd B3 Mx My Be
      go_wp2_with fail
      all_goals
        refine (nonzero_val _ k _ xs _ sx H.out.1 (by omega) Nx F.out.2.1.2.1).mono ?_
        rintro e W4 ⟨rfl, rfl⟩
        go_wp2_with fail
        refine (nonzero_val _ k _ ys _ sy H.out.2 (by omega) Ny F.out.2.1.2.2.2).mono ?_
        rintro e W4 ⟨rfl, rfl⟩
        go_wp2_with fail
        go_ret
        exact ⟨by simp, Bf⟩
    | some p1 =>
      have Z0 : Hid (len1 = 0 ∧ cap0 = 0) := HN.out.1 rfl
      clear HN
      have Ix := ho
      have Iy := ho'
      have Ba := Below.refl w.heap.size w
      clear ho ho'
      go_wp2_with (first | (refine copy_stop rfl (.tmp 52) (.tmp 53) rfl ?_) | fail)
      refine ⟨?_⟩
      refine copy_law rfl (.tmp 52) (.tmp 53) rfl w len1 cap1 (some p1) ys H.out.2 rfl rfl rfl Iy ?_
      intro wb vb Jy Bb
      have Jx := intsAt_below Ix Bb
      have Bc := Ba.trans (Bb.mono Ba.size)
      clear Ix Iy Ba Bb
      go_wp2_with fail
      clear q0 hmk
      have i0 : (0 : Int) ≤ (k : Int) := by omega
      have i1 : (k : Int) ≤ (len1 : Int) := by omega
      obtain rfl : k = len1 := by have := Z0.out; omega
      have c0 : (k : Int) ≤ (cap0 : Int) := by have := Z0.out; omega
      refine (meets_val _ _ k _ _ xs ys _ (b1 || b2) H.out.1 H.out.2 (by omega) Jx Jy F.out.1.2.2).mono ?_
      rintro e W1 ⟨rfl, d1, hd⟩
      have Kx := intsAt_drewN Jx d1
      have Ky := intsAt_drewN Jy d1
      rw [← hd] at Kx Ky
      have Bd : Below w.heap.size w W1 := by rw [hd]; exact below_drewN Bc d1
      clear hd Jx Jy Bc
      go_wp2_with fail
      go_quiet ((go_at_call 6; exact Calls.quiet_of (meets_val _ _ k _ _ (xs.take k) (ys.take k) _ b1 F.out.2.2.1 F.out.2.2.2.1 (by omega) (intsAt_drewN (intsAt_take Kx k) _) (intsAt_drewN (intsAt_take Ky k) _) F.out.1.1)))
      go_wp2_with fail
      go_quiet ((go_at_call 6; exact quiet_of2 (meets_val _ _ (0) _ _ (xs.drop k) (ys.drop k) _ b2 (by have := F.out.2.2.2.2; omega) (by have := F.out.2.2.2.2; omega) (by omega) (intsAt_drewN (intsAt_none (by have := H.out; omega)) _) (intsAt_drewN (intsAt_none (by have := H.out; omega)) _) F.out.1.2.1)))
      go_wp2_with fail
      refine (meets_val _ _ k _ _ xs xs _ sx H.out.1 H.out.1 (by omega) (intsAt_drewN Kx _) (intsAt_drewN Kx _) F.out.2.1.1).mono ?_
      rintro e W2 ⟨rfl, d2, hd⟩
      have B2 : Below W1.heap.size W1 W2 := by rw [hd]; exact below_drewN (below_drewN (Below.refl _ _) _) _
      have Mx := intsAt_below Kx B2
      have My := intsAt_below Ky B2
      have Be := Bd.trans (B2.mono Bd.size)
      clear hd B2 Kx Ky Bd
      go_wp2_with fail
      refine (meets_val _ _ k _ _ ys ys _ sy H.out.2 H.out.2 (by omega) My My F.out.2.1.2.2.1).mono ?_
      rintro e W3 ⟨rfl, d3, hd⟩
      have B3 : Below W2.heap.size W2 W3 := by rw [hd]; exact below_drewN (Below.refl _ _) _
      have Nx := intsAt_below Mx B3
      have Ny := intsAt_below My B3
      have Bf := Be.trans (B3.mono Be.size)
      clear hd B3 Mx My Be
      go_wp2_with fail
      all_goals
        refine (nonzero_val _ k _ xs _ sx H.out.1 (by omega) Nx F.out.2.1.2.1).mono ?_
        rintro e W4 ⟨rfl, rfl⟩
        go_wp2_with fail
        refine (nonzero_val _ k _ ys _ sy H.out.2 (by omega) Ny F.out.2.1.2.2.2).mono ?_
        rintro e W4 ⟨rfl, rfl⟩
        go_wp2_with fail
        go_ret
        exact ⟨by simp, Bf⟩
  | some p0 =>
    cases a1 with
    | none =>
      have Z1 : Hid (len1 = 0 ∧ cap1 = 0) := HN.out.2 rfl
      clear HN
      go_wp2_with (first | (refine copy_stop rfl (.tmp 43) (.tmp 44) rfl ?_) | fail)
      refine ⟨?_⟩
      refine copy_law rfl (.tmp 43) (.tmp 44) rfl w len1 cap0 (some p0) xs H.out.1 rfl rfl rfl ho ?_
      intro wa va Ix Ba
      have Iy := intsAt_below ho' Ba
      clear ho ho'
      have Jx := Ix
      have Jy := Iy
      have Bc := Ba
      clear Ix Iy Ba
      go_wp2_with fail
      clear q0 hmk
      have i0 : (0 : Int) ≤ (k : Int) := by omega
      have i1 : (k : Int) ≤ (len1 : Int) := by omega
      obtain rfl : k = len1 := by have := Z1.out; omega
      have c1 : (k : Int) ≤ (cap1 : Int) := by have := Z1.out; omega
      refine (meets_val _ _ k _ _ xs ys _ (b1 || b2) H.out.1 H.out.2 (by omega) Jx Jy F.out.1.2.2).mono ?_
      rintro e W1 ⟨rfl, d1, hd⟩
      have Kx := intsAt_drewN Jx d1
      have Ky := intsAt_drewN Jy d1
      rw [← hd] at Kx Ky
      have Bd : Below w.heap.size w W1 := by rw [hd]; exact below_drewN Bc d1
      clear hd Jx Jy Bc
      go_wp2_with fail
      go_quiet ((go_at_call 6; exact Calls.quiet_of (meets_val _ _ k _ _ (xs.take k) (ys.take k) _ b1 F.out.2.2.1 F.out.2.2.2.1 (by omega) (intsAt_drewN (intsAt_take Kx k) _) (intsAt_drewN (intsAt_take Ky k) _) F.out.1.1)))
      go_wp2_with fail
      go_quiet ((go_at_call 6; exact quiet_of2 (meets_val _ _ (0) _ _ (xs.drop k) (ys.drop k) _ b2 (by have := F.out.2.2.2.2; omega) (by have := F.out.2.2.2.2; omega) (by omega) (intsAt_drewN (intsAt_none (by have := H.out; omega)) _) (intsAt_drewN (intsAt_none (by have := H.out; omega)) _) F.out.1.2.1)))
      go_wp2_with fail
      refine (meets_val _ _ k _ _ xs xs _ sx H.out.1 H.out.1 (by omega) (intsAt_drewN Kx _) (intsAt_drewN Kx _) F.out.2.1.1).mono ?_
      rintro e W2 ⟨rfl, d2, hd⟩
      have B2 : Below W1.heap.size W1 W2 := by rw [hd]; exact below_drewN (below_drewN (Below.refl _ _) _) _
      have Mx := intsAt_below Kx B2
      have My := intsAt_below Ky B2
      have Be := Bd.trans (B2.mono Bd.size)
      clear hd B2 Kx Ky Bd
      go_wp2_with fail
      refine (meets_val _ _ k _ _ ys ys _ sy H.out.2 H.out.2 (by omega) My My F.out.2.1.2.2.1).mono ?_
      rintro e W3 ⟨rfl, d3, hd⟩
      have B3 : Below W2.heap.size W2 W3 := by rw [hd]; exact below_drewN (Below.refl _ _) _
      have Nx := intsAt_below Mx B3
      have Ny := intsAt_below My B3
      have Bf := Be.trans (B3.mono Be.size)
      clear hd B3 Mx My Be
      go_wp2_with fail
      all_goals
        refine (nonzero_val _ k _ xs _ sx H.out.1 (by omega) Nx F.out.2.1.2.1).mono ?_
        rintro e W4 ⟨rfl, rfl⟩
        go_wp2_with fail
        refine (nonzero_val _ k _ ys _ sy H.out.2 (by omega) Ny F.out.2.1.2.2.2).mono ?_
        rintro e W4 ⟨rfl, rfl⟩
        go_wp2_with fail
        go_ret
        exact ⟨by simp, Bf⟩
    | some p1 =>
      clear HN
      go_wp2_with (first | (refine copy_stop rfl (.tmp 43) (.tmp 44) rfl ?_) | fail)
      refine ⟨?_⟩
      refine copy_law rfl (.tmp 43) (.tmp 44) rfl w len1 cap0 (some p0) xs H.out.1 rfl rfl rfl ho ?_
      intro wa va Ix Ba
      have Iy := intsAt_below ho' Ba
      clear ho ho'
      go_wp2_with (first | (refine copy_stop rfl (.tmp 52) (.tmp 53) rfl ?_) | fail)
      refine ⟨?_⟩
      refine copy_law rfl (.tmp 52) (.tmp 53) rfl wa len1 cap1 (some p1) ys H.out.2 rfl rfl rfl Iy ?_
      intro wb vb Jy Bb
      have Jx := intsAt_below Ix Bb
      have Bc := Ba.trans (Bb.mono Ba.size)
      clear Ix Iy Ba Bb
      go_wp2_with fail
      clear q0 hmk
      have i0 : (0 : Int) ≤ (k : Int) := by omega
      have i1 : (k : Int) ≤ (len1 : Int) := by omega
      by_cases hkn : k = len1
      · subst hkn
        refine (meets_val _ _ k _ _ xs ys _ (b1 || b2) H.out.1 H.out.2 (by omega) Jx Jy F.out.1.2.2).mono ?_
        rintro e W1 ⟨rfl, d1, hd⟩
        have Kx := intsAt_drewN Jx d1
        have Ky := intsAt_drewN Jy d1
        rw [← hd] at Kx Ky
        have Bd : Below w.heap.size w W1 := by rw [hd]; exact below_drewN Bc d1
        clear hd Jx Jy Bc
        go_wp2_with fail
        go_quiet ((go_at_call 6; exact Calls.quiet_of (meets_val _ _ k _ _ (xs.take k) (ys.take k) _ b1 F.out.2.2.1 F.out.2.2.2.1 (by omega) (intsAt_drewN (intsAt_take Kx k) _) (intsAt_drewN (intsAt_take Ky k) _) F.out.1.1)))
        go_wp2_with fail
        go_quiet ((go_at_call 6; exact quiet_of2 (meets_val _ _ (0) _ _ (xs.drop k) (ys.drop k) _ b2 (by have := F.out.2.2.2.2; omega) (by have := F.out.2.2.2.2; omega) (by omega) (intsAt_drewN (intsAt_none (by have := H.out; omega)) _) (intsAt_drewN (intsAt_none (by have := H.out; omega)) _) F.out.1.2.1)))
        go_wp2_with fail
        refine (meets_val _ _ k _ _ xs xs _ sx H.out.1 H.out.1 (by omega) (intsAt_drewN Kx _) (intsAt_drewN Kx _) F.out.2.1.1).mono ?_
        rintro e W2 ⟨rfl, d2, hd⟩
        have B2 : Below W1.heap.size W1 W2 := by rw [hd]; exact below_drewN (below_drewN (Below.refl _ _) _) _
        have Mx := intsAt_below Kx B2
        have My := intsAt_below Ky B2
        have Be := Bd.trans (B2.mono Bd.size)
        clear hd B2 Kx Ky Bd
        go_wp2_with fail
        refine (meets_val _ _ k _ _ ys ys _ sy H.out.2 H.out.2 (by omega) My My F.out.2.1.2.2.1).mono ?_
        rintro e W3 ⟨rfl, d3, hd⟩
        have B3 : Below W2.heap.size W2 W3 := by rw [hd]; exact below_drewN (Below.refl _ _) _
        have Nx := intsAt_below Mx B3
        have Ny := intsAt_below My B3
        have Bf := Be.trans (B3.mono Be.size)
        clear hd B3 Mx My Be
        go_wp2_with fail
        all_goals
          refine (nonzero_val _ k _ xs _ sx H.out.1 (by omega) Nx F.out.2.1.2.1).mono ?_
          rintro e W4 ⟨rfl, rfl⟩
          go_wp2_with fail
          refine (nonzero_val _ k _ ys _ sy H.out.2 (by omega) Ny F.out.2.1.2.2.2).mono ?_
          rintro e W4 ⟨rfl, rfl⟩
          go_wp2_with fail
          go_ret
          exact ⟨by simp, Bf⟩
      · have hkn' : ¬ len1 = k := fun e => hkn e.symm
        have hkl : k < len1 := by omega
        refine (meets_val _ _ len1 _ _ xs ys _ (b1 || b2) H.out.1 H.out.2 (by omega) Jx Jy F.out.1.2.2).mono ?_
        rintro e W1 ⟨rfl, d1, hd⟩
        have Kx := intsAt_drewN Jx d1
        have Ky := intsAt_drewN Jy d1
        rw [← hd] at Kx Ky
        have Bd : Below w.heap.size w W1 := by rw [hd]; exact below_drewN Bc d1
        clear hd Jx Jy Bc
        go_wp2_with fail
        go_quiet ((go_at_call 6; exact Calls.quiet_of (meets_val _ _ k _ _ (xs.take k) (ys.take k) _ b1 F.out.2.2.1 F.out.2.2.2.1 (by omega) (intsAt_drewN (intsAt_take Kx k) _) (intsAt_drewN (intsAt_take Ky k) _) F.out.1.1)))
        go_wp2_with fail
        go_quiet ((go_at_call 6; exact quiet_of2 (meets_val _ _ (len1 - k) _ _ (xs.drop k) (ys.drop k) _ b2 (by have := F.out.2.2.2.2; omega) (by have := F.out.2.2.2.2; omega) (by omega) (intsAt_drewN (intsAt_drop Kx k) _) (intsAt_drewN (intsAt_drop Ky k) _) F.out.1.2.1)))
        go_wp2_with fail
        refine (meets_val _ _ len1 _ _ xs xs _ sx H.out.1 H.out.1 (by omega) (intsAt_drewN Kx _) (intsAt_drewN Kx _) F.out.2.1.1).mono ?_
        rintro e W2 ⟨rfl, d2, hd⟩
        have B2 : Below W1.heap.size W1 W2 := by rw [hd]; exact below_drewN (below_drewN (Below.refl _ _) _) _
        have Mx := intsAt_below Kx B2
        have My := intsAt_below Ky B2
        have Be := Bd.trans (B2.mono Bd.size)
        clear hd B2 Kx Ky Bd
        go_wp2_with fail
        refine (meets_val _ _ len1 _ _ ys ys _ sy H.out.2 H.out.2 (by omega) My My F.out.2.1.2.2.1).mono ?_
        rintro e W3 ⟨rfl, d3, hd⟩
        have B3 : Below W2.heap.size W2 W3 := by rw [hd]; exact below_drewN (Below.refl _ _) _
        have Nx := intsAt_below Mx B3
        have Ny := intsAt_below My B3
        have Bf := Be.trans (B3.mono Be.size)
        clear hd B3 Mx My Be
        go_wp2_with fail
        all_goals
          refine (nonzero_val _ len1 _ xs _ sx H.out.1 (by omega) Nx F.out.2.1.2.1).mono ?_
          rintro e W4 ⟨rfl, rfl⟩
          go_wp2_with fail
          refine (nonzero_val _ len1 _ ys _ sy H.out.2 (by omega) Ny F.out.2.1.2.2.2).mono ?_
          rintro e W4 ⟨rfl, rfl⟩
          go_wp2_with fail
          go_ret
          exact ⟨by simp, Bf⟩

/-! ### THE ROW's STEP: WRITTEN OUT: LEAVE IT -/
set_option maxRecDepth 100000 in
theorem lifted (os : Os) (started : os.Started) (H : Type) (enc : TypeId × Value → H) :
    ReturnsInHanded {} Try.checked os 3 .any (Rows.fnMeetsSplitAtAnyCutAndSelfSpec.pre6 enc Try.prog Try.f3 Rows.fnMeetsSplitAtAnyCutAndSelfRow.domain false) (Rows.fnMeetsSplitAtAnyCutAndSelfSpec.post enc Try.prog Try.f3 false true false false) := by
  refine returnsInHanded_of_change (C := Try.checked) own started (by kernel_rfl) Try.func3
    (ChangeSpec.witness6 (enc := enc) (C := Try.checked) false ⟨#[], #[.slice none 0 0, .slice none 0 0, .int .i64 0], []⟩ 8 (by kernel_rfl) (by kernel_rfl) (by kernel_rfl) (by kernel_rfl)) ?_
  intro W base args ds gs before hval0 hW hcnd _
  have hval : ∀ (j : Nat) t v, Try.f3.params[j]? = some t → args[j]? = some v → Value.okWide Try.prog W .any base t v := hval0
  have hW' := hW
  obtain ⟨p, q, hA0, hV, rfl, hfz, hnd⟩ := hW
  have hA : DataW.TrodAll enc Try.prog W 0 (fun _ => true) true Try.f3.params.toList args.toList ds p := hA0
  rw [Try.params3] at hA hval
  obtain ⟨v0, vs0, d0, ds0, p0, q0, hargs, rfl, rfl, h0, r0⟩ := trodAll_cons hA
  obtain ⟨v1, vs1, d1, ds1, p1, q1, rfl, rfl, rfl, h1, r1⟩ := trodAll_cons r0
  obtain ⟨v2, vs2, d2, ds2, p2, q2, rfl, rfl, rfl, h2, r2⟩ := trodAll_cons r1
  obtain ⟨rfl, rfl, rfl⟩ := trodAll_nil r2
  obtain rfl : args = #[v0, v1, v2] := by cases args; simp_all
  obtain ⟨rfl, rfl⟩ := trodVars_none hV
  obtain ⟨a0, len0, cap0, rfl⟩ := okWide_slice Try.underlying22 (hval 0 22 v0 rfl rfl)
  have k0 := h0
  have lt0 : ∀ x ∈ p0, x.block < W.heap.size := by obtain ⟨m, hm⟩ := k0; exact DataW.trod_lt m _ _ _ hm
  obtain ⟨z0, w0⟩ : ∃ zs, IsRow .u64 W a0 len0 cap0 zs := by
    obtain ⟨fuel, hf⟩ := h0
    rcases open_ints Try.underlying22 Try.underlying27 (by kernel_rfl) hf with ⟨hcs, _⟩ | ⟨x, l, c, zs, hcs, _, hl, hm, hz, _, hcell, hwz⟩
    · simp [Value.cells] at hcs
      obtain ⟨rfl, rfl, rfl⟩ := hcs
      exact ⟨[], .inl ⟨rfl, rfl, rfl, rfl⟩⟩
    · simp [Value.cells] at hcs
      obtain ⟨rfl, rfl, rfl⟩ := hcs
      exact ⟨zs, .inr ⟨_, rfl, hl, hm, by simpa using hz, hcell, hwz⟩⟩
  obtain ⟨a1, len1, cap1, rfl⟩ := okWide_slice Try.underlying22 (hval 1 22 v1 rfl rfl)
  have k1 := h1
  have lt1 : ∀ x ∈ p1, x.block < W.heap.size := by obtain ⟨m, hm⟩ := k1; exact DataW.trod_lt m _ _ _ hm
  obtain ⟨z1, w1⟩ : ∃ zs, IsRow .u64 W a1 len1 cap1 zs := by
    obtain ⟨fuel, hf⟩ := h1
    rcases open_ints Try.underlying22 Try.underlying27 (by kernel_rfl) hf with ⟨hcs, _⟩ | ⟨x, l, c, zs, hcs, _, hl, hm, hz, _, hcell, hwz⟩
    · simp [Value.cells] at hcs
      obtain ⟨rfl, rfl, rfl⟩ := hcs
      exact ⟨[], .inl ⟨rfl, rfl, rfl, rfl⟩⟩
    · simp [Value.cells] at hcs
      obtain ⟨rfl, rfl, rfl⟩ := hcs
      exact ⟨zs, .inr ⟨_, rfl, hl, hm, by simpa using hz, hcell, hwz⟩⟩
  obtain ⟨a2, rfl, rfl, rfl, w2⟩ := open_int Try.underlying3 (hval 2 3 v2 rfl rfl) h2
  clear hA0 hval0
  refine (walk a0 len0 cap0 z0 a1 len1 cap1 z1 a2 W w0 w1 w2).mono fun e W' ⟨he, bel⟩ => ?_
  subst he
  exact ⟨_, rfl, _, _, _, [], _, [], hW', trodAll_mk1 (shut_bool Try.underlying4 _), (trodAll_cons_mk (Below.trod laidOut (by kernel_rfl) (of_decide_eq_true (by kernel_rfl)) k0 bel lt0) (trodAll_cons_mk (Below.trod laidOut (by kernel_rfl) (of_decide_eq_true (by kernel_rfl)) k1 bel lt1) (trodAll_cons_mk (shut_int Try.underlying3 w2) trodAll_mk0))), rfl, bel.frame _, fun h => by cases h⟩

theorem over : Rows.fnMeetsSplitAtAnyCutAndSelfRow.holds Try.pinned (OpenSpec.ofChange Rows.fnMeetsSplitAtAnyCutAndSelfSpec) :=
  OpenClaim.holds_of_wide 3 Try.f3 rfl rfl rfl rfl rfl rfl rfl ⟨rfl, rfl, rfl, rfl, rfl⟩ rfl rfl rfl rfl rfl (by kernel_rfl) Try.func3 (by kernel_rfl)
    (of_decide_eq_true (by kernel_rfl)) (by unfold Func.isWrapper; first | (rw [if_pos (by decide +kernel)]; kernel_rfl) | (rw [if_neg (by decide +kernel)]; exact ⟨rfl, rfl⟩))
    (fun os started H enc _ => lifted os started H enc)

/-- ████ THE STATEMENT ████ -/
theorem proved : Rows.FnMeetsSplitAtAnyCutAndSelfSaid := over
#print axioms proved
end Go.Proofs.Qxb6627773a.fnMeetsSplitAtAnyCutAndSelf
