/-
  FnCommonPrefixLenTruncateSaid, proved. The frame is the given shell's.
-/
import Derived.Test.Qxb6627697aRows
import Derived.Test.Qxb6627697aCpl
import Derived.WalkKit
import Derived.ProofKit
import Derived.OpenShut
import Derived.ShutString
namespace Go.Proofs.Qxb6627697a.fnCommonPrefixLenTruncate
open Go.ChangeShapes Go.WideShapes Go.ChangeAt Go.RowKit
open Go.ChangeMaps (open_string shut_string)
set_option linter.unusedVariables false      -- a walk need not use every 'w<i>' (that an integer argument fits its kind)

theorem own : ownKnob Try.prog.godebug = none := by kernel_rfl

theorem grown_drewN {W w : World} (h : Grown W w) : ∀ n, Grown W (w.drewN n)
  | 0 => h
  | n + 1 => Grown.drew (grown_drewN h n)

theorem zz_val (a b : ByteArray) (w : World) (v : Nat) (ha : a.size ≤ maxLen) (hb : b.size ≤ maxLen) (hv : cpl a.data.toList b.data.toList = v) :
    Calls Try.prog 6 #[.string a, .string b] w fun e w' => e = .returned (.int .i64 v) ∧ ∃ n, w' = w.drewN n := by
  subst hv; exact zz_any a b w ha hb

/-- The cut string's bytes. -/
theorem extract_toList (a : ByteArray) (k : Nat) : (a.extract 0 k).data.toList = a.data.toList.take k := by simp
theorem extract_size (a : ByteArray) (k : Nat) (h : k ≤ a.size) : (a.extract 0 k).size = k := by simp; omega

set_option maxHeartbeats 1000000 in
theorem walk (a0 : ByteArray) (a1 : ByteArray) (a2 : Int) (w0 : a0.size ≤ maxLen) (w1 : a1.size ≤ maxLen) (w2 : (Lit.int .i64 a2).wf = true) (w : World) :
    Calls Try.prog 4 #[.string a0, .string a1, .int .i64 a2] w fun e w' => e = .returned (.bool true) ∧ Grown w w' := by
  unfold maxLen at w0 w1
  go_enter Try.func4, Try.ntmps4
  go_wp2_with fail
  refine (bytes7_any _ _ _ _).mono ?_
  rintro e w1 ⟨⟨b1, rfl⟩, rfl⟩
  cases b1 with
  | false =>
    go_wp2_with fail
    go_ret
    exact ⟨rfl, Grown.refl _⟩
  | true =>
  by_cases h0 : 1048576 < a0.size + a1.size
  · go_wp2_with fail
    all_goals (go_ret; exact ⟨rfl, Grown.refl _⟩)
  by_cases h1 : a2 < 0
  · go_wp2_with fail
    all_goals (go_ret; exact ⟨rfl, Grown.refl _⟩)
  by_cases h2 : (a0.size : Int) < a2
  · go_wp2_with fail
    all_goals (go_ret; exact ⟨rfl, Grown.refl _⟩)
  obtain ⟨k, rfl⟩ : ∃ k : Nat, a2 = k := ⟨a2.toNat, by omega⟩
  have hk : k ≤ a0.size := by omega
  obtain ⟨r, hr⟩ : ∃ r, cpl a0.data.toList a1.data.toList = r := ⟨_, rfl⟩
  have e1 : cpl (a0.extract 0 k).data.toList a1.data.toList = min k r := by rw [extract_toList, cpl_take, hr]
  have e2 : cpl (a0.extract 0 k).data.toList a0.data.toList = k := by rw [extract_toList, cpl_take_self _ _ (by simpa using hk)]
  have hrl : r ≤ a0.size := by rw [← hr]; exact Nat.le_trans (cpl_le_left _ _) (by simp)
  have E : Hid ((cpl a0.data.toList a1.data.toList = r) ∧ (cpl (a0.extract 0 k).data.toList a1.data.toList = min k r) ∧ (cpl (a0.extract 0 k).data.toList a0.data.toList = k) ∧ (a0.extract 0 k).size = k) := ⟨hr, e1, e2, extract_size a0 k hk⟩
  clear hr e1 e2 h1 h2
  have m1 : (a0.extract 0 k).size ≤ maxLen := by rw [E.out.2.2.2]; unfold maxLen; omega
  have M : Hid ((a0.extract 0 k).size ≤ maxLen) := m1
  clear m1
  go_wp2_with fail
  refine (zz_val a0 a1 _ r (by unfold maxLen; omega) (by unfold maxLen; omega) E.out.1).mono ?_
  rintro e w1 ⟨rfl, n1, rfl⟩
  by_cases hkr : k < r
  · have e1 : min k r = k := by omega
    go_wp2_with fail
    refine (zz_val (a0.extract 0 k) a1 _ k M.out (by unfold maxLen; omega) (E.out.2.1.trans e1)).mono ?_
    clear e1
    rintro e w1 ⟨rfl, n2, rfl⟩
    go_wp2_with fail
    refine (zz_val (a0.extract 0 k) a0 _ k M.out (by unfold maxLen; omega) E.out.2.2.1).mono ?_
    rintro e w1 ⟨rfl, n3, rfl⟩
    go_wp2_with fail
    go_ret
    exact ⟨rfl, by repeat (first | exact Grown.refl _ | apply grown_drewN)⟩
  · have e1 : min k r = r := by omega
    go_wp2_with fail
    refine (zz_val (a0.extract 0 k) a1 _ r M.out (by unfold maxLen; omega) (E.out.2.1.trans e1)).mono ?_
    clear e1
    rintro e w1 ⟨rfl, n2, rfl⟩
    go_wp2_with fail
    refine (zz_val (a0.extract 0 k) a0 _ k M.out (by unfold maxLen; omega) E.out.2.2.1).mono ?_
    rintro e w1 ⟨rfl, n3, rfl⟩
    go_wp2_with fail
    go_ret
    exact ⟨rfl, by repeat (first | exact Grown.refl _ | apply grown_drewN)⟩

/-! ### THE ROW's STEP: WRITTEN OUT: LEAVE IT -/
set_option maxRecDepth 100000 in
theorem lifted (os : Os) (started : os.Started) (H : Type) (enc : TypeId × Value → H) :
    ReturnsInHanded {} Try.checked os 4 .any (Rows.fnCommonPrefixLenTruncateSpec.pre6 enc Try.prog Try.f4 Rows.fnCommonPrefixLenTruncateRow.domain false) (Rows.fnCommonPrefixLenTruncateSpec.post enc Try.prog Try.f4 false true false false) := by
  refine returnsInHanded_of_change (C := Try.checked) own started (by kernel_rfl) Try.func4
    (ChangeSpec.witness6 (enc := enc) (C := Try.checked) false ⟨#[], #[.string ByteArray.empty, .string ByteArray.empty, .int .i64 0], []⟩ 8 (by kernel_rfl) (by kernel_rfl) (by kernel_rfl) (by kernel_rfl)) ?_
  intro W base args ds gs before hval0 hW hcnd _
  have hval : ∀ (j : Nat) t v, Try.f4.params[j]? = some t → args[j]? = some v → Value.okWide Try.prog W .any base t v := hval0
  have hW' := hW
  obtain ⟨p, q, hA0, hV, rfl, hfz, hnd⟩ := hW
  have hA : DataW.TrodAll enc Try.prog W 0 (fun _ => true) true Try.f4.params.toList args.toList ds p := hA0
  rw [Try.params4] at hA hval
  obtain ⟨v0, vs0, d0, ds0, p0, q0, hargs, rfl, rfl, h0, r0⟩ := trodAll_cons hA
  obtain ⟨v1, vs1, d1, ds1, p1, q1, rfl, rfl, rfl, h1, r1⟩ := trodAll_cons r0
  obtain ⟨v2, vs2, d2, ds2, p2, q2, rfl, rfl, rfl, h2, r2⟩ := trodAll_cons r1
  obtain ⟨rfl, rfl, rfl⟩ := trodAll_nil r2
  obtain rfl : args = #[v0, v1, v2] := by cases args; simp_all
  obtain ⟨rfl, rfl⟩ := trodVars_none hV
  obtain ⟨a0, rfl, rfl, rfl, w0⟩ := open_string Try.underlying9 (hval 0 9 v0 rfl rfl) h0
  obtain ⟨a1, rfl, rfl, rfl, w1⟩ := open_string Try.underlying9 (hval 1 9 v1 rfl rfl) h1
  obtain ⟨a2, rfl, rfl, rfl, w2⟩ := open_int Try.underlying3 (hval 2 3 v2 rfl rfl) h2
  clear hA0 hval0
  simp only [List.append_nil] at hW'
  refine (walk a0 a1 a2 w0 w1 w2 W).mono fun e W' ⟨he, hg⟩ => ?_
  subst he
  exact ⟨_, rfl, post_of_same (pa := []) (pv := []) hW' (fun _ _ _ => (trodAll_cons_mk (shut_bool Try.underlying4 _) trodAll_mk0)) (fun sp _ => (trodAll_cons_mk (shut_string Try.underlying9 w0) (trodAll_cons_mk (shut_string Try.underlying9 w1) (trodAll_cons_mk (shut_int Try.underlying3 w2) trodAll_mk0)))) (fun _ _ => rfl) rfl
    (hg.frame _) hg.2.1 (ok_one (by kernel_rfl) rfl (okWide_bool_mk Try.underlying4 _))⟩

theorem over : Rows.fnCommonPrefixLenTruncateRow.holds Try.pinned (OpenSpec.ofChange Rows.fnCommonPrefixLenTruncateSpec) :=
  OpenClaim.holds_of_wide 4 Try.f4 rfl rfl rfl rfl rfl rfl rfl ⟨rfl, rfl, rfl, rfl, rfl⟩ rfl rfl rfl rfl rfl (by kernel_rfl) Try.func4 (by kernel_rfl)
    (of_decide_eq_true (by kernel_rfl)) (by unfold Func.isWrapper; first | (rw [if_pos (by decide +kernel)]; kernel_rfl) | (rw [if_neg (by decide +kernel)]; exact ⟨rfl, rfl⟩))
    (fun os started H enc _ => lifted os started H enc)

/-- ████ THE STATEMENT ████ -/
theorem proved : Rows.FnCommonPrefixLenTruncateSaid :=
  over
#print axioms proved
end Go.Proofs.Qxb6627697a.fnCommonPrefixLenTruncate
