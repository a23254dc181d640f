/-
  FnMeanIsTruncatedQuotientAndAppendingItKeepsItSaid, proved. The frame is the given shell's.
-/
import Derived.Test.Qxb6627730aRows
import Derived.Test.Qxb6627730aPlain
import Derived.WalkKit
import Derived.ProofKit
import Derived.OpenShut
import Derived.ShutString
import Derived.ChangeOld
import Derived.Below
namespace Go.Proofs.Qxb6627730a.fnMeanIsTruncatedQuotientAndAppendingItKeepsIt
open Go.ChangeShapes Go.WideShapes Go.ChangeAt Go.RowKit
open Go.ChangeMaps (open_string shut_string)
set_option linter.unusedVariables false

theorem own : ownKnob Try.prog.godebug = none := by kernel_rfl
theorem laidOut : laidOutB Try.prog = true := by kernel_rfl

/-- WHAT THE WALK IS TOLD OF A SLICE OF INTEGERS THAT CAME IN: it is nil; or it leads to a row of 'cap' cells, the numbers 'zs' (the first 'len' are its elements, the rest its spare room), each fitting its kind. -/
def IsRow (k : IntKind) (w : World) (a : Option Addr) (len cap : Nat) (zs : List Int) : Prop :=
  (a = none ∧ len = 0 ∧ cap = 0 ∧ zs = []) ∨
  ∃ x, a = some x ∧ len ≤ cap ∧ cap ≤ maxLen ∧ zs.length = cap ∧ (∀ i, i < zs.length → w.cell? (x.add i) = some (.int k (zs.getD i 0))) ∧ ∀ n ∈ zs, (Lit.int k n).wf = true

/-- What the walk uses of it: its elements, as a list. -/
theorem isRow_ints {w : World} {a : Option Addr} {len cap : Nat} {zs : List Int} (h : IsRow .i64 w a len cap zs) : ∃ xs : List Int, xs.length = len ∧ IntsAt w a xs ∧ (∀ (j : Nat) (x : Int), xs[j]? = some x → -9223372036854775808 ≤ x ∧ x ≤ 9223372036854775807) ∧ len ≤ maxLen := by
  rcases h with ⟨rfl, rfl, rfl, rfl⟩ | ⟨x, rfl, h1, h2, h3, h4, h5⟩
  · exact ⟨[], rfl, fun k x hx => by simp at hx, fun j x hx => by simp at hx, Nat.zero_le _⟩
  · refine ⟨zs.take len, by simp; omega, fun k y hy => ?_, fun j y hy => ?_, by omega⟩
    · have hk : k < zs.length := by have := (List.getElem?_eq_some_iff.1 hy).1; simp at this; omega
      obtain ⟨b, off, rfl, hc⟩ := ints_at h4 (by omega)
      have hc' := hc k hk
      have e : zs.getD k 0 = y := by
        rw [List.getElem?_take] at hy
        split at hy
        · simp [List.getD, hy]
        · cases hy
      rw [e] at hc'
      exact ⟨b, off, rfl, block_lt_of_cell hc', hc'⟩
    · exact bounds_i64 (h5 y (List.mem_of_mem_take (List.mem_of_getElem? hy)))

/-- Every running total up to k is within the law's limit. -/
def Bnd (xs : List Int) (k : Nat) : Prop := ∀ j, j ≤ k → -2305843009213693952 ≤ sumTo xs j ∧ sumTo xs j ≤ 2305843009213693952
theorem Bnd.step {xs : List Int} {k : Nat} (h : Bnd xs k) (h1 : -2305843009213693952 ≤ sumTo xs (k + 1)) (h2 : sumTo xs (k + 1) ≤ 2305843009213693952) : Bnd xs (k + 1) := fun j hj => by
  by_cases e : j = k + 1
  · subst e; exact ⟨h1, h2⟩
  · exact h j (by omega)

theorem mean_facts (xs : List Int) (k : Nat) (hl : xs.length = k) (hk : k ≤ 65536) (hf : Fits xs) (b1 : -2305843009213693952 ≤ xs.sum) (b2 : xs.sum ≤ 2305843009213693952) :
    ∃ m : Int, (∀ (W : World) (ao : Option Addr), IntsAt W ao xs → Calls Try.prog 7 #[.slice ao k k] W fun e w' => e = .returned (.int .i64 m) ∧ W = w') ∧ -2305843009213693952 ≤ m ∧ m ≤ 2305843009213693952 ∧ (xs.sum + m).tdiv ((k : Int) + 1) = m ∧
      (k = 0 → m = 0 ∧ xs.sum = 0) ∧ (0 < k → ∃ q, m * k = q ∧ (0 ≤ xs.sum → 0 ≤ xs.sum - q ∧ xs.sum - q < k) ∧ (xs.sum < 0 → -(k : Int) < xs.sum - q ∧ xs.sum - q ≤ 0)) := by
  rcases Nat.eq_zero_or_pos k with h0 | h0
  · subst h0
    obtain rfl := List.eq_nil_of_length_eq_zero hl
    exact ⟨0, fun W ao _ => mean_zero ao 0 W, by decide, by decide, by decide, fun _ => ⟨rfl, rfl⟩, fun h => absurd h (by decide)⟩
  · obtain ⟨q, q1, q2, q3, q4, q5, q6⟩ := quot_parts xs.sum k h0
    refine ⟨xs.sum.tdiv k, fun W ao hi => mean_some ao k k xs W hl (by omega) h0 hi hf, ?_, ?_, q4, fun e => absurd e (by omega), fun _ => ⟨q, q1, q2, q3⟩⟩
    · by_cases hs : 0 ≤ xs.sum
      · have := q5 hs; omega
      · have := q6 (by omega); omega
    · by_cases hs : 0 ≤ xs.sum
      · have := q5 hs; omega
      · have := q6 (by omega); omega

set_option maxHeartbeats 1000000 in
theorem walk (a0 : Option Addr) (len0 cap0 : Nat) (z0 : List Int) (w : World) (w0 : IsRow .i64 w a0 len0 cap0 z0) :
    Calls Try.prog 3 #[.slice a0 len0 cap0] w fun e w' => e = .returned (.bool true) ∧ Below w.heap.size w w' := by
  obtain ⟨xs, hl, ho, hx64, hmax⟩ := isRow_ints w0
  have H : Hid (xs.length = len0) := hl
  have HX : Hid (∀ (j : Nat) (x : Int), xs[j]? = some x → -9223372036854775808 ≤ x ∧ x ≤ 9223372036854775807) := hx64
  clear w0 hl hx64
  unfold maxLen at hmax
  go_enter Try.func3, Try.ntmps3
  go_wp2_with fail
  refine (bytes5_any _ _ _ _ (by omega)).mono ?_
  rintro e w1 ⟨⟨b1, rfl⟩, rfl⟩
  cases b1 with
  | false =>
    go_wp2_with fail
    go_ret
    exact ⟨rfl, Below.refl _ _⟩
  | true =>
  by_cases h0 : 65536 < len0
  · go_wp2_with fail
    go_ret
    exact ⟨rfl, Below.refl _ _⟩
  go_wp2_with fail
  go_loop [3, 4] (fun s i => ∃ k : Nat, i = .int .i64 k ∧ k ≤ len0 ∧ s = .int .i64 (sumTo xs k) ∧ Bnd xs k) (fun _ i => len0 - (intOf i).toNat)
  case atStart => exact ⟨0, rfl, Nat.zero_le _, by rw [sumTo_zero], fun j hj => by rw [show j = 0 by omega, sumTo_zero]; decide⟩
  case round =>
    obtain ⟨k, rfl, hk, rfl, hb⟩ := hrel
    have HB : Hid (Bnd xs k) := hb
    obtain ⟨b1, b2⟩ := hb k (Nat.le_refl _)
    clear hb
    by_cases hlt : k < len0
    · obtain ⟨x, hx⟩ : ∃ x, xs[k]? = some x := ⟨xs[k]'(by rw [H.out]; omega), by simp⟩
      obtain ⟨b, off, rfl, hbl, hc⟩ := ho k x hx
      have HS : Hid (sumTo xs (k + 1) = sumTo xs k + x) := sumTo_step hx
      clear hx ho
      generalize sumTo xs k = s at *
      by_cases t1 : 2305843009213693952 < x
      · go_wp2_with fail
        go_ret
        exact ⟨rfl, Below.refl _ _⟩
      by_cases t2 : x < -2305843009213693952
      · go_wp2_with fail
        go_ret
        exact ⟨rfl, Below.refl _ _⟩
      by_cases t3 : 2305843009213693952 < s + x
      · go_wp2_with fail
        go_ret
        exact ⟨rfl, Below.refl _ _⟩
      by_cases t4 : s + x < -2305843009213693952
      · go_wp2_with fail
        go_ret
        exact ⟨rfl, Below.refl _ _⟩
      have HB' : Hid (Bnd xs (k + 1)) := HB.out.step (by rw [HS.out]; omega) (by rw [HS.out]; omega)
      go_wp2_with fail
      go_round
      case rel => exact ⟨k + 1, by go_num, by omega, by rw [HS.out], HB'.out⟩
      case measure => simp [intOf]; omega
    · have e : k = len0 := by omega
      subst e
      have hsum : sumTo xs k = xs.sum := by rw [← H.out]; exact sumTo_all xs
      rw [hsum] at b1 b2 ⊢
      clear hsum
      have hfits : Fits xs := fun j hj => by have := HB.out j (by have := H.out; omega); omega
      obtain ⟨m, hmean, m1, m2, hfin, hz, hq⟩ := mean_facts xs k H.out (by omega) hfits b1 b2
      have hsn : Fits (xs ++ [m]) := snoc_fits xs m (fun j hj => HB.out j (by have := H.out; omega)) m1 m2
      have HSN : Hid (Fits (xs ++ [m]) ∧ ((xs ++ [m]).sum).tdiv ((k : Int) + 1) = m) := ⟨hsn, by rw [sum_snoc]; exact hfin⟩
      clear hfits hsn hfin
      have HM : Hid (∀ (W : World) (ao : Option Addr), IntsAt W ao xs → Calls Try.prog 7 #[.slice ao k k] W fun e w' => e = .returned (.int .i64 m) ∧ W = w') := hmean
      clear hmean
      go_wp2_with fail
      refine (toDur_any a0 k cap0 xs _ H.out (by omega) ho).mono ?_
      rintro e w1 ⟨rfl, hb1, hi1⟩
      go_wp2_with fail
      refine (HM.out _ _ hi1).mono ?_
      rintro e w2 ⟨rfl, rfl⟩
      have ho1 := intsAt_below ho hb1
      have hmk := run_make_row' (P := Try.prog) 25 27 (.int .i64 0) 8 Try.underlying25 Try.info27 rfl .i64 .i64 (k + 1) (by omega) (by omega)
      have ec : ((k + 1 : Nat) : Int) = (k : Int) + 1 := by omega
      rw [ec] at hmk
      clear ec
      have hst : Fill w1.heap.size (k + 1) (xs ++ [m]) w1 (w1.alloc (.cells (madeCells #[.int .i64 0] (k + 1)) 27)) 0 := Fill.start rfl
      generalize xs.sum = s at *
      clear hi1 ho HM
      rcases Nat.eq_zero_or_pos k with hk0 | hk0
      · obtain ⟨z1, z2⟩ := hz hk0
        have t1 : ((k : Int) == 0) = true := by simp [hk0]
        have t2 : (m != 0) = false := by simp [z1]
        clear hq hz z1 z2 hk0
        go_wp2_with fail
        clear t1 t2
        clear hmk
        go_loopw [11] (fun i wr => ∃ j : Nat, i = .int .i64 j ∧ j ≤ k ∧ Fill w1.heap.size (k + 1) (xs ++ [m]) w1 wr j) (fun i _ => k - (intOf i).toNat)
        case atStart => exact ⟨0, rfl, Nat.zero_le _, hst⟩
        case round =>
          clear hst
          obtain ⟨j, rfl, hj, hfill⟩ := hrel
          by_cases hlt2 : j < k
          · obtain ⟨x, hx⟩ : ∃ x, xs[j]? = some x := ⟨xs[j]'(by rw [H.out]; omega), by simp⟩
            have hy : (xs ++ [m])[j]? = some x := by rw [List.getElem?_append_left (by rw [H.out]; omega)]; exact hx
            obtain ⟨b, off, rfl, hbl, hc⟩ := intsAt_below ho1 hfill.below j x hx
            have hc1 := hfill.cell (show j < k + 1 by omega)
            have hf1 := hfill.row.frozen j
            have HN := hfill.step hy
            clear hx hy ho1 hfill hbl
            go_wp2_with fail
            go_roundw
            case rel => exact ⟨j + 1, by go_num, by omega, HN⟩
            case measure => simp [intOf]; omega
          · have ej : j = k := by omega
            subst ej
            have hy : (xs ++ [m])[j]? = some m := by rw [← H.out]; simp
            have hc1 := hfill.cell (show j < j + 1 by omega)
            have hf1 := hfill.row.frozen j
            have HN := hfill.step hy
            have hlen : (xs ++ [m]).length = j + 1 := by rw [List.length_append, H.out]; rfl
            have HI := HN.ints hlen
            have HBl := hb1.trans (HN.below.mono hb1.size)
            have HL : Hid ((xs ++ [m]).length = j + 1) := hlen
            clear hfill hy HN ho1 hlen
            go_wp2_with fail
            refine (mean_some _ (j + 1) _ (xs ++ [m]) _ HL.out (by omega) (by omega) HI HSN.out.1).mono ?_
            rintro e w3 ⟨rfl, rfl⟩
            have ef : (xs ++ [m]).sum.tdiv ((j + 1 : Nat) : Int) = m := by rw [show ((j + 1 : Nat) : Int) = (j : Int) + 1 from by omega]; exact HSN.out.2
            rw [ef]
            clear ef
            go_wp2_with fail
            go_ret
            exact ⟨by simp, HBl⟩
      · obtain ⟨q, q1, q2, q3⟩ := hq hk0
        clear hq hz
        have t1 : ((k : Int) == 0) = false := by simp; omega
        by_cases hs : 0 ≤ s
        · obtain ⟨q4, q5⟩ := q2 hs
          clear q2 q3
          go_wp2_with fail
          clear t1 q1 q4 q5 hs
          clear hmk
          go_loopw [11] (fun i wr => ∃ j : Nat, i = .int .i64 j ∧ j ≤ k ∧ Fill w1.heap.size (k + 1) (xs ++ [m]) w1 wr j) (fun i _ => k - (intOf i).toNat)
          case atStart => exact ⟨0, rfl, Nat.zero_le _, hst⟩
          case round =>
            clear hst
            obtain ⟨j, rfl, hj, hfill⟩ := hrel
            by_cases hlt2 : j < k
            · obtain ⟨x, hx⟩ : ∃ x, xs[j]? = some x := ⟨xs[j]'(by rw [H.out]; omega), by simp⟩
              have hy : (xs ++ [m])[j]? = some x := by rw [List.getElem?_append_left (by rw [H.out]; omega)]; exact hx
              obtain ⟨b, off, rfl, hbl, hc⟩ := intsAt_below ho1 hfill.below j x hx
              have hc1 := hfill.cell (show j < k + 1 by omega)
              have hf1 := hfill.row.frozen j
              have HN := hfill.step hy
              clear hx hy ho1 hfill hbl
              go_wp2_with fail
              go_roundw
              case rel => exact ⟨j + 1, by go_num, by omega, HN⟩
              case measure => simp [intOf]; omega
            · have ej : j = k := by omega
              subst ej
              have hy : (xs ++ [m])[j]? = some m := by rw [← H.out]; simp
              have hc1 := hfill.cell (show j < j + 1 by omega)
              have hf1 := hfill.row.frozen j
              have HN := hfill.step hy
              have hlen : (xs ++ [m]).length = j + 1 := by rw [List.length_append, H.out]; rfl
              have HI := HN.ints hlen
              have HBl := hb1.trans (HN.below.mono hb1.size)
              have HL : Hid ((xs ++ [m]).length = j + 1) := hlen
              clear hfill hy HN ho1 hlen
              go_wp2_with fail
              refine (mean_some _ (j + 1) _ (xs ++ [m]) _ HL.out (by omega) (by omega) HI HSN.out.1).mono ?_
              rintro e w3 ⟨rfl, rfl⟩
              have ef : (xs ++ [m]).sum.tdiv ((j + 1 : Nat) : Int) = m := by rw [show ((j + 1 : Nat) : Int) = (j : Int) + 1 from by omega]; exact HSN.out.2
              rw [ef]
              clear ef
              go_wp2_with fail
              go_ret
              exact ⟨by simp, HBl⟩
        · obtain ⟨q4, q5⟩ := q3 (by omega)
          clear q2 q3
          go_wp2_with fail
          clear t1 q1 q4 q5 hs
          clear hmk
          go_loopw [11] (fun i wr => ∃ j : Nat, i = .int .i64 j ∧ j ≤ k ∧ Fill w1.heap.size (k + 1) (xs ++ [m]) w1 wr j) (fun i _ => k - (intOf i).toNat)
          case atStart => exact ⟨0, rfl, Nat.zero_le _, hst⟩
          case round =>
            clear hst
            obtain ⟨j, rfl, hj, hfill⟩ := hrel
            by_cases hlt2 : j < k
            · obtain ⟨x, hx⟩ : ∃ x, xs[j]? = some x := ⟨xs[j]'(by rw [H.out]; omega), by simp⟩
              have hy : (xs ++ [m])[j]? = some x := by rw [List.getElem?_append_left (by rw [H.out]; omega)]; exact hx
              obtain ⟨b, off, rfl, hbl, hc⟩ := intsAt_below ho1 hfill.below j x hx
              have hc1 := hfill.cell (show j < k + 1 by omega)
              have hf1 := hfill.row.frozen j
              have HN := hfill.step hy
              clear hx hy ho1 hfill hbl
              go_wp2_with fail
              go_roundw
              case rel => exact ⟨j + 1, by go_num, by omega, HN⟩
              case measure => simp [intOf]; omega
            · have ej : j = k := by omega
              subst ej
              have hy : (xs ++ [m])[j]? = some m := by rw [← H.out]; simp
              have hc1 := hfill.cell (show j < j + 1 by omega)
              have hf1 := hfill.row.frozen j
              have HN := hfill.step hy
              have hlen : (xs ++ [m]).length = j + 1 := by rw [List.length_append, H.out]; rfl
              have HI := HN.ints hlen
              have HBl := hb1.trans (HN.below.mono hb1.size)
              have HL : Hid ((xs ++ [m]).length = j + 1) := hlen
              clear hfill hy HN ho1 hlen
              go_wp2_with fail
              refine (mean_some _ (j + 1) _ (xs ++ [m]) _ HL.out (by omega) (by omega) HI HSN.out.1).mono ?_
              rintro e w3 ⟨rfl, rfl⟩
              have ef : (xs ++ [m]).sum.tdiv ((j + 1 : Nat) : Int) = m := by rw [show ((j + 1 : Nat) : Int) = (j : Int) + 1 from by omega]; exact HSN.out.2
              rw [ef]
              clear ef
              go_wp2_with fail
              go_ret
              exact ⟨by simp, HBl⟩

/-! ### THE ROW's STEP: WRITTEN OUT: LEAVE IT -/
set_option maxRecDepth 100000 in
theorem lifted (os : Os) (started : os.Started) (H : Type) (enc : TypeId × Value → H) :
    ReturnsInHanded {} Try.checked os 3 .any (Rows.fnMeanIsTruncatedQuotientAndAppendingItKeepsItSpec.pre6 enc Try.prog Try.f3 Rows.fnMeanIsTruncatedQuotientAndAppendingItKeepsItRow.domain false) (Rows.fnMeanIsTruncatedQuotientAndAppendingItKeepsItSpec.post enc Try.prog Try.f3 false true false false) := by
  refine returnsInHanded_of_change (C := Try.checked) own started (by kernel_rfl) Try.func3
    (ChangeSpec.witness6 (enc := enc) (C := Try.checked) false ⟨#[], #[.slice none 0 0], []⟩ 8 (by kernel_rfl) (by kernel_rfl) (by kernel_rfl) (by kernel_rfl)) ?_
  intro W base args ds gs before hval0 hW hcnd _
  have hval : ∀ (j : Nat) t v, Try.f3.params[j]? = some t → args[j]? = some v → Value.okWide Try.prog W .any base t v := hval0
  have hW' := hW
  obtain ⟨p, q, hA0, hV, rfl, hfz, hnd⟩ := hW
  have hA : DataW.TrodAll enc Try.prog W 0 (fun _ => true) true Try.f3.params.toList args.toList ds p := hA0
  rw [Try.params3] at hA hval
  obtain ⟨v0, vs0, d0, ds0, p0, q0, hargs, rfl, rfl, h0, r0⟩ := trodAll_cons hA
  obtain ⟨rfl, rfl, rfl⟩ := trodAll_nil r0
  obtain rfl : args = #[v0] := by cases args; simp_all
  obtain ⟨rfl, rfl⟩ := trodVars_none hV
  obtain ⟨a0, len0, cap0, rfl⟩ := okWide_slice Try.underlying22 (hval 0 22 v0 rfl rfl)
  have k0 := h0
  have lt0 : ∀ x ∈ p0, x.block < W.heap.size := by obtain ⟨m, hm⟩ := k0; exact DataW.trod_lt m _ _ _ hm
  obtain ⟨z0, w0⟩ : ∃ zs, IsRow .i64 W a0 len0 cap0 zs := by
    obtain ⟨fuel, hf⟩ := h0
    rcases open_ints Try.underlying22 Try.underlying2 (by kernel_rfl) hf with ⟨hcs, _⟩ | ⟨x, l, c, zs, hcs, _, hl, hm, hz, _, hcell, hwz⟩
    · simp [Value.cells] at hcs
      obtain ⟨rfl, rfl, rfl⟩ := hcs
      exact ⟨[], .inl ⟨rfl, rfl, rfl, rfl⟩⟩
    · simp [Value.cells] at hcs
      obtain ⟨rfl, rfl, rfl⟩ := hcs
      exact ⟨zs, .inr ⟨_, rfl, hl, hm, by simpa using hz, hcell, hwz⟩⟩
  clear hA0 hval0
  refine (walk a0 len0 cap0 z0 W w0).mono fun e W' ⟨he, bel⟩ => ?_
  subst he
  exact ⟨_, rfl, _, _, _, [], _, [], hW', trodAll_mk1 (shut_bool Try.underlying4 _), (trodAll_cons_mk (Below.trod laidOut (by kernel_rfl) (of_decide_eq_true (by kernel_rfl)) k0 bel lt0) trodAll_mk0), rfl, bel.frame _, fun h => by cases h⟩

theorem over : Rows.fnMeanIsTruncatedQuotientAndAppendingItKeepsItRow.holds Try.pinned (OpenSpec.ofChange Rows.fnMeanIsTruncatedQuotientAndAppendingItKeepsItSpec) :=
  OpenClaim.holds_of_wide 3 Try.f3 rfl rfl rfl rfl rfl rfl rfl ⟨rfl, rfl, rfl, rfl, rfl⟩ rfl rfl rfl rfl rfl (by kernel_rfl) Try.func3 (by kernel_rfl)
    (of_decide_eq_true (by kernel_rfl)) (by unfold Func.isWrapper; first | (rw [if_pos (by decide +kernel)]; kernel_rfl) | (rw [if_neg (by decide +kernel)]; exact ⟨rfl, rfl⟩))
    (fun os started H enc _ => lifted os started H enc)

/-- ████ THE STATEMENT ████ -/
theorem proved : Rows.FnMeanIsTruncatedQuotientAndAppendingItKeepsItSaid := over
#print axioms proved
end Go.Proofs.Qxb6627730a.fnMeanIsTruncatedQuotientAndAppendingItKeepsIt
