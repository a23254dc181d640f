/-
  FnMeanShiftsWithEveryTimeSaid, proved. The frame is the given shell's.
-/
import Derived.Test.Qxb6627730aRows
import Derived.Test.Qxb6627730aPlain
import Derived.WalkKit
import Derived.ProofKit
import Derived.OpenShut
import Derived.ShutString
import Derived.ChangeOld
import Derived.Below
namespace Go.Proofs.Qxb6627730a.fnMeanShiftsWithEveryTime
open Go.ChangeShapes Go.WideShapes Go.ChangeAt Go.RowKit
open Go.ChangeMaps (open_string shut_string)
set_option linter.unusedVariables false

theorem own : ownKnob Try.prog.godebug = none := by kernel_rfl
theorem laidOut : laidOutB Try.prog = true := by kernel_rfl

/-- WHAT THE WALK IS TOLD OF A SLICE OF INTEGERS THAT CAME IN: it is nil; or it leads to a row of 'cap' cells, the numbers 'zs' (the first 'len' are its elements, the rest its spare room), each fitting its kind. -/
def IsRow (k : IntKind) (w : World) (a : Option Addr) (len cap : Nat) (zs : List Int) : Prop :=
  (a = none ∧ len = 0 ∧ cap = 0 ∧ zs = []) ∨
  ∃ x, a = some x ∧ len ≤ cap ∧ cap ≤ maxLen ∧ zs.length = cap ∧ (∀ i, i < zs.length → w.cell? (x.add i) = some (.int k (zs.getD i 0))) ∧ ∀ n ∈ zs, (Lit.int k n).wf = true

/-- What the walk uses of it: its elements, as a list. -/
theorem isRow_ints {w : World} {a : Option Addr} {len cap : Nat} {zs : List Int} (h : IsRow .i64 w a len cap zs) : ∃ xs : List Int, xs.length = len ∧ IntsAt w a xs ∧ (∀ (j : Nat) (x : Int), xs[j]? = some x → -9223372036854775808 ≤ x ∧ x ≤ 9223372036854775807) ∧ len ≤ maxLen := by
  rcases h with ⟨rfl, rfl, rfl, rfl⟩ | ⟨x, rfl, h1, h2, h3, h4, h5⟩
  · exact ⟨[], rfl, fun k x hx => by simp at hx, fun j x hx => by simp at hx, Nat.zero_le _⟩
  · refine ⟨zs.take len, by simp; omega, fun k y hy => ?_, fun j y hy => ?_, by omega⟩
    · have hk : k < zs.length := by have := (List.getElem?_eq_some_iff.1 hy).1; simp at this; omega
      obtain ⟨b, off, rfl, hc⟩ := ints_at h4 (by omega)
      have hc' := hc k hk
      have e : zs.getD k 0 = y := by
        rw [List.getElem?_take] at hy
        split at hy
        · simp [List.getD, hy]
        · cases hy
      rw [e] at hc'
      exact ⟨b, off, rfl, block_lt_of_cell hc', hc'⟩
    · exact bounds_i64 (h5 y (List.mem_of_mem_take (List.mem_of_getElem? hy)))

/-- What the law's first loop has found of the first k. -/
def Ok (xs : List Int) (k : Nat) : Prop := (∀ (j : Nat) (x : Int), j < k → xs[j]? = some x → 0 ≤ x) ∧ ∀ j, j ≤ k → 0 ≤ sumTo xs j ∧ sumTo xs j ≤ 9223372036854775807
theorem Ok.step {xs : List Int} {k : Nat} {x : Int} (h : Ok xs k) (hx : xs[k]? = some x) (h0 : 0 ≤ x) (h1 : sumTo xs (k + 1) ≤ 9223372036854775807) : Ok xs (k + 1) := by
  refine ⟨fun j y hj hy => ?_, fun j hj => ?_⟩
  · by_cases e : j = k
    · subst e; rw [hx] at hy; cases hy; exact h0
    · exact h.1 j y (by omega) hy
  · by_cases e : j = k + 1
    · subst e
      refine ⟨?_, h1⟩
      rw [sumTo_step hx]
      have := (h.2 k (Nat.le_refl _)).1
      omega
    · exact h.2 j (by omega)

theorem quot_bd (a : Int) (n : Nat) (h : 0 ≤ a) : 0 ≤ a.tdiv n ∧ a.tdiv n ≤ a := by
  rw [Int.tdiv_eq_ediv_of_nonneg h]
  exact ⟨Int.ediv_nonneg h (Int.natCast_nonneg n), Int.ediv_le_self _ h⟩
theorem mean_zero' (ao : Option Addr) (n cap : Nat) (w : World) (h : n = 0) : Calls Try.prog 7 #[.slice ao n cap] w fun e w' => e = .returned (.int .i64 0) ∧ w = w' := by
  subst h; exact mean_zero ao cap w
theorem mean_val (ao : Option Addr) (n cap : Nat) (xs : List Int) (w : World) (v : Int) (hl : xs.length = n) (hn : n ≤ 9223372036854775807) (h0 : 0 < n) (ho : IntsAt w ao xs) (hf : Fits xs) (hv : xs.sum.tdiv n = v) :
    Calls Try.prog 7 #[.slice ao n cap] w fun e w' => e = .returned (.int .i64 v) ∧ w = w' := by
  subst hv; exact mean_some ao n cap xs w hl hn h0 ho hf

set_option maxHeartbeats 1000000 in
theorem walk (a0 : Option Addr) (len0 cap0 : Nat) (z0 : List Int) (a1 : Int) (w : World) (w0 : IsRow .i64 w a0 len0 cap0 z0) (w1 : (Lit.int .i64 a1).wf = true) :
    Calls Try.prog 4 #[.slice a0 len0 cap0, .int .i64 a1] w fun e w' => e = .returned (.bool true) ∧ Below w.heap.size w w' := by
  obtain ⟨xs, hl, ho, hx64, hmax⟩ := isRow_ints w0
  obtain ⟨c1, c2⟩ := bounds_i64 w1
  have H : Hid (xs.length = len0) := hl
  have HX : Hid (∀ (j : Nat) (x : Int), xs[j]? = some x → -9223372036854775808 ≤ x ∧ x ≤ 9223372036854775807) := hx64
  clear w0 hl hx64 w1
  unfold maxLen at hmax
  go_enter Try.func4, Try.ntmps4
  go_wp2_with fail
  refine (bytes8_any _ _ _ _ _ (by omega)).mono ?_
  rintro e w1 ⟨⟨b1, rfl⟩, rfl⟩
  cases b1 with
  | false =>
    go_wp2_with fail
    go_ret
    exact ⟨rfl, Below.refl _ _⟩
  | true =>
  by_cases h0 : 65536 < len0
  · go_wp2_with fail
    go_ret
    exact ⟨rfl, Below.refl _ _⟩
  by_cases hc0 : a1 < 0
  · go_wp2_with fail
    go_ret
    exact ⟨rfl, Below.refl _ _⟩
  go_wp2_with fail
  go_loop [5, 6] (fun s i => ∃ k : Nat, i = .int .i64 k ∧ k ≤ len0 ∧ s = .int .i64 (sumTo xs k) ∧ Ok xs k) (fun _ i => len0 - (intOf i).toNat)
  case atStart => exact ⟨0, rfl, Nat.zero_le _, by rw [sumTo_zero], fun j x hj => absurd hj (by omega), fun j hj => by rw [show j = 0 by omega, sumTo_zero]; decide⟩
  case round =>
    obtain ⟨k, rfl, hk, rfl, hb⟩ := hrel
    have HB : Hid (Ok xs k) := hb
    obtain ⟨b1, b2⟩ := hb.2 k (Nat.le_refl _)
    clear hb
    by_cases hlt : k < len0
    · obtain ⟨x, hx⟩ : ∃ x, xs[k]? = some x := ⟨xs[k]'(by rw [H.out]; omega), by simp⟩
      obtain ⟨b, off, rfl, hbl, hc⟩ := ho k x hx
      have HS : Hid (sumTo xs (k + 1) = sumTo xs k + x) := sumTo_step hx
      have HXX : Hid (xs[k]? = some x) := hx
      obtain ⟨x1, x2⟩ := HX.out k x hx
      clear hx ho
      generalize sumTo xs k = s at *
      by_cases t1 : x < 0
      · go_wp2_with fail
        go_ret
        exact ⟨rfl, Below.refl _ _⟩
      by_cases t2 : 9223372036854775807 - s < x
      · go_wp2_with fail
        go_ret
        exact ⟨rfl, Below.refl _ _⟩
      have HB' : Hid (Ok xs (k + 1)) := HB.out.step HXX.out (by omega) (by rw [HS.out]; omega)
      go_wp2_with fail
      go_round
      case rel => exact ⟨k + 1, by go_num, by omega, by rw [HS.out], HB'.out⟩
      case measure => simp [intOf]; omega
    · have e : k = len0 := by omega
      subst e
      have hsum : sumTo xs k = xs.sum := by rw [← H.out]; exact sumTo_all xs
      rw [hsum] at b1 b2 ⊢
      clear hsum
      have hpos : ∀ (j : Nat) (x : Int), xs[j]? = some x → 0 ≤ x := fun j x hx => HB.out.1 j x (by rw [← H.out]; exact (List.getElem?_eq_some_iff.1 hx).1) hx
      have hfits : Fits xs := fun j hj => by have := HB.out.2 j (by have := H.out; omega); omega
      have HP : Hid ((∀ (j : Nat) (x : Int), xs[j]? = some x → 0 ≤ x) ∧ Fits xs) := ⟨hpos, hfits⟩
      clear hpos hfits HB
      rcases Nat.eq_zero_or_pos k with hk0 | hk0
      · have t1 : ((k : Int) == 0) = true := by simp [hk0]
        have t2 : decide ((0 : Int) < (k : Int)) = false := by simp [hk0]
        subst hk0
        have hmk : ∀ w, (Instr.makeSlice 25 (.int .i64 0) (.int .i64 0)).run Try.prog w = .ok (.slice (some ⟨w.heap.size, 0, none⟩) 0 0) (w.alloc (.cells (madeCells #[.int .i64 0] 0) 27)) :=
          run_make_row' (P := Try.prog) 25 27 (.int .i64 0) 8 Try.underlying25 Try.info27 rfl .i64 .i64 0 (by omega) (by omega)
        go_wp2_with fail
        refine (toDur_any a0 0 cap0 xs _ H.out (by omega) ho).mono ?_
        rintro e w1 ⟨rfl, hb1, -⟩
        have hst := hb1.alloc hb1.size (.cells (madeCells #[.int .i64 0] 0) 27)
        clear ho hb1
        go_wp2_with fail
        go_loopw [11] (fun i wr => i = .int .i64 0 ∧ Below w.heap.size w wr) (fun _ _ => 0)
        case atStart => exact ⟨rfl, hst⟩
        case round =>
          clear hst
          obtain ⟨rfl, hbel⟩ := hrel
          go_wp2_with fail
          refine (mean_zero _ _ _).mono ?_
          rintro e w2 ⟨rfl, rfl⟩
          go_wp2_with fail
          refine (mean_zero _ _ _).mono ?_
          rintro e w2 ⟨rfl, rfl⟩
          go_wp2_with fail
          go_ret
          exact ⟨rfl, hbel⟩
      · obtain ⟨Q, hQ⟩ : ∃ Q, (9223372036854775807 - xs.sum).tdiv k = Q := ⟨_, rfl⟩
        obtain ⟨Q1, Q2⟩ := quot_bd (9223372036854775807 - xs.sum) k (by omega)
        rw [hQ] at Q1 Q2
        have t1 : ((k : Int) == 0) = false := by simp; omega
        by_cases hcq : Q < a1
        · generalize xs.sum = s at *
          go_wp2_with fail
          go_ret
          exact ⟨rfl, Below.refl _ _⟩
        · obtain ⟨g1, g2, g3, g4⟩ := shift_fits xs a1 k H.out hk0 (by omega) HP.out.1 b2 (by rw [hQ]; omega)
          obtain ⟨M, hM⟩ : ∃ M, xs.sum.tdiv k = M := ⟨_, rfl⟩
          have hM2 : (xs.map (· + a1)).sum.tdiv k = M + a1 := by rw [sum_map, H.out, shift_quot _ _ _ hk0 g4 (by omega), hM]
          obtain ⟨M1, M2⟩ := quot_bd xs.sum k g4
          obtain ⟨M3, M4⟩ := quot_bd (xs.sum + k * a1) k (by have : 0 ≤ (k : Int) * a1 := Int.mul_nonneg (by omega) (by omega); omega)
          rw [shift_quot _ _ _ hk0 g4 (by omega)] at M3 M4
          rw [hM] at M1 M2 M3 M4
          have M5 : M + a1 ≤ 9223372036854775807 := by omega
          have G : Hid (Fits (xs.map (· + a1)) ∧ (∀ (j : Nat) (x : Int), xs[j]? = some x → 0 ≤ x ∧ x + a1 ≤ 9223372036854775807) ∧ (xs.map (· + a1)).sum.tdiv k = M + a1 ∧ xs.sum.tdiv k = M) := ⟨g2, g3, hM2, hM⟩
          clear g1 g2 g3 g4 hM hM2 M4
          have hmk := run_make_row' (P := Try.prog) 25 27 (.int .i64 0) 8 Try.underlying25 Try.info27 rfl .i64 .i64 k (by omega) (by omega)
          go_wp2_with fail
          refine (toDur_any a0 k cap0 xs _ H.out (by omega) ho).mono ?_
          rintro e w1 ⟨rfl, hb1, hi1⟩
          have ho1 := intsAt_below ho hb1
          have hst : Fill w1.heap.size k (xs.map (· + a1)) w1 (w1.alloc (.cells (madeCells #[.int .i64 0] k) 27)) 0 := Fill.start rfl
          have HI1 : Hid (IntsAt w1 (some ⟨w.heap.size, 0, none⟩) xs) := hi1
          clear hi1 ho
          go_wp2_with fail
          clear hmk
          go_loopw [11] (fun i wr => ∃ j : Nat, i = .int .i64 j ∧ j ≤ k ∧ Fill w1.heap.size k (xs.map (· + a1)) w1 wr j) (fun i _ => k - (intOf i).toNat)
          case atStart => exact ⟨0, rfl, Nat.zero_le _, hst⟩
          case round =>
            clear hst
            obtain ⟨j, rfl, hj, hfill⟩ := hrel
            by_cases hlt2 : j < k
            · obtain ⟨x, hx⟩ : ∃ x, xs[j]? = some x := ⟨xs[j]'(by rw [H.out]; omega), by simp⟩
              have hy : (xs.map (· + a1))[j]? = some (x + a1) := by simp [hx]
              obtain ⟨b, off, rfl, hbl, hc⟩ := intsAt_below ho1 hfill.below j x hx
              have hc1 := hfill.cell hlt2
              have hf1 := hfill.row.frozen j
              have HN := hfill.step hy
              obtain ⟨x1, x2⟩ := G.out.2.1 j x hx
              clear hx hy ho1 hfill hbl
              go_wp2_with fail
              go_roundw
              case rel => exact ⟨j + 1, by go_num, by omega, HN⟩
              case measure => simp [intOf]; omega
            · have ej : j = k := by omega
              subst ej
              have HI : Hid (IntsAt wr (some ⟨w1.heap.size, 0, none⟩) (xs.map (· + a1))) := hfill.ints (by rw [List.length_map]; exact H.out)
              have HBl := hb1.trans (hfill.below.mono hb1.size)
              have HD : Hid (IntsAt wr (some ⟨w.heap.size, 0, none⟩) xs) := intsAt_below HI1.out hfill.below
              clear hfill ho1
              go_wp2_with fail
              refine (mean_val _ j _ (xs.map (· + a1)) _ (M + a1) (by rw [List.length_map]; exact H.out) (by omega) hk0 HI.out G.out.1 G.out.2.2.1).mono ?_
              rintro e w2 ⟨rfl, rfl⟩
              go_wp2_with fail
              refine (mean_val _ j _ xs _ M H.out (by omega) hk0 HD.out HP.out.2 G.out.2.2.2).mono ?_
              rintro e w2 ⟨rfl, rfl⟩
              go_wp2_with fail
              go_ret
              exact ⟨by simp, HBl⟩

/-! ### THE ROW's STEP: WRITTEN OUT: LEAVE IT -/
set_option maxRecDepth 100000 in
theorem lifted (os : Os) (started : os.Started) (H : Type) (enc : TypeId × Value → H) :
    ReturnsInHanded {} Try.checked os 4 .any (Rows.fnMeanShiftsWithEveryTimeSpec.pre6 enc Try.prog Try.f4 Rows.fnMeanShiftsWithEveryTimeRow.domain false) (Rows.fnMeanShiftsWithEveryTimeSpec.post enc Try.prog Try.f4 false true false false) := by
  refine returnsInHanded_of_change (C := Try.checked) own started (by kernel_rfl) Try.func4
    (ChangeSpec.witness6 (enc := enc) (C := Try.checked) false ⟨#[], #[.slice none 0 0, .int .i64 0], []⟩ 8 (by kernel_rfl) (by kernel_rfl) (by kernel_rfl) (by kernel_rfl)) ?_
  intro W base args ds gs before hval0 hW hcnd _
  have hval : ∀ (j : Nat) t v, Try.f4.params[j]? = some t → args[j]? = some v → Value.okWide Try.prog W .any base t v := hval0
  have hW' := hW
  obtain ⟨p, q, hA0, hV, rfl, hfz, hnd⟩ := hW
  have hA : DataW.TrodAll enc Try.prog W 0 (fun _ => true) true Try.f4.params.toList args.toList ds p := hA0
  rw [Try.params4] at hA hval
  obtain ⟨v0, vs0, d0, ds0, p0, q0, hargs, rfl, rfl, h0, r0⟩ := trodAll_cons hA
  obtain ⟨v1, vs1, d1, ds1, p1, q1, rfl, rfl, rfl, h1, r1⟩ := trodAll_cons r0
  obtain ⟨rfl, rfl, rfl⟩ := trodAll_nil r1
  obtain rfl : args = #[v0, v1] := by cases args; simp_all
  obtain ⟨rfl, rfl⟩ := trodVars_none hV
  obtain ⟨a0, len0, cap0, rfl⟩ := okWide_slice Try.underlying22 (hval 0 22 v0 rfl rfl)
  have k0 := h0
  have lt0 : ∀ x ∈ p0, x.block < W.heap.size := by obtain ⟨m, hm⟩ := k0; exact DataW.trod_lt m _ _ _ hm
  obtain ⟨z0, w0⟩ : ∃ zs, IsRow .i64 W a0 len0 cap0 zs := by
    obtain ⟨fuel, hf⟩ := h0
    rcases open_ints Try.underlying22 Try.underlying2 (by kernel_rfl) hf with ⟨hcs, _⟩ | ⟨x, l, c, zs, hcs, _, hl, hm, hz, _, hcell, hwz⟩
    · simp [Value.cells] at hcs
      obtain ⟨rfl, rfl, rfl⟩ := hcs
      exact ⟨[], .inl ⟨rfl, rfl, rfl, rfl⟩⟩
    · simp [Value.cells] at hcs
      obtain ⟨rfl, rfl, rfl⟩ := hcs
      exact ⟨zs, .inr ⟨_, rfl, hl, hm, by simpa using hz, hcell, hwz⟩⟩
  obtain ⟨a1, rfl, rfl, rfl, w1⟩ := open_int Try.underlying2 (hval 1 2 v1 rfl rfl) h1
  clear hA0 hval0
  refine (walk a0 len0 cap0 z0 a1 W w0 w1).mono fun e W' ⟨he, bel⟩ => ?_
  subst he
  exact ⟨_, rfl, _, _, _, [], _, [], hW', trodAll_mk1 (shut_bool Try.underlying4 _), (trodAll_cons_mk (Below.trod laidOut (by kernel_rfl) (of_decide_eq_true (by kernel_rfl)) k0 bel lt0) (trodAll_cons_mk (shut_int Try.underlying2 w1) trodAll_mk0)), rfl, bel.frame _, fun h => by cases h⟩

theorem over : Rows.fnMeanShiftsWithEveryTimeRow.holds Try.pinned (OpenSpec.ofChange Rows.fnMeanShiftsWithEveryTimeSpec) :=
  OpenClaim.holds_of_wide 4 Try.f4 rfl rfl rfl rfl rfl rfl rfl ⟨rfl, rfl, rfl, rfl, rfl⟩ rfl rfl rfl rfl rfl (by kernel_rfl) Try.func4 (by kernel_rfl)
    (of_decide_eq_true (by kernel_rfl)) (by unfold Func.isWrapper; first | (rw [if_pos (by decide +kernel)]; kernel_rfl) | (rw [if_neg (by decide +kernel)]; exact ⟨rfl, rfl⟩))
    (fun os started H enc _ => lifted os started H enc)

/-- ████ THE STATEMENT ████ -/
theorem proved : Rows.FnMeanShiftsWithEveryTimeSaid := over
#print axioms proved
end Go.Proofs.Qxb6627730a.fnMeanShiftsWithEveryTime
