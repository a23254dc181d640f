/-
  FnMeetsAddOneNodeSaid, proved. The frame is the given shell's.
-/
import Derived.Test.Qxb6627773aRows
import Derived.Test.Qxb6627773aPlain
import Derived.WalkKit
import Derived.ProofKit
import Derived.OpenShut
import Derived.ShutString
import Derived.ChangeOld
import Derived.Below
namespace Go.Proofs.Qxb6627773a.fnMeetsAddOneNode
open Go.ChangeShapes Go.WideShapes Go.ChangeAt Go.RowKit
open Go.ChangeMaps (open_string shut_string)
set_option linter.unusedVariables false

theorem own : ownKnob Try.prog.godebug = none := by kernel_rfl
theorem laidOut : laidOutB Try.prog = true := by kernel_rfl

/-- WHAT THE WALK IS TOLD OF A SLICE OF INTEGERS THAT CAME IN: it is nil; or it leads to a row of 'cap' cells, the numbers 'zs' (the first 'len' are its elements, the rest its spare room), each fitting its kind. -/
def IsRow (k : IntKind) (w : World) (a : Option Addr) (len cap : Nat) (zs : List Int) : Prop :=
  (a = none ∧ len = 0 ∧ cap = 0 ∧ zs = []) ∨
  ∃ x, a = some x ∧ len ≤ cap ∧ cap ≤ maxLen ∧ zs.length = cap ∧ (∀ i, i < zs.length → w.cell? (x.add i) = some (.int k (zs.getD i 0))) ∧ ∀ n ∈ zs, (Lit.int k n).wf = true

/-- What the walk uses of it: its elements, as a list. -/
theorem isRow_ints {w : World} {a : Option Addr} {len cap : Nat} {zs : List Int} (h : IsRow .u64 w a len cap zs) : ∃ xs : List Int, xs.length = len ∧ IntsAt w a xs ∧ Words xs ∧ len ≤ maxLen ∧ (a = none → len = 0 ∧ cap = 0) := by
  rcases h with ⟨rfl, rfl, rfl, rfl⟩ | ⟨x, rfl, h1, h2, h3, h4, h5⟩
  · exact ⟨[], rfl, fun k x hx => by simp at hx, fun x hx => by simp at hx, Nat.zero_le _, fun _ => ⟨rfl, rfl⟩⟩
  · refine ⟨zs.take len, by simp; omega, fun k y hy => ?_, fun y hy => ?_, by omega, fun h => by cases h⟩
    · have hk : k < zs.length := by have := (List.getElem?_eq_some_iff.1 hy).1; simp at this; omega
      obtain ⟨b, off, rfl, hc⟩ := ints_at h4 (by omega)
      have hc' := hc k hk
      have e : zs.getD k 0 = y := by
        rw [List.getElem?_take] at hy
        split at hy
        · simp [List.getD, hy]
        · cases hy
      rw [e] at hc'
      exact ⟨b, off, rfl, block_lt_of_cell hc', hc'⟩
    · have := bounds_u64 (h5 y (List.mem_of_mem_take hy))
      exact ⟨by omega, by omega⟩

theorem meets_val (ao ao' : Option Addr) (n cap cap' : Nat) (xs ys : List Int) (w : World) (v : Bool) (h1 : xs.length = n) (h2 : ys.length = n) (hn : n ≤ 9223372036854775807) (ho : IntsAt w ao xs) (ho' : IntsAt w ao' ys) (hv : meets xs ys = v) :
    Calls Try.prog 6 #[.slice ao n cap, .slice ao' n cap'] w fun e w' => e = .returned (.bool v) ∧ ∃ d, w' = w.drewN d := by
  subst hv; exact meets_any ao ao' n cap cap' xs ys w h1 h2 hn ho ho'

/-- The row at block g, of n cells: the first k are those of ys. -/
structure Fill (g n : Nat) (ys : List Int) (w wr : World) (k : Nat) : Prop where
  below : Below g w wr
  row : wr.rowIs g 27 n (fun j => .int .u64 (if j < k then ys.getD j 0 else 0))

theorem Fill.start {g n : Nat} {ys : List Int} {w : World} (hg : g = w.heap.size) : Fill g n ys w (w.alloc (.cells (madeCells #[.int .u64 0] n) 27)) 0 where
  below := (Below.refl _ _).alloc (by omega) _
  row := by subst hg; exact (World.rowIs_made w (.int .u64 0) n 27).congr (fun i _ => by simp)
theorem Fill.step {g n : Nat} {ys : List Int} {w wr : World} {k : Nat} {y : Int} (h : Fill g n ys w wr k) (hy : ys[k]? = some y) : Fill g n ys w (wr.setCell ⟨g, k, none⟩ (.int .u64 y)) (k + 1) where
  below := h.below.setCell (Nat.le_refl _) _
  row := (h.row.set k (.int .u64 y)).congr (fun i _ => by
    by_cases e : i = k
    · subst e; simp [hy]
    · have : (i < k + 1) ↔ (i < k) := by omega
      simp [e, this])
theorem Fill.cell {g n : Nat} {ys : List Int} {w wr : World} {k : Nat} (h : Fill g n ys w wr k) (hk : k < n) : wr.cell? ⟨g, k, none⟩ = some (.int .u64 0) := by
  rw [h.row.cell hk]; simp
theorem Fill.full {g n : Nat} {ys : List Int} {w wr : World} {k : Nat} {y : Int} (h : Fill g n ys w wr n) (hk : k < n) (hy : ys[k]? = some y) : wr.cell? ⟨g, k, none⟩ = some (.int .u64 y) := by
  rw [h.row.cell hk]; simp [hk, hy]
/-- One word of a full row turned. -/
theorem Fill.turned {g n : Nat} {ys : List Int} {w wr : World} {k : Nat} (v : Int) (h : Fill g n ys w wr n) (hl : ys.length = n) : IntsAt (wr.setCell ⟨g, k, none⟩ (.int .u64 v)) (some ⟨g, 0, none⟩) (ys.set k v) := fun j x hx => by
  have hj : j < n := by have := (List.getElem?_eq_some_iff.1 hx).1; simp at this; omega
  have hr := h.row.set k (.int .u64 v)
  refine ⟨g, 0, rfl, hr.lt, ?_⟩
  rw [Nat.zero_add, hr.cell hj]
  rw [List.getElem?_set] at hx
  by_cases e : j = k
  · subst e
    rw [if_pos rfl, if_pos (by omega)] at hx
    cases hx
    simp
  · rw [if_neg (fun e' => e e'.symm)] at hx
    simp [e, hj, hx]
theorem bit_word (r : Nat) : Word (IntKind.u64.wrap ((2 : Int) ^ r)) := by
  rw [IntKind.wrap_u64]
  exact ⟨by omega, by omega⟩
theorem intsAt_cell {w : World} {g : Nat} {xs : List Int} (h : IntsAt w (some ⟨g, 0, none⟩) xs) {k : Nat} {x : Int} (hx : xs[k]? = some x) : w.cell? ⟨g, k, none⟩ = some (.int .u64 x) := by
  obtain ⟨b, off, e, _, hc⟩ := h k x hx
  cases e
  simpa using hc

set_option maxHeartbeats 2000000 in
theorem walk (a0 : Option Addr) (len0 cap0 : Nat) (z0 : List Int) (a1 : Option Addr) (len1 cap1 : Nat) (z1 : List Int) (a2 : Int) (w : World) (w0 : IsRow .u64 w a0 len0 cap0 z0) (w1 : IsRow .u64 w a1 len1 cap1 z1) (w2 : (Lit.int .i64 a2).wf = true) :
    Calls Try.prog 4 #[.slice a0 len0 cap0, .slice a1 len1 cap1, .int .i64 a2] w fun e w' => e = .returned (.bool true) ∧ Below w.heap.size w w' := by
  obtain ⟨xs, hx, ho, hwx, hmx, hnx⟩ := isRow_ints w0
  obtain ⟨ys, hy, ho', hwy, hmy, hny⟩ := isRow_ints w1
  unfold maxLen at hmx hmy
  clear w0 w1
  have H : Hid (xs.length = len0 ∧ ys.length = len1) := ⟨hx, hy⟩
  have HW : Hid (Words xs ∧ Words ys) := ⟨hwx, hwy⟩
  have HN : Hid ((a0 = none → len0 = 0) ∧ (a1 = none → len1 = 0)) := ⟨fun h => (hnx h).1, fun h => (hny h).1⟩
  clear hx hy hwx hwy hnx hny w2
  go_enter Try.func4, Try.ntmps4
  go_wp2_with fail
  refine (bytes8_any _ _ _ _ _ _ _ _ (by omega) (by omega)).mono ?_
  rintro e w1 ⟨⟨b1, rfl⟩, rfl⟩
  cases b1 with
  | false =>
    go_wp2_with fail
    go_ret
    exact ⟨rfl, Below.refl _ _⟩
  | true =>
  by_cases h0 : 65536 < len0
  · go_wp2_with fail
    go_ret
    exact ⟨rfl, Below.refl _ _⟩
  by_cases h1 : 65536 < len1
  · go_wp2_with fail
    go_ret
    exact ⟨rfl, Below.refl _ _⟩
  by_cases h2 : ¬ len0 = len1
  · have h2' : ((len0 : Int) != (len1 : Int)) = true := by simp; omega
    go_wp2_with fail
    go_ret
    exact ⟨rfl, Below.refl _ _⟩
  obtain rfl : len1 = len0 := by omega
  by_cases h3 : a2 < 0
  · go_wp2_with fail
    go_ret
    exact ⟨rfl, Below.refl _ _⟩
  by_cases h4 : (len1 : Int) * 64 ≤ a2
  · go_wp2_with fail
    go_ret
    exact ⟨rfl, Below.refl _ _⟩
  obtain ⟨m, rfl⟩ : ∃ m : Nat, a2 = m := ⟨a2.toNat, by omega⟩
  have hm : m < len1 * 64 := by omega
  clear h1 h2 h3 h4 hmx hmy
  cases a0 with
  | none => exact absurd (HN.out.1 rfl) (by omega)
  | some p0 =>
  cases a1 with
  | none => exact absurd (HN.out.2 rfl) (by omega)
  | some p1 =>
  clear HN
  have q0 := fun w a c => run_neq_slice_nil_any (P := Try.prog) w 22 27 a len1 c 0 0 Try.underlying22
  have hmk := run_make_row' (P := Try.prog) 22 27 (.int .u64 0) 8 Try.underlying22 Try.info27 rfl .i64 .i64 len1 (by omega) (by omega)
  go_wp2_with (first | (refine copy_stop rfl (.tmp 47) (.tmp 48) rfl ?_) | fail)
  refine ⟨?_⟩
  refine copy_law rfl (.tmp 47) (.tmp 48) rfl w len1 cap0 (some p0) xs H.out.1 rfl rfl rfl ho ?_
  intro wa va Ix Ba
  have Iy := intsAt_below ho' Ba
  clear ho ho'
  go_wp2_with (first | (refine copy_stop rfl (.tmp 56) (.tmp 57) rfl ?_) | fail)
  refine ⟨?_⟩
  refine copy_law rfl (.tmp 56) (.tmp 57) rfl wa len1 cap1 (some p1) ys H.out.2 rfl rfl rfl Iy ?_
  intro wb vb Jy Bb
  have Jx := intsAt_below Ix Bb
  have Bc := Ba.trans (Bb.mono Ba.size)
  clear Ix Iy Ba Bb
  obtain ⟨wi, r, hwi, hr1, hr2, hq, hrm⟩ : ∃ wi r : Nat, wi < len1 ∧ r < 64 ∧ m = wi * 64 + r ∧ (m : Int) / 64 = wi ∧ (m : Int) % 64 = r := ⟨m / 64, m % 64, by omega, by omega, by omega, by omega, by omega⟩
  clear hr2
  obtain ⟨bit, hbit⟩ : ∃ bit, IntKind.u64.wrap ((2 : Int) ^ r) = bit := ⟨_, rfl⟩
  have hbw : Word bit := by rw [← hbit]; exact bit_word r
  obtain ⟨x, hx⟩ : ∃ x, xs[wi]? = some x := ⟨xs[wi]'(by have := H.out; omega), by simp⟩
  obtain ⟨y, hy⟩ : ∃ y, ys[wi]? = some y := ⟨ys[wi]'(by have := H.out; omega), by simp⟩
  obtain ⟨b0, hb0⟩ : ∃ b, meets xs ys = b := ⟨_, rfl⟩
  obtain ⟨hv, hhv⟩ : ∃ b, A x bit = b := ⟨_, rfl⟩
  have hset : meets xs (ys.set wi (bits .or .u64 y bit)) = (b0 || hv) := by rw [meets_set xs ys wi x y bit HW.out.1 HW.out.2 hbw hx hy, hb0, hhv]
  have hor : Word (bits .or .u64 y bit) := (or_word (HW.out.2 y (List.mem_of_getElem? hy)) hbw).1
  have hrev : meets (ys.set wi (bits .or .u64 y bit)) xs = (b0 || hv) := by rw [meets_comm _ _ (words_set HW.out.2 hor) HW.out.1, hset]
  have F : Hid ((xs[wi]? = some x ∧ ys[wi]? = some y) ∧ (meets xs ys = b0 ∧ A x bit = hv ∧ meets xs (ys.set wi (bits .or .u64 y bit)) = (b0 || hv) ∧ meets (ys.set wi (bits .or .u64 y bit)) xs = (b0 || hv)) ∧ (ys.set wi (bits .or .u64 y bit)).length = len1) :=
    ⟨⟨hx, hy⟩, ⟨hb0, hhv, hset, hrev⟩, by rw [List.length_set]; exact H.out.2⟩
  clear hx hy hb0 hhv hset hrev hbw hor HW
  have hst : Fill wb.heap.size len1 ys wb (wb.alloc (.cells (madeCells #[.int .u64 0] len1) 27)) 0 := Fill.start rfl
  go_wp2_with fail
  clear q0 hmk hq hrm hbit
  go_loopw [12] (fun i wr => ∃ k : Nat, i = .int .i64 k ∧ k ≤ len1 ∧ Fill wb.heap.size len1 ys wb wr k) (fun i _ => len1 - (intOf i).toNat)
  case atStart => exact ⟨0, rfl, Nat.zero_le _, hst⟩
  case round =>
    clear hst
    obtain ⟨k, rfl, hk, hfill⟩ := hrel
    by_cases hlt : k < len1
    · obtain ⟨z, hz⟩ : ∃ z, ys[k]? = some z := ⟨ys[k]'(by have := H.out; omega), by simp⟩
      have hc := intsAt_cell (intsAt_below Jy hfill.below) hz
      have hc1 := hfill.cell hlt
      have hf1 := hfill.row.frozen k
      have HN := hfill.step hz
      clear hz hfill Jx Jy
      go_wp2_with fail
      go_roundw
      case rel => exact ⟨k + 1, by go_num, by omega, HN⟩
      case measure => simp [intOf]; omega
    · have ek : k = len1 := by omega
      subst ek
      have hc1 := hfill.full hwi F.out.1.2
      have hf1 := hfill.row.frozen wi
      have Iu := hfill.turned (k := wi) (bits .or .u64 y bit) H.out.2
      have Bt := hfill.below.setCell (p := ⟨wb.heap.size, wi, none⟩) (Nat.le_refl _) (.int .u64 (bits .or .u64 y bit))
      have Ix := intsAt_below Jx Bt
      have Iy := intsAt_below Jy Bt
      have Bd := Bc.trans (Bt.mono Bc.size)
      have P : Hid (Below wb.heap.size wb (wr.setCell ⟨wb.heap.size, wi, none⟩ (.int .u64 (bits .or .u64 y bit)))) := Bt
      clear hfill Jx Jy Bt Bc P
      have j0 : (0 : Int) ≤ (wi : Int) := by omega
      have j1 : (wi : Int) < (k : Int) := by omega
      go_wp2_with fail
      refine (meets_val _ _ k _ _ xs ys _ b0 H.out.1 H.out.2 (by omega) Ix Iy F.out.2.1.1).mono ?_
      rintro e W1 ⟨rfl, d1, hd⟩
      have B1 := below_drewN (Below.refl (wr.setCell ⟨wb.heap.size, wi, none⟩ (.int .u64 (bits .or .u64 y bit))).heap.size (wr.setCell ⟨wb.heap.size, wi, none⟩ (.int .u64 (bits .or .u64 y bit)))) d1
      rw [← hd] at B1
      have Kx := intsAt_below Ix B1
      have Ku := intsAt_below Iu B1
      have Be := Bd.trans (B1.mono Bd.size)
      clear hd B1 Ix Iy Iu Bd hc1 hf1
      go_wp2_with fail
      refine (meets_val _ _ k _ _ xs _ _ (b0 || hv) H.out.1 F.out.2.2 (by omega) Kx Ku F.out.2.1.2.2.1).mono ?_
      rintro e W2 ⟨rfl, d2, hd⟩
      have B2 := below_drewN (Below.refl W1.heap.size W1) d2
      rw [← hd] at B2
      have Lx := intsAt_below Kx B2
      have Lu := intsAt_below Ku B2
      have Bf := Be.trans (B2.mono Be.size)
      clear hd B2 Kx Ku Be
      go_wp2_with fail
      refine (meets_val _ _ k _ _ _ xs _ (b0 || hv) F.out.2.2 H.out.1 (by omega) Lu Lx F.out.2.1.2.2.2).mono ?_
      rintro e W3 ⟨rfl, d3, hd⟩
      have B3 := below_drewN (Below.refl W2.heap.size W2) d3
      rw [← hd] at B3
      have Mx := intsAt_cell (intsAt_below Lx B3) F.out.1.1
      have Bg := Bf.trans (B3.mono Bf.size)
      have hA : (bits .and .u64 x bit != 0) = hv := F.out.2.1.2.1
      clear hd B3 Lx Lu Bf
      go_wp2_with fail
      all_goals
        go_ret
        exact ⟨by simp, Bg⟩

/-! ### THE ROW's STEP: WRITTEN OUT: LEAVE IT -/
set_option maxRecDepth 100000 in
theorem lifted (os : Os) (started : os.Started) (H : Type) (enc : TypeId × Value → H) :
    ReturnsInHanded {} Try.checked os 4 .any (Rows.fnMeetsAddOneNodeSpec.pre6 enc Try.prog Try.f4 Rows.fnMeetsAddOneNodeRow.domain false) (Rows.fnMeetsAddOneNodeSpec.post enc Try.prog Try.f4 false true false false) := by
  refine returnsInHanded_of_change (C := Try.checked) own started (by kernel_rfl) Try.func4
    (ChangeSpec.witness6 (enc := enc) (C := Try.checked) false ⟨#[], #[.slice none 0 0, .slice none 0 0, .int .i64 0], []⟩ 8 (by kernel_rfl) (by kernel_rfl) (by kernel_rfl) (by kernel_rfl)) ?_
  intro W base args ds gs before hval0 hW hcnd _
  have hval : ∀ (j : Nat) t v, Try.f4.params[j]? = some t → args[j]? = some v → Value.okWide Try.prog W .any base t v := hval0
  have hW' := hW
  obtain ⟨p, q, hA0, hV, rfl, hfz, hnd⟩ := hW
  have hA : DataW.TrodAll enc Try.prog W 0 (fun _ => true) true Try.f4.params.toList args.toList ds p := hA0
  rw [Try.params4] at hA hval
  obtain ⟨v0, vs0, d0, ds0, p0, q0, hargs, rfl, rfl, h0, r0⟩ := trodAll_cons hA
  obtain ⟨v1, vs1, d1, ds1, p1, q1, rfl, rfl, rfl, h1, r1⟩ := trodAll_cons r0
  obtain ⟨v2, vs2, d2, ds2, p2, q2, rfl, rfl, rfl, h2, r2⟩ := trodAll_cons r1
  obtain ⟨rfl, rfl, rfl⟩ := trodAll_nil r2
  obtain rfl : args = #[v0, v1, v2] := by cases args; simp_all
  obtain ⟨rfl, rfl⟩ := trodVars_none hV
  obtain ⟨a0, len0, cap0, rfl⟩ := okWide_slice Try.underlying22 (hval 0 22 v0 rfl rfl)
  have k0 := h0
  have lt0 : ∀ x ∈ p0, x.block < W.heap.size := by obtain ⟨m, hm⟩ := k0; exact DataW.trod_lt m _ _ _ hm
  obtain ⟨z0, w0⟩ : ∃ zs, IsRow .u64 W a0 len0 cap0 zs := by
    obtain ⟨fuel, hf⟩ := h0
    rcases open_ints Try.underlying22 Try.underlying27 (by kernel_rfl) hf with ⟨hcs, _⟩ | ⟨x, l, c, zs, hcs, _, hl, hm, hz, _, hcell, hwz⟩
    · simp [Value.cells] at hcs
      obtain ⟨rfl, rfl, rfl⟩ := hcs
      exact ⟨[], .inl ⟨rfl, rfl, rfl, rfl⟩⟩
    · simp [Value.cells] at hcs
      obtain ⟨rfl, rfl, rfl⟩ := hcs
      exact ⟨zs, .inr ⟨_, rfl, hl, hm, by simpa using hz, hcell, hwz⟩⟩
  obtain ⟨a1, len1, cap1, rfl⟩ := okWide_slice Try.underlying22 (hval 1 22 v1 rfl rfl)
  have k1 := h1
  have lt1 : ∀ x ∈ p1, x.block < W.heap.size := by obtain ⟨m, hm⟩ := k1; exact DataW.trod_lt m _ _ _ hm
  obtain ⟨z1, w1⟩ : ∃ zs, IsRow .u64 W a1 len1 cap1 zs := by
    obtain ⟨fuel, hf⟩ := h1
    rcases open_ints Try.underlying22 Try.underlying27 (by kernel_rfl) hf with ⟨hcs, _⟩ | ⟨x, l, c, zs, hcs, _, hl, hm, hz, _, hcell, hwz⟩
    · simp [Value.cells] at hcs
      obtain ⟨rfl, rfl, rfl⟩ := hcs
      exact ⟨[], .inl ⟨rfl, rfl, rfl, rfl⟩⟩
    · simp [Value.cells] at hcs
      obtain ⟨rfl, rfl, rfl⟩ := hcs
      exact ⟨zs, .inr ⟨_, rfl, hl, hm, by simpa using hz, hcell, hwz⟩⟩
  obtain ⟨a2, rfl, rfl, rfl, w2⟩ := open_int Try.underlying3 (hval 2 3 v2 rfl rfl) h2
  clear hA0 hval0
  refine (walk a0 len0 cap0 z0 a1 len1 cap1 z1 a2 W w0 w1 w2).mono fun e W' ⟨he, bel⟩ => ?_
  subst he
  exact ⟨_, rfl, _, _, _, [], _, [], hW', trodAll_mk1 (shut_bool Try.underlying4 _), (trodAll_cons_mk (Below.trod laidOut (by kernel_rfl) (of_decide_eq_true (by kernel_rfl)) k0 bel lt0) (trodAll_cons_mk (Below.trod laidOut (by kernel_rfl) (of_decide_eq_true (by kernel_rfl)) k1 bel lt1) (trodAll_cons_mk (shut_int Try.underlying3 w2) trodAll_mk0))), rfl, bel.frame _, fun h => by cases h⟩

theorem over : Rows.fnMeetsAddOneNodeRow.holds Try.pinned (OpenSpec.ofChange Rows.fnMeetsAddOneNodeSpec) :=
  OpenClaim.holds_of_wide 4 Try.f4 rfl rfl rfl rfl rfl rfl rfl ⟨rfl, rfl, rfl, rfl, rfl⟩ rfl rfl rfl rfl rfl (by kernel_rfl) Try.func4 (by kernel_rfl)
    (of_decide_eq_true (by kernel_rfl)) (by unfold Func.isWrapper; first | (rw [if_pos (by decide +kernel)]; kernel_rfl) | (rw [if_neg (by decide +kernel)]; exact ⟨rfl, rfl⟩))
    (fun os started H enc _ => lifted os started H enc)

/-- ████ THE STATEMENT ████ -/
theorem proved : Rows.FnMeetsAddOneNodeSaid := over
#print axioms proved
end Go.Proofs.Qxb6627773a.fnMeetsAddOneNode
