import Derived.Test.Qxb6627667aWalk
import Derived.ProofKit
import Derived.OpenShut
import Derived.ShutString
import Derived.ChangeOld
import Derived.Below
import Derived.SizedLaws
import Derived.Deep.Slices
namespace Go.Proofs.Qxb6627667a
open Go.ChangeShapes Go.WideShapes Go.ChangeAt Go.RowKit
open Go.ChangeMaps (open_string shut_string)

theorem Try.cells24 : Try.prog.cellsOf 24 = 11 := by kernel_rfl
theorem Try.cells2 : Try.prog.cellsOf 2 = 1 := by kernel_rfl
theorem Try.cells9 : Try.prog.cellsOf 9 = 1 := by kernel_rfl
theorem Try.cells4 : Try.prog.cellsOf 4 = 1 := by kernel_rfl
theorem Try.bytes24 : Try.prog.bytesOf 24 = 128 := by kernel_rfl
theorem own : ownKnob Try.prog.godebug = none := by kernel_rfl
theorem laidOut : laidOutB Try.prog = true := by kernel_rfl

theorem wf_i64 {x : Int} (h : (Lit.int .i64 x).wf = true) : I64 x := bounds_i64 h

/-- A StackedPR opened. -/
theorem pr_open {H : Type} {enc : TypeId × Value → H} {w : World} {base : Nat} {spare : Nat → Bool} {held : Bool} {fuel : Nat} {cs : List Value} {x : DataW H × List MemPlace}
    (h : DataW.trod enc Try.prog w base spare held fuel 24 cs = some x) : ∃ p : PR, cs = p.cells ∧ I64 p.retNs ∧ I64 p.satNs := by
  obtain ⟨xs, n, _, rfl, hl, hlen, hf⟩ := DataW.trod_struct Try.underlying24 h
  rw [Try.cells24] at hl
  match cs, hl, xs, hlen with
  | [c0, c1, c2, c3, c4, c5, c6, c7, c8, c9, c10], _, [y0, y1, y2, y3, y4, y5, y6, y7, y8, y9, y10], _ =>
    have g0 := hf 0 _ rfl
    have g1 := hf 1 _ rfl
    have g2 := hf 2 _ rfl
    have g3 := hf 3 _ rfl
    have g4 := hf 4 _ rfl
    have g5 := hf 5 _ rfl
    have g6 := hf 6 _ rfl
    have g7 := hf 7 _ rfl
    have g8 := hf 8 _ rfl
    have g9 := hf 9 _ rfl
    have g10 := hf 10 _ rfl
    simp [Try.cells2, Try.cells9, Try.cells4] at g0 g1 g2 g3 g4 g5 g6 g7 g8 g9 g10
    obtain ⟨a0, e0, -, -⟩ := DataW.trod_int Try.underlying2 g0
    obtain ⟨a1, e1, -, -⟩ := DataW.trod_string Try.underlying9 g1
    obtain ⟨a2, e2, -, -⟩ := DataW.trod_string Try.underlying9 g2
    obtain ⟨a3, e3, -, -⟩ := DataW.trod_string Try.underlying9 g3
    obtain ⟨a4, e4, -, -⟩ := DataW.trod_string Try.underlying9 g4
    obtain ⟨a5, e5, -⟩ := DataW.trod_bool Try.underlying4 g5
    obtain ⟨a6, e6, -, f6⟩ := DataW.trod_int Try.underlying2 g6
    obtain ⟨a7, e7, -, -⟩ := DataW.trod_int Try.underlying2 g7
    obtain ⟨a8, e8, -⟩ := DataW.trod_bool Try.underlying4 g8
    obtain ⟨a9, e9, -, -⟩ := DataW.trod_string Try.underlying9 g9
    obtain ⟨a10, e10, -, f10⟩ := DataW.trod_int Try.underlying2 g10
    cases e0; cases e1; cases e2; cases e3; cases e4; cases e5; cases e6; cases e7; cases e8; cases e9; cases e10
    exact ⟨⟨a0, a1, a2, a3, a4, a5, a6, a7, a8, a9, a10⟩, rfl, wf_i64 f10, wf_i64 f6⟩

/-- The slice of them opened: what the walk is told of it. -/
theorem open_open {H : Type} {enc : TypeId × Value → H} {w : World} {fuel : Nat} {ao : Option Addr} {n cap : Nat} {x : DataW H × List MemPlace}
    (h : DataW.trod enc Try.prog w 0 (fun _ => true) true fuel 22 [.slice ao n cap] = some x) :
    (∃ L : Nat → PR, OpenAt w ao n L ∧ ∀ k, k < n → I64 (L k).retNs ∧ I64 (L k).satNs) ∧ (x.1 = .nil ∧ n = 0 ∨ ∃ es sp : List (DataW H), x.1 = .slice es sp ∧ es.length = n) := by
  rcases Deep.open_slice Try.underlying22 h with ⟨hcs, rfl⟩ | ⟨a, len, cap', m, f, D, Pl, hcs, _, hl, hm, hmm, rfl, hel⟩
  · cases hcs
    exact ⟨⟨fun _ => ⟨0, ⟨#[]⟩, ⟨#[]⟩, ⟨#[]⟩, ⟨#[]⟩, false, 0, 0, false, ⟨#[]⟩, 0⟩, fun k hk => absurd hk (by omega), fun k hk => absurd hk (by omega)⟩, Or.inl ⟨rfl, rfl⟩⟩
  · cases hcs
    simp only [if_true] at hmm
    subst hmm
    have hall : ∀ k, k < n → ∃ p : PR, (w.cells? 0 (a.add (k * 11)) 11 = some p.cells) ∧ I64 p.retNs ∧ I64 p.satNs := fun k hk => by
      obtain ⟨cs', h1, h2⟩ := hel k (by omega)
      obtain ⟨p, rfl, hp⟩ := pr_open h2
      rw [Try.cells24] at h1
      exact ⟨p, h1, hp⟩
    have hspot : 0 < n → a.spot = none := fun h0 => by
      obtain ⟨p, h1, -⟩ := hall 0 h0
      obtain ⟨_, _, hc⟩ := World.cells?_some h1
      have h2 : w.cell? ((a.add (0 * 11)).add 0) = some (.int .i64 p.num) := hc 0 (by decide)
      have := World.cell?_spot h2
      simpa [Addr.add] using this
    refine ⟨⟨fun k => if hk : k < n then (hall k hk).choose else ⟨0, ⟨#[]⟩, ⟨#[]⟩, ⟨#[]⟩, ⟨#[]⟩, false, 0, 0, false, ⟨#[]⟩, 0⟩, fun k hk => ?_, fun k hk => ?_⟩, Or.inr ⟨_, _, rfl, by simp⟩⟩
    · simp only [dif_pos hk]
      have h1 := (hall k hk).choose_spec.1
      generalize (hall k hk).choose = p at h1
      have hblk := World.cells?_block h1 (by decide)
      obtain ⟨_, hlen, hc⟩ := World.cells?_some h1
      obtain ⟨b, off, spot⟩ := a
      have hspot : spot = none := hspot (by omega)
      subst hspot
      refine ⟨b, off, rfl, by simpa [Addr.add_mid] using hblk, fun j v hj => ?_⟩
      have hj11 : j < 11 := (List.getElem?_eq_some_iff.1 hj).1
      have := hc j hj11
      rw [Addr.add_mid, Addr.add_mid] at this
      rw [this]; exact hj
    · simp only [dif_pos hk]
      exact (hall k hk).choose_spec.2

set_option maxRecDepth 100000 in
theorem lifted (os : Os) (started : os.Started) (H : Type) (enc : TypeId × Value → H) :
    ReturnsInHanded {} Try.checked os 3 .any (Rows.fnStackedOneInsertedAnywhereSpec.pre6 enc Try.prog Try.f3 Rows.fnStackedOneInsertedAnywhereRow.domain false) (Rows.fnStackedOneInsertedAnywhereSpec.post enc Try.prog Try.f3 false true false false) := by
  refine returnsInHanded_of_change_sized (C := Try.checked) own started (by kernel_rfl) Try.func3
    (ChangeSpec.witness6 (enc := enc) (C := Try.checked) false ⟨#[], #[.int .i64 0, .string ByteArray.empty, .string ByteArray.empty, .string ByteArray.empty, .string ByteArray.empty, .int .i64 0, .slice none 0 0,
      .agg #[.int .i64 0, .string ByteArray.empty, .string ByteArray.empty, .string ByteArray.empty, .string ByteArray.empty, .bool false, .int .i64 0, .int .i64 0, .bool false, .string ByteArray.empty, .int .i64 0], .int .i64 0], []⟩ 8 (by kernel_rfl) (by kernel_rfl) (by kernel_rfl) (by kernel_rfl)) ?_
  intro W base args ds gs before hval0 hW hcnd hsz0 _
  have hsz : (DataW.weightsEach Try.prog (Try.f3.params.toList ++ Rows.fnStackedOneInsertedAnywhereSpec.plain.varTypes Try.prog) (ds ++ gs)).all (· ≤ reachBytes) = true := hsz0
  clear hsz0
  have hval : ∀ (j : Nat) t v, Try.f3.params[j]? = some t → args[j]? = some v → Value.okWide Try.prog W .any base t v := hval0
  have hW' := hW
  obtain ⟨p, q, hA0, hV, rfl, hfz, hnd⟩ := hW
  have hA : DataW.TrodAll enc Try.prog W 0 (fun _ => true) true Try.f3.params.toList args.toList ds p := hA0
  rw [Try.params3] at hA hval hsz
  obtain ⟨v0, vs0, d0, ds0, p0, q0, hargs, rfl, rfl, h0, r0⟩ := trodAll_cons hA
  obtain ⟨v1, vs1, d1, ds1, p1, q1, rfl, rfl, rfl, h1, r1⟩ := trodAll_cons r0
  obtain ⟨v2, vs2, d2, ds2, p2, q2, rfl, rfl, rfl, h2, r2⟩ := trodAll_cons r1
  obtain ⟨v3, vs3, d3, ds3, p3, q3, rfl, rfl, rfl, h3, r3⟩ := trodAll_cons r2
  obtain ⟨v4, vs4, d4, ds4, p4, q4, rfl, rfl, rfl, h4, r4⟩ := trodAll_cons r3
  obtain ⟨v5, vs5, d5, ds5, p5, q5, rfl, rfl, rfl, h5, r5⟩ := trodAll_cons r4
  obtain ⟨v6, vs6, d6, ds6, p6, q6, rfl, rfl, rfl, h6, r6⟩ := trodAll_cons r5
  obtain ⟨v7, vs7, d7, ds7, p7, q7, rfl, rfl, rfl, h7, r7⟩ := trodAll_cons r6
  obtain ⟨v8, vs8, d8, ds8, p8, q8, rfl, rfl, rfl, h8, r8⟩ := trodAll_cons r7
  obtain ⟨rfl, rfl, rfl⟩ := trodAll_nil r8
  obtain rfl : args = #[v0, v1, v2, v3, v4, v5, v6, v7, v8] := by cases args; simp_all
  obtain ⟨rfl, rfl⟩ := trodVars_none hV
  obtain ⟨a0, rfl, rfl, rfl, w0⟩ := open_int Try.underlying2 (hval 0 2 v0 rfl rfl) h0
  obtain ⟨a1, rfl, rfl, rfl, w1⟩ := open_string Try.underlying9 (hval 1 9 v1 rfl rfl) h1
  obtain ⟨a2, rfl, rfl, rfl, w2⟩ := open_string Try.underlying9 (hval 2 9 v2 rfl rfl) h2
  obtain ⟨a3, rfl, rfl, rfl, w3⟩ := open_string Try.underlying9 (hval 3 9 v3 rfl rfl) h3
  obtain ⟨a4, rfl, rfl, rfl, w4⟩ := open_string Try.underlying9 (hval 4 9 v4 rfl rfl) h4
  obtain ⟨a5, rfl, rfl, rfl, w5⟩ := open_int Try.underlying2 (hval 5 2 v5 rfl rfl) h5
  obtain ⟨a6, len6, cap6, rfl⟩ := okWide_slice Try.underlying22 (hval 6 22 v6 rfl rfl)
  obtain ⟨cs7, rfl, hs7⟩ := okWide_struct Try.underlying24 (hval 7 24 v7 rfl rfl)
  obtain ⟨a8, rfl, rfl, rfl, w8⟩ := open_int Try.underlying3 (hval 8 3 v8 rfl rfl) h8
  have k6 := h6
  have lt6 : ∀ x ∈ p6, x.block < W.heap.size := by obtain ⟨m, hm⟩ := k6; exact DataW.trod_lt m _ _ _ hm
  have k7 := h7
  have lt7 : ∀ x ∈ p7, x.block < W.heap.size := by obtain ⟨m, hm⟩ := k7; exact DataW.trod_lt m _ _ _ hm
  obtain ⟨f7, g7⟩ := h7
  obtain ⟨pr, e7, hpr⟩ := pr_open g7
  obtain rfl : cs7 = pr.cells.toArray := by rw [← e7]; simp [Value.cells]
  obtain ⟨f6, g6⟩ := h6
  obtain ⟨⟨L, hL, hLw⟩, hd6⟩ := open_open g6
  have hreach : len6 * 128 + 4096 ≤ 140737488355328 := by
    rcases hd6 with ⟨-, rfl⟩ | ⟨es, sp, e6, rfl⟩
    · decide
    · simp only at e6
      subst e6
      have := sized_slice hsz (j := 6) (t := 22) (e := 24) rfl rfl Try.underlying22
      rw [Try.bytes24] at this
      simp only [reachBytes] at this
      omega
  clear hA0 hval0
  refine (walk a0 a1 a2 a3 a4 a5 a6 len6 cap6 L pr a8 W (wf_i64 w5) hreach hL hLw hpr (wf_i64 w8)).mono fun e W' ⟨he, bel⟩ => ?_
  subst he
  exact ⟨_, rfl, _, _, _, [], _, [], hW', trodAll_mk1 (shut_bool Try.underlying4 _),
    (trodAll_cons_mk (shut_int Try.underlying2 w0) (trodAll_cons_mk (shut_string Try.underlying9 w1) (trodAll_cons_mk (shut_string Try.underlying9 w2) (trodAll_cons_mk (shut_string Try.underlying9 w3) (trodAll_cons_mk (shut_string Try.underlying9 w4) (trodAll_cons_mk (shut_int Try.underlying2 w5)
      (trodAll_cons_mk (Below.trod laidOut (by kernel_rfl) (of_decide_eq_true (by kernel_rfl)) k6 bel lt6) (trodAll_cons_mk (Below.trod laidOut (by kernel_rfl) (of_decide_eq_true (by kernel_rfl)) k7 bel lt7) (trodAll_cons_mk (shut_int Try.underlying3 w8) trodAll_mk0))))))))), rfl, bel.frame _, fun h => by cases h⟩

theorem over : Rows.fnStackedOneInsertedAnywhereRow.holds Try.pinned (OpenSpec.ofChange Rows.fnStackedOneInsertedAnywhereSpec) :=
  OpenClaim.holds_of_wide 3 Try.f3 rfl rfl rfl rfl rfl rfl rfl ⟨rfl, rfl, rfl, rfl, rfl⟩ rfl rfl rfl rfl rfl (by kernel_rfl) Try.func3 (by kernel_rfl)
    (of_decide_eq_true (by kernel_rfl)) (by unfold Func.isWrapper; first | (rw [if_pos (by decide +kernel)]; kernel_rfl) | (rw [if_neg (by decide +kernel)]; exact ⟨rfl, rfl⟩))
    (fun os started H enc _ => lifted os started H enc)

/-- THE STATEMENT. -/
theorem proved : Rows.FnStackedOneInsertedAnywhereSaid := over
#print axioms proved
end Go.Proofs.Qxb6627667a
