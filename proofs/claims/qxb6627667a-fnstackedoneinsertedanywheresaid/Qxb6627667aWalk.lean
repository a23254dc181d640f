/-
  THE WALK: the law returns true, whatever the input.
-/
import Derived.Test.Qxb6627667aEnv
import Derived.Deep.QuietTactic
import Derived.BigQuiet
import Derived.WalkSmall
namespace Go.Proofs.Qxb6627667a
open Go.RowKit

theorem Try.size33 : (Try.prog.info? 33).map (·.size) = some 8 := by kernel_rfl

theorem Env.recAt {w0 W : World} {p : PR} {LC : List Value} {gl g : Nat} {R : List Rec} (h : Env w0 W p LC gl g R) : RecAt W (some ⟨g, 0, none⟩) R := fun k x hx =>
  ⟨g, 0, rfl, h.l3, by rw [Nat.zero_add]; exact h.recs k x hx⟩

theorem land_cells {w : World} {g : Nat} {n : Int} {t h hb c : ByteArray} {ns : Int} (hl : w.rangeAt g 0 (lcells n t h hb c ns)) :
    w.cell? ⟨g, 0, none⟩ = some (.int .i64 n) ∧ w.cell? ⟨g, 1, none⟩ = some (.string t) ∧ w.cell? ⟨g, 2, none⟩ = some (.string h) ∧ w.cell? ⟨g, 3, none⟩ = some (.string hb) ∧ w.cell? ⟨g, 4, none⟩ = some (.string c) ∧ w.cell? ⟨g, 5, none⟩ = some (.int .u64 (tWall ns)) ∧ w.cell? ⟨g, 6, none⟩ = some (.int .i64 (tExt ns)) ∧ w.cell? ⟨g, 7, none⟩ = some (.pointer none) :=
  ⟨hl 0 _ rfl, hl 1 _ rfl, hl 2 _ rfl, hl 3 _ rfl, hl 4 _ rfl, hl 5 _ rfl, hl 6 _ rfl, hl 7 _ rfl⟩

theorem box_cells {w : World} {g : Nat} {p : PR} (h : w.rangeAt g 0 p.cells) :
    w.cell? ⟨g, 0, none⟩ = some (.int .i64 p.num) ∧ w.cell? ⟨g, 1, none⟩ = some (.string p.title) ∧ w.cell? ⟨g, 2, none⟩ = some (.string p.target) ∧ w.cell? ⟨g, 3, none⟩ = some (.string p.sha) ∧ w.cell? ⟨g, 4, none⟩ = some (.string p.branch)
      ∧ w.cell? ⟨g, 5, none⟩ = some (.bool p.has) ∧ w.cell? ⟨g, 6, none⟩ = some (.int .i64 p.satNs) ∧ w.cell? ⟨g, 7, none⟩ = some (.int .i64 p.sid) ∧ w.cell? ⟨g, 8, none⟩ = some (.bool p.unap) ∧ w.cell? ⟨g, 9, none⟩ = some (.string p.former) ∧ w.cell? ⟨g, 10, none⟩ = some (.int .i64 p.retNs) :=
  ⟨h 0 _ rfl, h 1 _ rfl, h 2 _ rfl, h 3 _ rfl, h 4 _ rfl, h 5 _ rfl, h 6 _ rfl, h 7 _ rfl, h 8 _ rfl, h 9 _ rfl, h 10 _ rfl⟩

theorem on_val (n : Int) (t hb : ByteArray) (ns : Int) (p : PR) (w : World) (v : Bool) (hv : onB n t hb ns p = v) :
    Calls Try.prog 11 #[.int .i64 n, .string t, .string hb, .int .i64 ns, .agg p.cells.toArray] w fun e w' => e = .returned (.bool v) ∧ Below w.heap.size w w' := by
  subst hv; exact on_any n t hb ns p w

theorem ins_shift (F G : List Rec) (y : Rec) (j : Nat) (h : F.length ≤ j) : (F ++ y :: G)[j + 1]? = (F ++ G)[j]? := by
  rw [List.getElem?_append_right (by omega), List.getElem?_append_right h, show j + 1 - F.length = (j - F.length) + 1 by omega]; rfl

/-- THE PLAIN LAW, on lists. -/
theorem plain (R : List Rec) (m k : Nat) (y : Rec) (K : Rec → Bool) {f1 f2 f3 : Nat} (hR : R.length = k) (h2 : ((R.take m).filter K).length = f2) (h1 : (R.filter K).length = f1) (h3 : ((insR R m y k).filter K).length = f3) :
    ∃ F2 G : List Rec, F2.length = f2 ∧ F2.length + G.length = f1 ∧ f1 ≤ k ∧ R.filter K = F2 ++ G ∧ (R.take m).filter K = F2 ∧
      (K y = false → f3 = f1 ∧ (insR R m y k).filter K = F2 ++ G) ∧ (K y = true → f3 = f1 + 1 ∧ (insR R m y k).filter K = F2 ++ y :: G) := by
  subst hR h2 h1 h3
  have e1 : R.filter K = (R.take m).filter K ++ (R.drop m).filter K := by rw [← List.filter_append, List.take_append_drop]
  refine ⟨(R.take m).filter K, (R.drop m).filter K, rfl, ?_, List.length_filter_le _ _, e1, rfl, fun hy => ?_, fun hy => ?_⟩
  · rw [e1, List.length_append]
  · have e3 : (insR R m y R.length).filter K = (R.take m).filter K ++ (R.drop m).filter K := by rw [insR_end, List.filter_append, List.filter_cons, hy]; rfl
    exact ⟨by rw [e3, e1], e3⟩
  · have e3 : (insR R m y R.length).filter K = (R.take m).filter K ++ y :: (R.drop m).filter K := by rw [insR_end, List.filter_append, List.filter_cons, hy]; rfl
    exact ⟨by rw [e3, e1]; simp; omega, e3⟩

set_option maxRecDepth 100000 in
set_option maxHeartbeats 4000000 in
theorem walk (n1 : Int) (t h hb c : ByteArray) (ns : Int) (ao : Option Addr) (n cap : Nat) (L : Nat → PR) (p : PR) (i : Int) (w : World)
    (hns : I64 ns) (hn : n * 128 + 4096 ≤ 140737488355328) (ho : OpenAt w ao n L) (hL : ∀ k, k < n → I64 (L k).retNs ∧ I64 (L k).satNs) (hp : I64 p.retNs ∧ I64 p.satNs) (hi : I64 i) :
    Calls Try.prog 3 #[.int .i64 n1, .string t, .string h, .string hb, .string c, .int .i64 ns, .slice ao n cap, p.val, .int .i64 i] w fun e w' => e = .returned (.bool true) ∧ Below w.heap.size w w' := by
  have hnn : n ≤ 9223372036854775807 := by omega
  have hlp : (Try.prog.info? 24).map (·.size) = some p.cells.length := Try.size24
  have B0 := Boxed.start w p
  have ho0 := openAt_below ho B0.below
  simp only [PR.val, PR.cells]
  go_enter Try.func3, Try.ntmps3
  go_wp2_with fail
  refine (bytes_any _ t h hb c _ ao n cap L p i _ hnn ho0).mono ?_
  rintro e w1 ⟨⟨b1, rfl⟩, hb1⟩
  have B1 := B0.step hb1
  have ho1 := openAt_below ho B1.below
  clear B0 ho0 hb1
  cases b1 with
  | false =>
    go_wp2_with fail
    go_ret
    exact ⟨rfl, B1.below⟩
  | true =>
  go_wp2_with (first | (refine wpList_load_mid rfl 24 (.tmp 16) rfl w.heap.size 0 rfl p.cells _ ?_ Try.underlying24 rfl hlp ?_; exact B1.box) | fail)
  refine (sAddPR_any _ p _).mono ?_
  rintro e w2 ⟨⟨r, rfl⟩, c2, rfl⟩
  have B2 := B1.alloc (.cells c2 24)
  have ho2 := openAt_below ho B2.below
  clear B1 ho1
  go_wp2_with fail
  refine (tooBig_any _ t h hb c ao n cap L _ hnn ho2).mono ?_
  rintro e w3 ⟨⟨b3, rfl⟩, hb3⟩
  have B3 := B2.step hb3
  have ho3 := openAt_below ho B3.below
  clear B2 ho2 hb3
  cases b3 with
  | true =>
    go_wp2_with fail
    go_ret
    exact ⟨rfl, B3.below⟩
  | false =>
  by_cases hi0 : i < 0
  · go_wp2_with fail
    go_ret
    exact ⟨rfl, B3.below⟩
  by_cases hi1 : (n : Int) < i
  · go_wp2_with fail
    go_ret
    exact ⟨rfl, B3.below⟩
  obtain ⟨m, rfl⟩ : ∃ m : Nat, i = m := ⟨i.toNat, by omega⟩
  have hm : m ≤ n := by omega
  clear hi0 hi1 hi
  go_wp2_with fail
  refine (landing_lit n1 t h hb c ns _ hns).mono ?_
  rintro e w4 ⟨rfl, hb4⟩
  have B4 := B3.step hb4
  have E5 := LandEnv.start B4 (lcells n1 t h hb c ns)
  clear B3 ho3 hb4 B4
  go_wp2_with fail
  refine (build_any ao n cap L _ (by omega) (openAt_below ho E5.boxed.below) hL).mono ?_
  rintro e w6 ⟨rfl, q, hinv⟩
  have E6 : Env w w6 p (lcells n1 t h hb c ns) w4.heap.size (w4.heap.size + 1) (recsOf L q n) := by simpa using E5.built hinv
  clear E5 hinv
  go_wp2_with (first | (at_make; refine Stop.go ?_) | fail)
  obtain ⟨R, hR⟩ : ∃ R, R = recsOf L q n := ⟨_, rfl⟩
  have hRn : R.length = n := by rw [hR]; exact recsOf_len L q n
  rw [← hR] at E6
  have HR : Hid (R.length = n) := hRn
  clear hR hRn ho hL q
  obtain ⟨i0, hi0, hz0, hz1, hz2⟩ := info_parts Try.info39
  unfold Stop
  refine wpList_make_own _ rfl _ _ 35 rfl w6.heap.size 39 i0 _ 11 Try.underlying35 hi0 hz0 hz1 _ _ _ (n + 1) rfl rfl (by omega) (by rw [hz2]; omega) (by unfold maxLen; omega) (Nat.le_refl _) ?_
  intro w7 hown7 hgrow7
  have hb7 : Below w6.heap.size w6 w7 := (Below.refl _ _).grown hgrow7 (Nat.le_refl _) (by simp)
  clear hgrow7
  have HO7 : Hid (w7.ownsRow w6.heap.size 39 11 (.slice (some ⟨w6.heap.size, 0, none⟩) 0 (n + 1)) 0 []) := hown7
  clear hown7
  go_wp2_with fail
  go_loopw [21, 22] (fun v i wr => ∃ k : Nat, i = .int .i64 k ∧ k ≤ m ∧ v = .slice (some ⟨w6.heap.size, 0, none⟩) k (n + 1) ∧ wr.ownsRow w6.heap.size 39 11 (.slice (some ⟨w6.heap.size, 0, none⟩) k (n + 1)) k (flat (R.take k)) ∧ Below w6.heap.size w6 wr) (fun _ i _ => m - (intOf i).toNat)
  case atStart => exact ⟨0, rfl, Nat.zero_le _, rfl, HO7.out, hb7⟩
  case round =>
    clear hb7 HO7
    obtain ⟨k, rfl, hk, rfl, hown, hbel⟩ := hrel
    by_cases hlt : k < m
    · obtain ⟨x, hx⟩ : ∃ x, R[k]? = some x := ⟨R[k]'(by have := HR.out; omega), by simp⟩
      have hc := range_below (E6.recs k x hx) hbel E6.l3
      obtain ⟨⟨p0, p1, p2, p3, p4, p5, p6, p7, p8, p9, p10⟩, q⟩ := x
      obtain ⟨q0, q1, q2, q3, q4, q5, q6, q7, q8, q9, q10⟩ := rec_at hc
      simp only at q0 q1 q2 q3 q4 q5 q6 q7 q8 q9 q10
      have HX : Hid (R[k]? = some _) := hx
      have HO : Hid (wr.ownsRow _ 39 11 _ _ _) := hown
      have HB : Hid (Below w6.heap.size w6 wr) := hbel
      have hln : k < n := by omega
      clear hx hown hbel hc
      go_wp2_with (first | (at_builtin; refine Stop.go ?_) | fail)
      unfold Stop
      refine wpList_append_fits _ rfl _ _ 35 rfl w6.heap.size 39 i0 11 Try.underlying35 hi0 hz1 w6.heap.size k (n + 1) (flat (R.take k)) rfl (HO.out.alloc _) _ 1 1 (PR.fcells ⟨p0, p1, p2, p3, p4, p5, p6, p7, p8, p9, p10⟩ q) rfl rfl (cells_new _ _ (PR.fcells ⟨p0, p1, p2, p3, p4, p5, p6, p7, p8, p9, p10⟩ q) _ (by simp)) (fcells_one _ _) (by omega) ?_
      intro w8 hown8 hgrow8
      have HB8 : Hid (Below w6.heap.size w6 w8) := Below.grown (HB.out.alloc HB.out.size _) hgrow8 (by have := HB.out.size; simp; omega) (by rintro _ ⟨⟩; exact Nat.le_refl _)
      have HO8 : Hid (w8.ownsRow w6.heap.size 39 11 (.slice (some ⟨w6.heap.size, 0, none⟩) (k + 1) (n + 1)) (k + 1) (flat (R.take (k + 1)))) := by rw [flat_take HX.out]; exact hown8
      clear hown8 hgrow8 HB HO
      go_wp2_with fail
      go_roundw
      case rel => exact ⟨k + 1, by go_num, by omega, rfl, HO8.out, HB8.out⟩
      case measure => simp [intOf]; omega
    · have hkm : m = k := by omega
      subst hkm
      have HO : Hid (wr.ownsRow _ 39 11 _ _ _) := hown
      have E7 := E6.step hbel
      have HB : Hid (Below w6.heap.size w6 wr) := hbel
      clear hown hbel hlt hk
      go_wp2_with (first | (refine wpList_load_mid rfl 24 (.tmp 16) rfl w.heap.size 0 rfl p.cells _ ?_ Try.underlying24 rfl hlp ?_; exact E7.box) | fail)
      refine (toForge_lit p _ hp).mono ?_
      rintro e w8 ⟨q, rfl, hb8, hs8⟩
      have HO8 := owns_below HO.out hb8
      have hlt8 : w6.heap.size < wr.heap.size := (HO.out.lt _ rfl).2
      have HS8 : Sched (w6.heap.size + 1) w8 p q := sched_mono hs8 (by omega)
      have HB8 : Below w6.heap.size w6 w8 := HB.out.trans (hb8.mono HB.out.size)
      clear HO HB hb8 hs8 E7
      go_wp2_with (first | (at_builtin; refine Stop.go ?_) | fail)
      unfold Stop
      refine wpList_append_fits _ rfl _ _ 35 rfl w6.heap.size 39 i0 11 Try.underlying35 hi0 hz1 w6.heap.size m (n + 1) (flat (R.take m)) rfl (HO8.alloc _) _ 1 1 (PR.fcells p q) rfl rfl (cells_new _ _ (PR.fcells p q) _ (by simp)) (fcells_one _ _) (by omega) ?_
      intro w9 hown9 hgrow9
      have HB9 : Below w6.heap.size w6 w9 := Below.grown (HB8.alloc HB8.size _) hgrow9 (by have := HB8.size; simp; omega) (by rintro _ ⟨⟩; exact Nat.le_refl _)
      have HO9 : w9.ownsRow w6.heap.size 39 11 (.slice (some ⟨w6.heap.size, 0, none⟩) (m + 1) (n + 1)) (m + 1) (flat (insR R m (p, q) m)) := by rw [insR_start, flat_snoc]; exact hown9
      have HS9 : Sched (w6.heap.size + 1) w9 p q := sched_grown (sched_below HS8 ((Below.refl _ _).alloc (Nat.le_refl _) _)) hgrow9
      clear hown9 hgrow9 HB8 HO8 HS8 hlt8
      go_wp2_with fail
      go_loopw [21, 23] (fun v i wr => ∃ k : Nat, i = .int .i64 k ∧ m ≤ k ∧ k ≤ n ∧ v = .slice (some ⟨w6.heap.size, 0, none⟩) (k + 1) (n + 1) ∧ wr.ownsRow w6.heap.size 39 11 (.slice (some ⟨w6.heap.size, 0, none⟩) (k + 1) (n + 1)) (k + 1) (flat (insR R m (p, q) k)) ∧ Below w6.heap.size w6 wr ∧ Sched (w6.heap.size + 1) wr p q) (fun _ i _ => n - (intOf i).toNat)
      case atStart => exact ⟨m, rfl, Nat.le_refl _, hm, rfl, HO9, HB9, HS9⟩
      case round =>
        clear HO9 HB9 HS9
        obtain ⟨k, rfl, hmk, hk, rfl, hown, hbel, hsch⟩ := hrel
        by_cases hlt : k < n
        · obtain ⟨x, hx⟩ : ∃ x, R[k]? = some x := ⟨R[k]'(by have := HR.out; omega), by simp⟩
          have hc := range_below (E6.recs k x hx) hbel E6.l3
          obtain ⟨⟨p0, p1, p2, p3, p4, p5, p6, p7, p8, p9, p10⟩, q'⟩ := x
          obtain ⟨q0, q1, q2, q3, q4, q5, q6, q7, q8, q9, q10⟩ := rec_at hc
          simp only at q0 q1 q2 q3 q4 q5 q6 q7 q8 q9 q10
          have HX : Hid (R[k]? = some _) := hx
          have HO : Hid (wr.ownsRow _ 39 11 _ _ _) := hown
          have HB : Hid (Below w6.heap.size w6 wr) := hbel
          have HS : Hid (Sched (w6.heap.size + 1) wr p q) := hsch
          clear hx hown hbel hc hsch
          go_wp2_with (first | (at_builtin; refine Stop.go ?_) | fail)
          unfold Stop
          refine wpList_append_fits _ rfl _ _ 35 rfl w6.heap.size 39 i0 11 Try.underlying35 hi0 hz1 w6.heap.size (k + 1) (n + 1) (flat (insR R m (p, q) k)) rfl (HO.out.alloc _) _ 1 1 (PR.fcells ⟨p0, p1, p2, p3, p4, p5, p6, p7, p8, p9, p10⟩ q') rfl rfl (cells_new _ _ (PR.fcells ⟨p0, p1, p2, p3, p4, p5, p6, p7, p8, p9, p10⟩ q') _ (by simp)) (fcells_one _ _) (by omega) ?_
          intro w8 hown8 hgrow8
          have HB8 : Hid (Below w6.heap.size w6 w8) := Below.grown (HB.out.alloc HB.out.size _) hgrow8 (by have := HB.out.size; simp; omega) (by rintro _ ⟨⟩; exact Nat.le_refl _)
          have HO8 : Hid (w8.ownsRow w6.heap.size 39 11 (.slice (some ⟨w6.heap.size, 0, none⟩) (k + 1 + 1) (n + 1)) (k + 1 + 1) (flat (insR R m (p, q) (k + 1)))) := by rw [flat_insR _ hmk HX.out]; exact hown8
          have HS8 : Hid (Sched (w6.heap.size + 1) w8 p q) := sched_grown (sched_below HS.out ((Below.refl _ _).alloc (Nat.le_refl _) _)) hgrow8
          clear hown8 hgrow8 HB HO HS
          go_wp2_with fail
          go_roundw
          case rel => exact ⟨k + 1, by go_num, by omega, by omega, rfl, HO8.out, HB8.out, HS8.out⟩
          case measure => simp [intOf]; omega
        · have hkn : k = n := by omega
          subst hkn
          have E9 := E6.step hbel
          have hlen : (insR R m (p, q) k).length = k + 1 := by have := HR.out; rw [← this, insR_end]; simp; omega
          have hins : RecAt wr (some ⟨w6.heap.size, 0, none⟩) (insR R m (p, q) k) := by
            obtain ⟨ao1, cap1, e1, h1⟩ := owns_rec hown hlen
            cases e1
            exact h1
          have HL : Hid ((insR R m (p, q) k).length = k + 1) := hlen
          have hl33 : (Try.prog.info? 33).map (·.size) = some (lcells n1 t h hb c ns).length := Try.size33
          have hbase : RecAt wr (some ⟨w4.heap.size + 1, 0, none⟩) R := E9.recAt
          clear hown hbel hlt hk hlen E6 hmk
          go_wp2_with (first | (refine wpList_load_mid rfl 33 (.tmp 19) rfl w4.heap.size 0 rfl (lcells n1 t h hb c ns) _ ?_ Try.underlying33 rfl hl33 ?_; exact E9.land) | fail)
          refine (stacked_len n1 t h hb c ns _ k k R _ HR.out (by omega) hbase).mono ?_
          rintro e w10 ⟨f1, ao1, cap1, rfl, hb10, hl1, hr1⟩
          have E10 := E9.step hb10
          have hins10 := recAt_below hins hb10
          have hsch10 := sched_below hsch hb10
          have hbase10 := recAt_take (recAt_below hbase hb10) m
          obtain ⟨d0, d1, d2, d3, d4, d5, d6, d7⟩ := land_cells E10.land
          have H1 : Hid ((R.filter (keepB n1 t h hb ns)).length = f1) := hl1
          have HT : (R.take m).length = m := by have := HR.out; simp; omega
          have HT' : Hid ((R.take m).length = m) := HT
          clear E9 hins hsch hbase hb10 hl1 HT
          have hm0 : (0 : Int) ≤ (m : Int) := by omega
          have hmk' : (m : Int) ≤ (k : Int) := by omega
          go_wp2_with fail
          go_region_held3 (fun w' => w'.cell? ⟨w4.heap.size, 0, none⟩ = some (.int .i64 n1) ∧ w'.cell? ⟨w4.heap.size, 1, none⟩ = some (.string t) ∧ w'.cell? ⟨w4.heap.size, 2, none⟩ = some (.string h) ∧ w'.cell? ⟨w4.heap.size, 3, none⟩ = some (.string hb) ∧ w'.cell? ⟨w4.heap.size, 4, none⟩ = some (.string c) ∧ w'.cell? ⟨w4.heap.size, 5, none⟩ = some (.int .u64 (tWall ns)) ∧ w'.cell? ⟨w4.heap.size, 6, none⟩ = some (.int .i64 (tExt ns)) ∧ w'.cell? ⟨w4.heap.size, 7, none⟩ = some (.pointer none)) (simp [go_sem, *])
            ((go_at_call 10; refine (stacked_len n1 t h hb c ns _ m _ (R.take m) _ HT'.out (by omega) ?_).mono ?_; exact recAt_below hbase10 (Below.drew (Below.refl _ _)); rintro e w11 ⟨f2, ao2, cap2, rfl, hb11, hl2, hr2⟩; have hbd := (Below.drew (Below.refl w10.heap.size w10)).trans hb11; obtain ⟨y0, y1, y2, y3, y4, y5, y6, y7⟩ := land_cells (E10.step hbd).land))
          have E11 := E10.step hbd
          have hins11 := recAt_below hins10 hbd
          have hsch11 := sched_below hsch10 hbd
          have hr1' := recAt_below hr1 hbd
          have H2 : Hid (((R.take m).filter (keepB n1 t h hb ns)).length = f2) := hl2
          clear E10 hins10 hsch10 hr1 hl2 hb11 hbd hbase10 d0 d1 d2 d3 d4 d5 d6 d7
          go_wp2_with fail
          refine (stacked_len n1 t h hb c ns _ (k + 1) _ (insR R m (p, q) k) _ HL.out (by omega) hins11).mono ?_
          rintro e w12 ⟨f3, ao3, cap3, rfl, hb12, hl3, hr3⟩
          have E12 := E11.step hb12
          have hsch12 := sched_below hsch11 hb12
          have A1 := recAt_below hr1' hb12
          have A2 := recAt_below hr2 hb12
          obtain ⟨F2, G, L2, L1, L3, g1, g2, g3, g4⟩ := plain R m k (p, q) (keepB n1 t h hb ns) HR.out H2.out H1.out hl3
          rw [g1] at A1
          rw [g2] at A2
          have hf1 : f1 ≤ 2000000000000 := by omega
          have hf2 : f2 ≤ f1 := by omega
          have HL : Hid (F2.length = f2 ∧ F2.length + G.length = f1) := ⟨L2, L1⟩
          have HG : Hid (_ ∧ _) := ⟨g3, g4⟩
          clear E11 hins11 hsch11 hr1' hr2 hb12 H1 H2 HT' HR g1 g2 y0 y1 y2 y3 y4 y5 y6 y7 hm0 hmk' hi0 hz0 hz1 hz2 hl33 hm hn hnn hl3 L1 L2 L3 g3 g4
          have K29 := eq29
          have K37 := eq37
          go_wp2_with fail
          go_loopw [28] (fun i wr => ∃ j : Nat, i = .int .i64 j ∧ j ≤ f2 ∧ Below w12.heap.size w12 wr) (fun i _ => f2 - (intOf i).toNat)
          case atStart => exact ⟨0, rfl, Nat.zero_le _, Below.refl _ _⟩
          case round =>
            obtain ⟨j, rfl, hj, hbel⟩ := hrel
            by_cases hlt : j < f2
            · obtain ⟨x, hx⟩ : ∃ x, F2[j]? = some x := ⟨F2[j]'(by have := HL.out; omega), by simp⟩
              have hx1 : (F2 ++ G)[j]? = some x := by rw [List.getElem?_append_left (by have := HL.out; omega)]; exact hx
              obtain ⟨b1, o1, rfl, hlt1, hc1⟩ := recAt_below A1 hbel j x hx1
              obtain ⟨b2, o2, rfl, hlt2, hc2⟩ := recAt_below A2 hbel j x hx
              obtain ⟨⟨p0, p1, p2, p3, p4, p5, p6, p7, p8, p9, p10⟩, q'⟩ := x
              obtain ⟨q0, q1, q2, q3, q4, q5, q6, q7, q8, q9, q10⟩ := rec_at hc1
              obtain ⟨z0, z1, z2, z3, z4, z5, z6, z7, z8, z9, z10⟩ := rec_at hc2
              simp only at q0 q1 q2 q3 q4 q5 q6 q7 q8 q9 q10 z0 z1 z2 z3 z4 z5 z6 z7 z8 z9 z10
              have i0 : (0 : Int) ≤ (j : Int) := by omega
              have i1 : (j : Int) < (f1 : Int) := by omega
              have i2 : (j : Int) < (f2 : Int) := by omega
              clear hx hx1 hc1 hc2 hlt1 hlt2 A1 A2 hr3 E12 hsch12
              go_wp2_with fail
              go_quiet (fail)
              go_wp2_with fail
              go_roundw
              case rel => exact ⟨j + 1, by go_num, by omega, below_drewN hbel _⟩
              case measure => simp [intOf]; omega
            · have hbx := box_cells (E12.step hbel).box
              obtain ⟨x0, x1, x2, x3, x4, x5, x6, x7, x8, x9, x10⟩ := hbx
              cases hh : h.toList.isEmpty with
              | true =>
                have hK : keepB n1 t h hb ns (p, q) = false := by simp [keepB, hh]
                obtain ⟨e3, e4⟩ := HG.out.1 hK
                have A3 : RecAt w12 ao3 (F2 ++ G) := by rw [← e4]; exact hr3
                have u1 : f3 ≤ f1 := by omega
                have u2 : f1 ≤ f3 := by omega
                clear HG hr3 e3 e4 hK
                go_wp2_with fail
                go_loopw [29] (fun i wr => ∃ j : Nat, i = .int .i64 j ∧ j ≤ f1 ∧ Below w12.heap.size w12 wr) (fun i _ => f1 - (intOf i).toNat)
                case atStart => exact ⟨0, rfl, Nat.zero_le _, hbel⟩
                case round =>
                  clear x0 x1 x2 x3 x4 x5 x6 x7 x8 x9 x10
                  obtain ⟨j', rfl, hj', hbel'⟩ := hrel
                  by_cases hlt' : j' < f1
                  · obtain ⟨x, hx⟩ : ∃ x, (F2 ++ G)[j']? = some x := ⟨(F2 ++ G)[j']'(by have := HL.out; simp; omega), by simp⟩
                    obtain ⟨b1, o1, rfl, hlt1, hc1⟩ := recAt_below A1 hbel' j' x hx
                    obtain ⟨b2, o2, rfl, hlt2, hc2⟩ := recAt_below A3 hbel' j' x hx
                    obtain ⟨⟨p0, p1, p2, p3, p4, p5, p6, p7, p8, p9, p10⟩, q'⟩ := x
                    obtain ⟨q0, q1, q2, q3, q4, q5, q6, q7, q8, q9, q10⟩ := rec_at hc1
                    obtain ⟨z0, z1, z2, z3, z4, z5, z6, z7, z8, z9, z10⟩ := rec_at hc2
                    simp only at q0 q1 q2 q3 q4 q5 q6 q7 q8 q9 q10 z0 z1 z2 z3 z4 z5 z6 z7 z8 z9 z10
                    have i0 : (0 : Int) ≤ (j' : Int) := by omega
                    have i1 : (j' : Int) < (f1 : Int) := by omega
                    have i2 : (j' : Int) < (f3 : Int) := by omega
                    clear hx hc1 hc2 hlt1 hlt2 A1 A2 A3 E12 hsch12
                    go_wp2_with fail
                    go_quiet (fail)
                    go_wp2_with fail
                    go_roundw
                    case rel => exact ⟨j' + 1, by go_num, by omega, below_drewN hbel' _⟩
                    case measure => simp [intOf]; omega
                  · have hfin := (E12.step hbel').below
                    go_wp2_with fail
                    go_ret
                    exact ⟨rfl, hfin⟩
              | false =>
                cases hon : onB n1 t hb ns p with
                | false =>
                  have hK : keepB n1 t h hb ns (p, q) = false := by simp [keepB, hon]
                  obtain ⟨e3, e4⟩ := HG.out.1 hK
                  have A3 : RecAt w12 ao3 (F2 ++ G) := by rw [← e4]; exact hr3
                  have u1 : f3 ≤ f1 := by omega
                  have u2 : f1 ≤ f3 := by omega
                  clear HG hr3 e3 e4 hK
                  go_wp2_with fail
                  refine (on_val n1 t hb ns p _ false hon).mono ?_
                  rintro e w13 ⟨rfl, hb13⟩
                  have hbel13 := hbel.trans (hb13.mono hbel.size)
                  clear hb13
                  go_wp2_with fail
                  go_loopw [29] (fun i wr => ∃ j : Nat, i = .int .i64 j ∧ j ≤ f1 ∧ Below w12.heap.size w12 wr) (fun i _ => f1 - (intOf i).toNat)
                  case atStart => exact ⟨0, rfl, Nat.zero_le _, hbel13⟩
                  case round =>
                    clear x0 x1 x2 x3 x4 x5 x6 x7 x8 x9 x10
                    obtain ⟨j', rfl, hj', hbel'⟩ := hrel
                    by_cases hlt' : j' < f1
                    · obtain ⟨x, hx⟩ : ∃ x, (F2 ++ G)[j']? = some x := ⟨(F2 ++ G)[j']'(by have := HL.out; simp; omega), by simp⟩
                      obtain ⟨b1, o1, rfl, hlt1, hc1⟩ := recAt_below A1 hbel' j' x hx
                      obtain ⟨b2, o2, rfl, hlt2, hc2⟩ := recAt_below A3 hbel' j' x hx
                      obtain ⟨⟨p0, p1, p2, p3, p4, p5, p6, p7, p8, p9, p10⟩, q'⟩ := x
                      obtain ⟨q0, q1, q2, q3, q4, q5, q6, q7, q8, q9, q10⟩ := rec_at hc1
                      obtain ⟨z0, z1, z2, z3, z4, z5, z6, z7, z8, z9, z10⟩ := rec_at hc2
                      simp only at q0 q1 q2 q3 q4 q5 q6 q7 q8 q9 q10 z0 z1 z2 z3 z4 z5 z6 z7 z8 z9 z10
                      have i0 : (0 : Int) ≤ (j' : Int) := by omega
                      have i1 : (j' : Int) < (f1 : Int) := by omega
                      have i2 : (j' : Int) < (f3 : Int) := by omega
                      clear hx hc1 hc2 hlt1 hlt2 A1 A2 A3 E12 hsch12
                      go_wp2_with fail
                      go_quiet (fail)
                      go_wp2_with fail
                      go_roundw
                      case rel => exact ⟨j' + 1, by go_num, by omega, below_drewN hbel' _⟩
                      case measure => simp [intOf]; omega
                    · have hfin := (E12.step hbel').below
                      go_wp2_with fail
                      go_ret
                      exact ⟨rfl, hfin⟩
                | true =>
                  have hK : keepB n1 t h hb ns (p, q) = true := by simp [keepB, hon, hh]
                  obtain ⟨e3, e4⟩ := HG.out.2 hK
                  have A3 : RecAt w12 ao3 (F2 ++ (p, q) :: G) := by rw [← e4]; exact hr3
                  have u1 : f3 ≤ f1 + 1 := by omega
                  have u2 : f1 + 1 ≤ f3 := by omega
                  clear HG hr3 e3 e4 hK
                  go_wp2_with fail
                  refine (on_val n1 t hb ns p _ true hon).mono ?_
                  rintro e w13 ⟨rfl, hb13⟩
                  have hbel13 := hbel.trans (hb13.mono hbel.size)
                  clear hb13
                  go_wp2_with fail
                  go_loopw [30] (fun i wr => ∃ j : Nat, i = .int .i64 j ∧ j ≤ f2 ∧ Below w12.heap.size w12 wr) (fun i _ => f2 - (intOf i).toNat)
                  case atStart => exact ⟨0, rfl, Nat.zero_le _, hbel13⟩
                  case round =>
                    clear x0 x1 x2 x3 x4 x5 x6 x7 x8 x9 x10 hbel13 hbel
                    obtain ⟨j', rfl, hj', hbel'⟩ := hrel
                    by_cases hlt' : j' < f2
                    · obtain ⟨x, hx0⟩ : ∃ x, F2[j']? = some x := ⟨F2[j']'(by have := HL.out; omega), by simp⟩
                      have hx : (F2 ++ (p, q) :: G)[j']? = some x := by rw [List.getElem?_append_left (by have := HL.out; omega)]; exact hx0
                      have hx1 : (F2 ++ G)[j']? = some x := by rw [List.getElem?_append_left (by have := HL.out; omega)]; exact hx0
                      clear hx0
                      obtain ⟨b1, o1, rfl, hlt1, hc1⟩ := recAt_below A1 hbel' j' x hx1
                      obtain ⟨b2, o2, rfl, hlt2, hc2⟩ := recAt_below A3 hbel' j' x hx
                      obtain ⟨⟨p0, p1, p2, p3, p4, p5, p6, p7, p8, p9, p10⟩, q'⟩ := x
                      obtain ⟨q0, q1, q2, q3, q4, q5, q6, q7, q8, q9, q10⟩ := rec_at hc1
                      obtain ⟨z0, z1, z2, z3, z4, z5, z6, z7, z8, z9, z10⟩ := rec_at hc2
                      simp only at q0 q1 q2 q3 q4 q5 q6 q7 q8 q9 q10 z0 z1 z2 z3 z4 z5 z6 z7 z8 z9 z10
                      have i0 : (0 : Int) ≤ (j' : Int) := by omega
                      have i1 : (j' : Int) < (f1 : Int) := by omega
                      have i2 : (j' : Int) < (f3 : Int) := by omega
                      clear hx hx1 hc1 hc2 hlt1 hlt2 A1 A2 A3 E12 hsch12
                      go_wp2_with fail
                      go_quiet (fail)
                      go_wp2_with fail
                      go_roundw
                      case rel => exact ⟨j' + 1, by go_num, by omega, below_drewN hbel' _⟩
                      case measure => simp [intOf]; omega
                    · have hy : (F2 ++ (p, q) :: G)[f2]? = some (p, q) := by have := HL.out.1; rw [← this]; simp
                      have A3' := recAt_below A3 hbel'
                      obtain ⟨b3, o3, rfl, hlt3, hc3⟩ := A3' f2 (p, q) hy
                      have EE := E12.step hbel'
                      obtain ⟨z0, z1, z2, z3, z4, z5, z6, z7, z8, z9, z10⟩ := rec_at hc3
                      obtain ⟨x0, x1, x2, x3, x4, x5, x6, x7, x8, x9, x10⟩ := box_cells EE.box
                      have hs13 := sched_below hsch12 hbel'
                      have i0 : (0 : Int) ≤ (f2 : Int) := by omega
                      have i2 : (f2 : Int) < (f3 : Int) := by omega
                      clear A2 hsch12 hy
                      go_wp2_with fail
                      go_region_held3 (fun w' => w'.cell? ⟨b3, o3 + f2 * 11, none⟩ = some (.int .i64 p.num) ∧ w'.cell? ⟨b3, o3 + f2 * 11 + 1, none⟩ = some (.string p.title) ∧ w'.cell? ⟨b3, o3 + f2 * 11 + 2, none⟩ = some (.string p.target) ∧ w'.cell? ⟨b3, o3 + f2 * 11 + 3, none⟩ = some (.string p.sha) ∧ w'.cell? ⟨b3, o3 + f2 * 11 + 4, none⟩ = some (.string p.branch) ∧ w'.cell? ⟨b3, o3 + f2 * 11 + 5, none⟩ = some (.pointer q) ∧ w'.cell? ⟨b3, o3 + f2 * 11 + 6, none⟩ = some (.bool p.unap) ∧ w'.cell? ⟨b3, o3 + f2 * 11 + 7, none⟩ = some (.string p.former) ∧ w'.cell? ⟨b3, o3 + f2 * 11 + 8, none⟩ = some (.int .u64 (tWall p.retNs)) ∧ w'.cell? ⟨b3, o3 + f2 * 11 + 9, none⟩ = some (.int .i64 (tExt p.retNs)) ∧ w'.cell? ⟨b3, o3 + f2 * 11 + 10, none⟩ = some (.pointer none) ∧ w'.cell? ⟨w.heap.size, 0, none⟩ = some (.int .i64 p.num) ∧ w'.cell? ⟨w.heap.size, 1, none⟩ = some (.string p.title) ∧ w'.cell? ⟨w.heap.size, 2, none⟩ = some (.string p.target) ∧ w'.cell? ⟨w.heap.size, 3, none⟩ = some (.string p.sha) ∧ w'.cell? ⟨w.heap.size, 4, none⟩ = some (.string p.branch) ∧ w'.cell? ⟨w.heap.size, 5, none⟩ = some (.bool p.has) ∧ w'.cell? ⟨w.heap.size, 6, none⟩ = some (.int .i64 p.satNs) ∧ w'.cell? ⟨w.heap.size, 7, none⟩ = some (.int .i64 p.sid) ∧ w'.cell? ⟨w.heap.size, 8, none⟩ = some (.bool p.unap) ∧ w'.cell? ⟨w.heap.size, 9, none⟩ = some (.string p.former) ∧ w'.cell? ⟨w.heap.size, 10, none⟩ = some (.int .i64 p.retNs)) (simp [go_sem, *])
                        ((go_at_call 12; refine (same_any p q (w6.heap.size + 1) _ ?_ hp.1 hp.2).mono ?_; exact sched_below hs13 (Below.drew (Below.refl _ _)); rintro e w14 ⟨rfl, hb14⟩; have hbd := (Below.drew (Below.refl wr.heap.size wr)).trans hb14; obtain ⟨t0, t1, t2, t3, t4, t5, t6, t7, t8, t9, t10⟩ := rec_at (range_below hc3 hbd hlt3); obtain ⟨s0, s1, s2, s3, s4, s5, s6, s7, s8, s9, s10⟩ := box_cells (EE.step hbd).box))
                      have hb6 := hbel'.trans (hbd.mono hbel'.size)
                      clear hb14 hbd EE hc3 hlt3 A3' hs13 hbel' x0 x1 x2 x3 x4 x5 x6 x7 x8 x9 x10 z0 z1 z2 z3 z4 z5 z6 z7 z8 z9 z10 s0 s1 s2 s3 s4 s5 s6 s7 s8 s9 s10 t0 t1 t2 t3 t4 t5 t6 t7 t8 t9 t10
                      go_wp2_with fail
                      go_loopw [31] (fun i wr => ∃ j : Nat, i = .int .i64 j ∧ f2 ≤ j ∧ j ≤ f1 ∧ Below w12.heap.size w12 wr) (fun i _ => f1 - (intOf i).toNat)
                      case atStart => exact ⟨f2, rfl, Nat.le_refl _, hf2, hb6⟩
                      case round =>
                        clear hb6
                        obtain ⟨j', rfl, hj1, hj', hbel'⟩ := hrel
                        by_cases hlt' : j' < f1
                        · obtain ⟨x, hx1⟩ : ∃ x, (F2 ++ G)[j']? = some x := ⟨(F2 ++ G)[j']'(by have := HL.out; simp; omega), by simp⟩
                          have hx : (F2 ++ (p, q) :: G)[j' + 1]? = some x := by rw [ins_shift F2 G (p, q) j' (by have := HL.out; omega)]; exact hx1
                          obtain ⟨b1, o1, rfl, hlt1, hc1⟩ := recAt_below A1 hbel' j' x hx1
                          obtain ⟨b2, o2, e2, hlt2, hc2⟩ := recAt_below A3 hbel' (j' + 1) x hx
                          cases e2
                          obtain ⟨⟨p0, p1, p2, p3, p4, p5, p6, p7, p8, p9, p10⟩, q'⟩ := x
                          obtain ⟨q0, q1, q2, q3, q4, q5, q6, q7, q8, q9, q10⟩ := rec_at hc1
                          obtain ⟨z0, z1, z2, z3, z4, z5, z6, z7, z8, z9, z10⟩ := rec_at hc2
                          simp only at q0 q1 q2 q3 q4 q5 q6 q7 q8 q9 q10 z0 z1 z2 z3 z4 z5 z6 z7 z8 z9 z10
                          have i0 : (0 : Int) ≤ (j' : Int) := by omega
                          have i1 : (j' : Int) < (f1 : Int) := by omega
                          have i2 : (j' : Int) + 1 < (f3 : Int) := by omega
                          clear hx hx1 hc1 hc2 hlt1 hlt2 A1 A3 E12
                          go_wp2_with fail
                          go_quiet (fail)
                          go_wp2_with fail
                          go_roundw
                          case rel => exact ⟨j' + 1, by go_num, by omega, by omega, below_drewN hbel' _⟩
                          case measure => simp [intOf]; omega
                        · have hfin := (E12.step hbel').below
                          go_wp2_with fail
                          go_ret
                          exact ⟨rfl, hfin⟩
end Go.Proofs.Qxb6627667a
