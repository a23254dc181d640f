/-
  queue.Stacked: the row that it answers owns the records that are kept, in their order.
-/
import Derived.Test.Qxb6627667aBuild
namespace Go.Proofs.Qxb6627667a
open Go.RowKit

/-- A record: the pull request and where its scheduling lies. -/
abbrev Rec := PR × Option Addr
def Rec.cells (x : Rec) : List Value := x.1.fcells x.2
def flat (R : List Rec) : List Value := R.flatMap Rec.cells

theorem flat_len (R : List Rec) : (flat R).length = R.length * 11 := by
  induction R with
  | nil => rfl
  | cons x r ih => simp only [flat, List.flatMap_cons, List.length_append, List.length_cons] at *; rw [ih]; simp only [Rec.cells, fcells_len]; omega

/-- The records R lie at the slice 'ao'. -/
def RecAt (w : World) (ao : Option Addr) (R : List Rec) : Prop :=
  ∀ k x, R[k]? = some x → ∃ b off, ao = some ⟨b, off, none⟩ ∧ b < w.heap.size ∧ w.rangeAt b (off + k * 11) x.cells

theorem rec_at {w : World} {b o : Nat} {p : PR} {q : Option Addr} (h : w.rangeAt b o (p.fcells q)) :
    w.cell? ⟨b, o, none⟩ = some (.int .i64 p.num) ∧ w.cell? ⟨b, o + 1, none⟩ = some (.string p.title) ∧ w.cell? ⟨b, o + 2, none⟩ = some (.string p.target) ∧ w.cell? ⟨b, o + 3, none⟩ = some (.string p.sha) ∧ w.cell? ⟨b, o + 4, none⟩ = some (.string p.branch)
      ∧ w.cell? ⟨b, o + 5, none⟩ = some (.pointer q) ∧ w.cell? ⟨b, o + 6, none⟩ = some (.bool p.unap) ∧ w.cell? ⟨b, o + 7, none⟩ = some (.string p.former) ∧ w.cell? ⟨b, o + 8, none⟩ = some (.int .u64 (tWall p.retNs)) ∧ w.cell? ⟨b, o + 9, none⟩ = some (.int .i64 (tExt p.retNs)) ∧ w.cell? ⟨b, o + 10, none⟩ = some (.pointer none) :=
  ⟨h 0 _ rfl, h 1 _ rfl, h 2 _ rfl, h 3 _ rfl, h 4 _ rfl, h 5 _ rfl, h 6 _ rfl, h 7 _ rfl, h 8 _ rfl, h 9 _ rfl, h 10 _ rfl⟩

/-- A place at which the walk shall stand. -/
def Stop (p : Prop) : Prop := p
theorem Stop.go {p : Prop} (h : Stop p) : p := h

section
variable {n : Int} {t hb : ByteArray} {ns : Int} {p : PR}
theorem on_f1 (h : p.branch.toList = []) : onB n t hb ns p = false := by simp [onB, h]
theorem on_f2 (h : p.branch.toList = t.toList) : onB n t hb ns p = false := by simp [onB, h]
theorem on_f3 (h : (p.branch.toList.isEmpty = true ∨ (p.branch.toList == t.toList) = true) ∨ (p.num == n) = true) : onB n t hb ns p = false := by rcases h with (h | h) | h <;> simp [onB, h]
theorem on_f4 (h2 : (p.target.toList == hb.toList) = false) (h3 : (!decide (p.retNs < ns)) = false) : onB n t hb ns p = false := by
  have h4 : ¬ ns ≤ p.retNs := by simp at h3; omega
  simp [onB, h2, h4]
theorem on_f5 (h2 : (p.target.toList == hb.toList) = false) (h3 : ¬ p.former.toList = hb.toList) : onB n t hb ns p = false := by simp [onB, h2, h3]
theorem on_f6 (h2 : (p.target.toList == hb.toList) = false) (h3 : ¬ p.target.toList = t.toList) : onB n t hb ns p = false := by simp [onB, h2, h3]
theorem on_t1 (h : (p.branch.toList.isEmpty = false ∧ (p.branch.toList == t.toList) = false) ∧ (p.num == n) = false) (h2 : (p.target.toList == hb.toList) = true) : onB n t hb ns p = true := by simp [onB, h, h2]
theorem on_t2 (h : (p.branch.toList.isEmpty = false ∧ (p.branch.toList == t.toList) = false) ∧ (p.num == n) = false) (h2 : p.target.toList = t.toList) (h3 : p.former.toList = hb.toList) (h4 : (!decide (p.retNs < ns)) = true) : onB n t hb ns p = true := by
  have h5 : ns ≤ p.retNs := by simp at h4; omega
  simp [onB, h, h2, h3, h5]
end

theorem take_skip {R : List Rec} {k : Nat} {x : Rec} {f : Rec → Bool} (hx : R[k]? = some x) (hf : f x = false) : (R.take (k + 1)).filter f = (R.take k).filter f := by
  rw [List.take_add_one, hx]; simp [hf]
theorem take_keep {R : List Rec} {k : Nat} {x : Rec} {f : Rec → Bool} (hx : R[k]? = some x) (hf : f x = true) : (R.take (k + 1)).filter f = (R.take k).filter f ++ [x] := by
  rw [List.take_add_one, hx]; simp [hf]
theorem take_count (R : List Rec) (k : Nat) (f : Rec → Bool) : ((R.take k).filter f).length ≤ k := Nat.le_trans (List.length_filter_le _ _) (List.length_take_le _ _)
theorem flat_snoc (R : List Rec) (x : Rec) : flat (R ++ [x]) = flat R ++ x.cells := by simp [flat]

/-- The cells of a block that has just been laid. -/
theorem cells_new (w : World) (g : Nat) (cs : List Value) (ty : TypeId) (hg : g = w.heap.size) : ∀ j u, cs[j]? = some u → (w.alloc (.cells cs.toArray ty)).cell? ((⟨g, 0, none⟩ : Addr).add j) = some u := by
  intro j u hj
  subst hg
  rw [Addr.add_mid, cell_of_row _ _ _ cs.toArray ty (0, 0) (heap_alloc_new w _)]
  simpa using hj

theorem owns_mono {w : World} {B B' : Nat} {e : TypeId} {sz : Nat} {v : Value} {n : Nat} {xs : List Value} (h : w.ownsRow B e sz v n xs) (hB : B' ≤ B) : w.ownsRow B' e sz v n xs := by
  refine ⟨h.1, ?_⟩
  rcases h.2 with hn | ⟨g, cap, cur, rfl, hb, rest⟩
  · exact .inl hn
  · exact .inr ⟨g, cap, cur, rfl, Nat.le_trans hB hb, rest⟩

/-- The landing's cells, in the world behind the call's own blocks. -/
theorem landing_at {w wr : World} {B : Nat} {n : Int} {t h hb c : ByteArray} {ns : Int} {ty : TypeId} (hb' : Below (B + 1) (w.alloc (.cells (lcells n t h hb c ns).toArray ty)) wr) (hB : B = w.heap.size) :
    wr.cell? ⟨B, 0, none⟩ = some (.int .i64 n) ∧ wr.cell? ⟨B, 1, none⟩ = some (.string t) ∧ wr.cell? ⟨B, 3, none⟩ = some (.string hb) ∧ wr.cell? ⟨B, 5, none⟩ = some (.int .u64 (tWall ns)) ∧ wr.cell? ⟨B, 6, none⟩ = some (.int .i64 (tExt ns)) ∧ wr.cell? ⟨B, 7, none⟩ = some (.pointer none) := by
  subst hB
  refine ⟨?_, ?_, ?_, ?_, ?_, ?_⟩ <;> rw [hb'.cell (by simp)] <;> simp [lcells, go_sem]

set_option maxHeartbeats 2000000 in
theorem stacked_some (n : Int) (t h hb c : ByteArray) (ns : Int) (ao : Option Addr) (cap : Nat) (R : List Rec) (w : World) (hh : h.toList.isEmpty = false) (hn : R.length * 128 ≤ 140737488355328) (ho : RecAt w ao R) :
    Calls Try.prog 10 #[.agg (lcells n t h hb c ns).toArray, .slice ao R.length cap] w fun e w' => ∃ v, e = .returned v ∧ Below w.heap.size w w' ∧ w'.ownsRow w.heap.size 39 11 v (R.filter (fun x => onB n t hb ns x.1)).length (flat (R.filter (fun x => onB n t hb ns x.1))) := by
  have hbel0 : Below (w.heap.size + 1) (w.alloc (.cells (lcells n t h hb c ns).toArray 33)) (w.alloc (.cells (lcells n t h hb c ns).toArray 33)) := Below.refl _ _
  obtain ⟨i, hi, hz0, hz1, hz2⟩ := info_parts Try.info39
  unfold lcells
  go_enter Try.func10, Try.ntmps10
  go_wp2_with fail
  go_loopw [5, 13] (fun v i wr => ∃ k : Nat, i = .int .i64 k ∧ k ≤ R.length ∧ wr.ownsRow (w.heap.size + 1) 39 11 v ((R.take k).filter (fun x => onB n t hb ns x.1)).length (flat ((R.take k).filter (fun x => onB n t hb ns x.1))) ∧ Below (w.heap.size + 1) (w.alloc (.cells (lcells n t h hb c ns).toArray 33)) wr) (fun _ i _ => R.length - (intOf i).toNat)
  case atStart => exact ⟨0, rfl, Nat.zero_le _, World.ownsRow_nil _ _ _ _, hbel0⟩
  case round =>
    obtain ⟨k, rfl, hk, hown, hbel⟩ := hrel
    by_cases hlt : k < R.length
    · obtain ⟨x, hx⟩ : ∃ x, R[k]? = some x := ⟨R[k], by simp [hlt]⟩
      obtain ⟨b, off, rfl, hbl, hc⟩ := ho k x hx
      obtain ⟨l0, l1, l3, l5, l6, l7⟩ := landing_at hbel rfl
      obtain ⟨⟨p0, p1, p2, p3, p4, p5, p6, p7, p8, p9, p10⟩, q⟩ := x
      have hc' : wr.rangeAt b (off + k * 11) (PR.fcells ⟨p0, p1, p2, p3, p4, p5, p6, p7, p8, p9, p10⟩ q) := range_below (B := w.heap.size) hc (((Below.refl _ _).alloc (Nat.le_refl _) _).trans (hbel.mono (by omega))) hbl
      obtain ⟨q0, q1, q2, q3, q4, q5, q6, q7, q8, q9, q10⟩ := rec_at hc'
      simp only at q0 q1 q2 q3 q4 q5 q6 q7 q8 q9 q10
      have hsz : w.heap.size < wr.heap.size := by have := hbel.size; simp at this; omega
      clear hc' ho hc hbel0
      have HB : Hid (Below (w.heap.size + 1) (w.alloc (.cells (lcells n t h hb c ns).toArray 33)) wr) := hbel
      have HO : Hid (wr.ownsRow (w.heap.size + 1) 39 11 _ _ _) := hown
      have HX : Hid (R[k]? = some _) := hx
      clear hbel hown hx
      go_wp2_with (first
        | (at_builtin; refine Stop.go ?_)
        | (go_at_call 15; refine (before_any p10 ns _).mono ?_; rintro e w' ⟨rfl, c1, c2, rfl⟩))
      all_goals first
        | (exact absurd (‹(p2.toList == hb.toList) = true›.symm.trans ‹(p2.toList == hb.toList) = false›) (by decide))
        | (go_roundw
           case rel =>
             refine ⟨k + 1, by go_num, by omega, ?_, ?_⟩
             · rw [take_skip HX.out (by first | exact on_f1 ‹_› | exact on_f2 ‹_› | exact on_f3 ‹_› | exact on_f4 ‹_› ‹_› | exact on_f5 ‹_› ‹_› | exact on_f6 ‹_› ‹_›)]
               repeat (first | exact HO.out | apply World.ownsRow.alloc)
             · repeat (first | exact HB.out | (refine Below.alloc ?_ (by first | omega | (simp; omega)) _))
           case measure => simp [intOf]; omega)
        | skip
      all_goals
        have hon : onB n t hb ns ⟨p0, p1, p2, p3, p4, p5, p6, p7, p8, p9, p10⟩ = true := by first | exact on_t1 ‹_› ‹_› | exact on_t2 ‹_› ‹_› ‹_› ‹_›
        have hcnt := take_count R k (fun x => onB n t hb ns x.1)
        unfold Stop
        refine wpList_append_own _ rfl _ _ 35 rfl (w.heap.size + 1) 39 i _ 11 128 Try.underlying35 hi hz0 hz1 hz2 rfl (by decide) _ _ _ rfl (by repeat (first | exact HO.out | apply World.ownsRow.alloc)) _ 1 1 (PR.fcells ⟨p0, p1, p2, p3, p4, p5, p6, p7, p8, p9, p10⟩ q) rfl rfl (cells_new _ _ (PR.fcells ⟨p0, p1, p2, p3, p4, p5, p6, p7, p8, p9, p10⟩ q) _ (by simp)) (fcells_one _ _) ?_ ?_ ?_ ?_
        · unfold maxLen; omega
        · omega
        · simp; omega
        intro v' w1 hown' hgrow _
        have hlow : ∀ j, u5.ownBlock = some j → w.heap.size + 1 ≤ j := fun j hj => (HO.out.lt j hj).1
        have HG : Hid (Below (w.heap.size + 1) (w.alloc (.cells (lcells n t h hb c ns).toArray 33)) w1) := by
          refine Below.grown ?_ hgrow (by simp; omega) hlow
          repeat (first | exact HB.out | (refine Below.alloc ?_ (by first | omega | (simp; omega)) _))
        clear hgrow
        go_wp2_with fail
        go_roundw
        case rel => exact ⟨k + 1, by go_num, by omega, by rw [take_keep HX.out hon, flat_snoc, List.length_append]; exact hown', HG.out⟩
        case measure => simp [intOf]; omega
    · have e : k = R.length := by omega
      subst e
      rw [List.take_of_length_le (Nat.le_refl _)] at hown
      have HO := owns_mono hown (Nat.le_succ w.heap.size)
      have HB : Below w.heap.size w wr := ((Below.refl _ _).alloc (Nat.le_refl _) _).trans (hbel.mono (by omega))
      clear hown hbel ho hn
      go_wp2_with fail
      go_ret
      exact ⟨_, rfl, HB, HO⟩

/-- Does Stacked keep the record? -/
def keepB (n : Int) (t h hb : ByteArray) (ns : Int) (x : Rec) : Bool := !h.toList.isEmpty && onB n t hb ns x.1

set_option maxHeartbeats 400000 in
theorem stacked_none (n : Int) (t h hb c : ByteArray) (ns : Int) (ao : Option Addr) (len cap : Nat) (w : World) (hh : h.toList.isEmpty = true) :
    Calls Try.prog 10 #[.agg (lcells n t h hb c ns).toArray, .slice ao len cap] w fun e w' => e = .returned (.slice none 0 0) ∧ Below w.heap.size w w' := by
  unfold lcells
  go_enter Try.func10, Try.ntmps10
  go_wp2_with fail
  go_ret
  exact ⟨rfl, (Below.refl _ _).alloc (Nat.le_refl _) _⟩

theorem stacked_any (n : Int) (t h hb c : ByteArray) (ns : Int) (ao : Option Addr) (cap : Nat) (R : List Rec) (w : World) (hn : R.length * 128 ≤ 140737488355328) (ho : RecAt w ao R) :
    Calls Try.prog 10 #[.agg (lcells n t h hb c ns).toArray, .slice ao R.length cap] w fun e w' => ∃ v, e = .returned v ∧ Below w.heap.size w w' ∧ w'.ownsRow w.heap.size 39 11 v (R.filter (keepB n t h hb ns)).length (flat (R.filter (keepB n t h hb ns))) := by
  cases hh : h.toList.isEmpty with
  | true =>
    refine (stacked_none n t h hb c ns ao R.length cap w hh).mono ?_
    rintro e w' ⟨rfl, hb1⟩
    have : R.filter (keepB n t h hb ns) = [] := List.filter_eq_nil_iff.2 (fun x _ => by simp [keepB, hh])
    rw [this]
    exact ⟨_, rfl, hb1, World.ownsRow_nil _ _ _ _⟩
  | false =>
    refine (stacked_some n t h hb c ns ao cap R w hh hn ho).mono ?_
    have : keepB n t h hb ns = fun x => onB n t hb ns x.1 := by funext x; simp [keepB, hh]
    rw [this]
    exact fun _ _ h => h
end Go.Proofs.Qxb6627667a
