/-
  The pieces: stackedAdd, stackedAddPR (they answer an int), stackedToForge, stackedLanding; what a pull request is as cells.
-/
import Derived.Test.Qxb6627667aTime
import Derived.Deep.RegionHeld3
namespace Go.Proofs.Qxb6627667a
open Go.RowKit

set_option maxHeartbeats 400000 in
theorem sAdd_any (a b : Int) (w : World) :
    Calls Try.prog 13 #[.int .i64 a, .int .i64 b] w fun e w' => (∃ r : Int, e = .returned (.int .i64 r)) ∧ w = w' := by
  by_cases h : 1048576 < b
  · go_enter Try.func13, Try.ntmps13
    go_wp2
    all_goals (go_ret; exact ⟨⟨_, rfl⟩, rfl⟩)
  · by_cases h2 : 1048576 < a
    · go_enter Try.func13, Try.ntmps13
      go_wp2
      all_goals (go_ret; exact ⟨⟨_, rfl⟩, rfl⟩)
    · go_enter Try.func13, Try.ntmps13
      go_wp2
      all_goals (go_ret; exact ⟨⟨_, rfl⟩, rfl⟩)

/-- A StackedPR. -/
structure PR where
  num : Int
  title : ByteArray
  target : ByteArray
  sha : ByteArray
  branch : ByteArray
  has : Bool
  satNs : Int
  sid : Int
  unap : Bool
  former : ByteArray
  retNs : Int

/-- Its eleven cells. -/
def PR.cells (p : PR) : List Value := [.int .i64 p.num, .string p.title, .string p.target, .string p.sha, .string p.branch, .bool p.has, .int .i64 p.satNs, .int .i64 p.sid, .bool p.unap, .string p.former, .int .i64 p.retNs]
def PR.val (p : PR) : Value := .agg p.cells.toArray

set_option maxHeartbeats 400000 in
theorem sAddPR_any (a : Int) (p : PR) (w : World) :
    Calls Try.prog 6 #[.int .i64 a, p.val] w fun e w' => (∃ r : Int, e = .returned (.int .i64 r)) ∧ ∃ c, w' = w.alloc (.cells c 24) := by
  obtain ⟨p0, p1, p2, p3, p4, p5, p6, p7, p8, p9, p10⟩ := p
  simp only [PR.val, PR.cells]
  go_enter Try.func6, Try.ntmps6
  go_wp2_with (go_at_call 13; refine (sAdd_any _ _ _).mono ?_; rintro e w' ⟨⟨r, rfl⟩, rfl⟩)
  go_ret
  exact ⟨⟨_, rfl⟩, _, rfl⟩

/-- A forge.PullRequest built out of p, its scheduling at 'q'. -/
def PR.fcells (p : PR) (q : Option Addr) : List Value := [.int .i64 p.num, .string p.title, .string p.target, .string p.sha, .string p.branch, .pointer q, .bool p.unap, .string p.former, .int .u64 (tWall p.retNs), .int .i64 (tExt p.retNs), .pointer none]
def PR.fval (p : PR) (q : Option Addr) : Value := .agg (p.fcells q).toArray

set_option maxHeartbeats 1000000 in
theorem toForge_no (p : PR) (w : World) (hh : p.has = false) (hr : -9223372036854775808 ≤ p.retNs ∧ p.retNs ≤ 9223372036854775807) :
    Calls Try.prog 9 #[p.val] w fun e w' => e = .returned (p.fval none) ∧ Below w.heap.size w w' := by
  obtain ⟨p0, p1, p2, p3, p4, p5, p6, p7, p8, p9, p10⟩ := p
  subst hh
  obtain ⟨r1, r2⟩ := hr
  simp only [PR.val, PR.cells, PR.fval, PR.fcells] at *
  go_enter Try.func9, Try.ntmps9
  go_wp2_with fail
  go_region_held3 (fun w' => w'.cell? ⟨w.heap.size, 0, none⟩ = some (.int .i64 p0) ∧ w'.cell? ⟨w.heap.size, 1, none⟩ = some (.string p1) ∧ w'.cell? ⟨w.heap.size, 2, none⟩ = some (.string p2) ∧ w'.cell? ⟨w.heap.size, 3, none⟩ = some (.string p3) ∧ w'.cell? ⟨w.heap.size, 4, none⟩ = some (.string p4)
      ∧ w'.cell? ⟨w.heap.size, 8, none⟩ = some (.bool p8) ∧ w'.cell? ⟨w.heap.size, 9, none⟩ = some (.string p9) ∧ w'.cell? ⟨w.heap.size, 10, none⟩ = some (.int .i64 p10)) (simp [go_sem, World.cell?_alloc_past])
    ((go_at_call 14; refine (timeAt_any _ _ r1 r2).mono ?_; rintro e w' ⟨rfl, c1, c2, c3, rfl⟩))
  go_wp2_with fail
  refine bodyPost_ret (v := .agg #[.int .i64 p0, .string p1, .string p2, .string p3, .string p4, .pointer none, .bool p8, .string p9, .int .u64 (tWall p10), .int .i64 (tExt p10), .pointer none]) (by simp [results, Try.results9, go_sem]) rfl ⟨rfl, ?_⟩
  repeat (first | exact Below.refl _ _ | apply Below.drew | (refine Below.alloc ?_ (by simp; try omega) _))

/-- What the scheduling's pointer leads to: nothing, or a block from B on that holds p's event. -/
def Sched (B : Nat) (w : World) (p : PR) (q : Option Addr) : Prop :=
  (p.has = false ∧ q = none) ∨ (p.has = true ∧ ∃ b, B ≤ b ∧ b < w.heap.size ∧ q = some ⟨b, 0, none⟩ ∧ w.cell? ⟨b, 0, none⟩ = some (.int .u64 (tWall p.satNs)) ∧ w.cell? ⟨b, 1, none⟩ = some (.int .i64 (tExt p.satNs)) ∧ w.cell? ⟨b, 2, none⟩ = some (.pointer none) ∧ w.cell? ⟨b, 3, none⟩ = some (.int .i64 p.sid))

set_option maxHeartbeats 1000000 in
theorem toForge_yes (p : PR) (w : World) (hh : p.has = true) (hr : -9223372036854775808 ≤ p.retNs ∧ p.retNs ≤ 9223372036854775807) (hs : -9223372036854775808 ≤ p.satNs ∧ p.satNs ≤ 9223372036854775807) :
    Calls Try.prog 9 #[p.val] w fun e w' => ∃ q, e = .returned (p.fval q) ∧ Below w.heap.size w w' ∧ Sched w.heap.size w' p q := by
  obtain ⟨p0, p1, p2, p3, p4, p5, p6, p7, p8, p9, p10⟩ := p
  subst hh
  obtain ⟨r1, r2⟩ := hr
  obtain ⟨s1, s2⟩ := hs
  simp only [PR.val, PR.cells, PR.fval, PR.fcells] at *
  go_enter Try.func9, Try.ntmps9
  go_wp2_with fail
  go_region_held3 (fun w' => w'.cell? ⟨w.heap.size, 6, none⟩ = some (.int .i64 p6) ∧ w'.cell? ⟨w.heap.size, 7, none⟩ = some (.int .i64 p7)) (simp [go_sem, World.cell?_alloc_past])
    ((go_at_call 14; refine (timeAt_any _ _ s1 s2).mono ?_; rintro e w' ⟨rfl, c1, c2, c3, rfl⟩))
  go_wp2_with fail
  go_region_held3 (fun w' => w'.cell? ⟨w.heap.size, 0, none⟩ = some (.int .i64 p0) ∧ w'.cell? ⟨w.heap.size, 1, none⟩ = some (.string p1) ∧ w'.cell? ⟨w.heap.size, 2, none⟩ = some (.string p2) ∧ w'.cell? ⟨w.heap.size, 3, none⟩ = some (.string p3) ∧ w'.cell? ⟨w.heap.size, 4, none⟩ = some (.string p4)
      ∧ w'.cell? ⟨w.heap.size, 8, none⟩ = some (.bool p8) ∧ w'.cell? ⟨w.heap.size, 9, none⟩ = some (.string p9) ∧ w'.cell? ⟨w.heap.size, 10, none⟩ = some (.int .i64 p10)) (simp [go_sem, World.cell?_alloc_past])
    ((go_at_call 14; refine (timeAt_any _ _ r1 r2).mono ?_; rintro e w' ⟨rfl, c4, c5, c6, rfl⟩))
  go_wp2_with fail
  refine bodyPost_ret (v := .agg #[.int .i64 p0, .string p1, .string p2, .string p3, .string p4, .pointer (some ⟨w.heap.size + 1 + 1 + 1 + 1 + 1, 0, none⟩), .bool p8, .string p9, .int .u64 (tWall p10), .int .i64 (tExt p10), .pointer none]) (by simp [results, Try.results9, go_sem]) rfl ⟨_, rfl, ?_, ?_⟩
  · repeat (first | exact Below.refl _ _ | apply Below.drew | (refine Below.alloc ?_ (by simp; try omega) _))
  · refine Or.inr ⟨rfl, _, ?_, ?_, rfl, ?_, ?_, ?_, ?_⟩
    · omega
    · simp
    all_goals simp [go_sem, World.cell?_alloc_past]

theorem toForge_any (p : PR) (w : World) (hr : -9223372036854775808 ≤ p.retNs ∧ p.retNs ≤ 9223372036854775807) (hs : -9223372036854775808 ≤ p.satNs ∧ p.satNs ≤ 9223372036854775807) :
    Calls Try.prog 9 #[p.val] w fun e w' => ∃ q, e = .returned (p.fval q) ∧ Below w.heap.size w w' ∧ Sched w.heap.size w' p q := by
  cases hh : p.has with
  | true => exact toForge_yes p w hh hr hs
  | false =>
    refine (toForge_no p w hh hr).mono ?_
    rintro e w' ⟨rfl, hb⟩
    exact ⟨_, rfl, hb, Or.inl ⟨hh, rfl⟩⟩

/-- A forge.Landing. -/
def lcells (n : Int) (t h b c : ByteArray) (ns : Int) : List Value := [.int .i64 n, .string t, .string h, .string b, .string c, .int .u64 (tWall ns), .int .i64 (tExt ns), .pointer none]

set_option maxHeartbeats 1000000 in
theorem landing_any (n : Int) (t h b c : ByteArray) (ns : Int) (w : World) (hl : -9223372036854775808 ≤ ns) (hh : ns ≤ 9223372036854775807) :
    Calls Try.prog 7 #[.int .i64 n, .string t, .string h, .string b, .string c, .int .i64 ns] w fun e w' => e = .returned (.agg (lcells n t h b c ns).toArray) ∧ Below w.heap.size w w' := by
  unfold lcells
  go_enter Try.func7, Try.ntmps7
  go_wp2_with (go_at_call 14; refine (timeAt_any _ _ hl hh).mono ?_; rintro e w' ⟨rfl, c1, c2, c3, rfl⟩)
  refine bodyPost_ret (v := .agg #[.int .i64 n, .string t, .string h, .string b, .string c, .int .u64 (tWall ns), .int .i64 (tExt ns), .pointer none]) (by simp [results, Try.results7, go_sem]) rfl ⟨rfl, ?_⟩
  repeat (first | exact Below.refl _ _ | apply Below.drew | (refine Below.alloc ?_ (by simp; try omega) _))
end Go.Proofs.Qxb6627667a
