/-
  stackedOn answers onB; stackedSame answers true of a record that stackedToForge built; a record is equal to itself.
-/
import Derived.Test.Qxb6627667aPieces
import Derived.LaidEql
namespace Go.Proofs.Qxb6627667a
open Go.RowKit

/-- Is p stacked on the landing? -/
def onB (n : Int) (t hb : ByteArray) (ns : Int) (p : PR) : Bool :=
  !(p.branch.toList.isEmpty || p.branch.toList == t.toList || p.num == n) && (p.target.toList == hb.toList || (p.target.toList == t.toList && p.former.toList == hb.toList && decide (ns ≤ p.retNs)))

set_option maxHeartbeats 1000000 in
theorem on_any (n : Int) (t hb : ByteArray) (ns : Int) (p : PR) (w : World) :
    Calls Try.prog 11 #[.int .i64 n, .string t, .string hb, .int .i64 ns, p.val] w fun e w' => e = .returned (.bool (onB n t hb ns p)) ∧ Below w.heap.size w w' := by
  obtain ⟨p0, p1, p2, p3, p4, p5, p6, p7, p8, p9, p10⟩ := p
  simp only [PR.val, PR.cells, onB]
  go_enter Try.func11, Try.ntmps11
  go_wp2
  all_goals
    go_ret
    refine ⟨?_, (Below.refl _ _).alloc (Nat.le_refl _) _⟩
    simp_all
    try (rw [Bool.eq_iff_iff]; simp_all)

theorem eq29 (d : Nat) (w : World) : (Op.equalIn (d + 1) 29 (.pointer none) (.pointer none)).run Try.prog w = .ok true w :=
  run_equalIn_pointer_nil w d 29 none Try.underlying29

theorem eq37 (d : Nat) (q : Option Addr) (w : World) : (Op.equalIn (d + 1) 37 (.pointer q) (.pointer q)).run Try.prog w = .ok true w := by
  cases q with
  | none => exact run_equalIn_pointer_nil w d 37 none Try.underlying37
  | some a =>
    have h : (sizeOf 47).run Try.prog w = .ok 4 w := by kernel_rfl
    simp [Op.equalIn, run_underlying Try.underlying37, h, run_sameAddr_same]

set_option maxHeartbeats 1000000 in
theorem same_any (p : PR) (q : Option Addr) (B : Nat) (w : World) (hq : Sched B w p q) (hr : -9223372036854775808 ≤ p.retNs ∧ p.retNs ≤ 9223372036854775807) (hs : -9223372036854775808 ≤ p.satNs ∧ p.satNs ≤ 9223372036854775807) :
    Calls Try.prog 12 #[p.fval q, p.val] w fun e w' => e = .returned (.bool true) ∧ Below w.heap.size w w' := by
  obtain ⟨p0, p1, p2, p3, p4, p5, p6, p7, p8, p9, p10⟩ := p
  obtain ⟨r1, r2⟩ := hr
  obtain ⟨s1, s2⟩ := hs
  have he29 := eq29
  rcases hq with ⟨hh, rfl⟩ | ⟨hh, b, hB, hb, rfl, b0, b1, b2, b3⟩
  · subst hh
    simp only [PR.val, PR.cells, PR.fval, PR.fcells] at *
    go_enter Try.func12, Try.ntmps12
    go_wp2_with fail
    go_region_held3 (fun w' => w'.cell? ⟨w.heap.size, 8, none⟩ = some (.int .u64 (tWall p10)) ∧ w'.cell? ⟨w.heap.size, 9, none⟩ = some (.int .i64 (tExt p10)) ∧ w'.cell? ⟨w.heap.size, 10, none⟩ = some (.pointer none) ∧ w'.cell? ⟨w.heap.size + 1, 10, none⟩ = some (.int .i64 p10)) (simp [go_sem, World.cell?_alloc_past])
      ((go_at_call 14; refine (timeAt_any _ _ r1 r2).mono ?_; rintro e w' ⟨rfl, c1, c2, c3, rfl⟩))
    go_wp2_with fail
    go_ret
    refine ⟨rfl, ?_⟩
    repeat (first | exact Below.refl _ _ | apply Below.drew | (refine Below.alloc ?_ (by simp; try omega) _))
  · subst hh
    simp only [PR.val, PR.cells, PR.fval, PR.fcells] at *
    go_enter Try.func12, Try.ntmps12
    go_wp2_with fail
    go_region_held3 (fun w' => w'.cell? ⟨w.heap.size, 8, none⟩ = some (.int .u64 (tWall p10)) ∧ w'.cell? ⟨w.heap.size, 9, none⟩ = some (.int .i64 (tExt p10)) ∧ w'.cell? ⟨w.heap.size, 10, none⟩ = some (.pointer none) ∧ w'.cell? ⟨w.heap.size + 1, 10, none⟩ = some (.int .i64 p10)) (simp [go_sem, World.cell?_alloc_past])
      ((go_at_call 14; refine (timeAt_any _ _ r1 r2).mono ?_; rintro e w' ⟨rfl, c1, c2, c3, rfl⟩))
    go_wp2_with fail
    have k1 : b < w.heap.size + 1 := by omega
    have k2 : b < w.heap.size + 1 + 1 := by omega
    have k3 : b < w.heap.size + 1 + 1 + 1 := by omega
    have k4 : b < w.heap.size + 1 + 1 + 1 + 1 := by omega
    have k5 : b < w.heap.size + 1 + 1 + 1 + 1 + 1 := by omega
    have k6 : b < w.heap.size + 1 + 1 + 1 + 1 + 1 + 1 := by omega
    have k7 : b < w.heap.size + 1 + 1 + 1 + 1 + 1 + 1 + 1 := by omega
    go_region_held3 (fun w' => w'.cell? ⟨w.heap.size, 5, none⟩ = some (.pointer (some ⟨b, 0, none⟩)) ∧ w'.cell? ⟨w.heap.size + 1, 5, none⟩ = some (.bool true) ∧ w'.cell? ⟨w.heap.size + 1, 6, none⟩ = some (.int .i64 p6) ∧ w'.cell? ⟨w.heap.size + 1, 7, none⟩ = some (.int .i64 p7)
        ∧ w'.cell? ⟨b, 0, none⟩ = some (.int .u64 (tWall p6)) ∧ w'.cell? ⟨b, 1, none⟩ = some (.int .i64 (tExt p6)) ∧ w'.cell? ⟨b, 2, none⟩ = some (.pointer none) ∧ w'.cell? ⟨b, 3, none⟩ = some (.int .i64 p7)) (simp [go_sem, World.cell?_alloc_past, *])
      ((go_at_call 14; refine (timeAt_any _ _ s1 s2).mono ?_; rintro e w' ⟨rfl, c4, c5, c6, rfl⟩))
    go_wp2_with fail
    go_ret
    refine ⟨rfl, ?_⟩
    repeat (first | exact Below.refl _ _ | apply Below.drew | (refine Below.alloc ?_ (by simp; try omega) _))

/-- A pull request's record is equal to itself. -/
theorem neq39 (p : PR) (q : Option Addr) (w : World) : (binOp .neq 39 (p.fval q) (p.fval q)).run Try.prog w = .ok (.bool false) w := by
  have h1 := eq29
  have h2 := eq37
  obtain ⟨p0, p1, p2, p3, p4, p5, p6, p7, p8, p9, p10⟩ := p
  simp only [PR.fval, PR.fcells]
  go_simp
end Go.Proofs.Qxb6627667a
