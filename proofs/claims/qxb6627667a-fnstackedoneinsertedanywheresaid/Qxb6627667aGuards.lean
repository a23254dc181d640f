/-
  The two size guards, stackedTooBig and zzBytes: whatever the input they answer a bool and turn nothing that was there. What the list of pull requests is in memory.
-/
import Derived.Test.Qxb6627667aOn
namespace Go.Proofs.Qxb6627667a
open Go.RowKit

/-- The call answers a bool. -/
def IsBool (e : Ending) : Prop := ∃ b, e = .returned (.bool b)

/-- The list L lies at the slice 'ao', n long. -/
def OpenAt (w : World) (ao : Option Addr) (n : Nat) (L : Nat → PR) : Prop :=
  ∀ k, k < n → ∃ b off, ao = some ⟨b, off, none⟩ ∧ b < w.heap.size ∧ ∀ j v, (L k).cells[j]? = some v → w.cell? ⟨b, off + k * 11 + j, none⟩ = some v

theorem pr_at {w : World} {b o : Nat} {p : PR} (h : ∀ j v, p.cells[j]? = some v → w.cell? ⟨b, o + j, none⟩ = some v) :
    w.cell? ⟨b, o, none⟩ = some (.int .i64 p.num) ∧ w.cell? ⟨b, o + 1, none⟩ = some (.string p.title) ∧ w.cell? ⟨b, o + 2, none⟩ = some (.string p.target) ∧ w.cell? ⟨b, o + 3, none⟩ = some (.string p.sha) ∧ w.cell? ⟨b, o + 4, none⟩ = some (.string p.branch)
      ∧ w.cell? ⟨b, o + 5, none⟩ = some (.bool p.has) ∧ w.cell? ⟨b, o + 6, none⟩ = some (.int .i64 p.satNs) ∧ w.cell? ⟨b, o + 7, none⟩ = some (.int .i64 p.sid) ∧ w.cell? ⟨b, o + 8, none⟩ = some (.bool p.unap) ∧ w.cell? ⟨b, o + 9, none⟩ = some (.string p.former) ∧ w.cell? ⟨b, o + 10, none⟩ = some (.int .i64 p.retNs) :=
  ⟨h 0 _ rfl, h 1 _ rfl, h 2 _ rfl, h 3 _ rfl, h 4 _ rfl, h 5 _ rfl, h 6 _ rfl, h 7 _ rfl, h 8 _ rfl, h 9 _ rfl, h 10 _ rfl⟩

set_option maxHeartbeats 1000000 in
theorem tooBig_any (st : Int) (t h hb c : ByteArray) (ao : Option Addr) (n cap : Nat) (L : Nat → PR) (w : World) (hn : n ≤ 9223372036854775807) (ho : OpenAt w ao n L) :
    Calls Try.prog 5 #[.int .i64 st, .string t, .string h, .string hb, .string c, .slice ao n cap] w fun e w' => IsBool e ∧ Below w.heap.size w w' := by
  go_enter Try.func5, Try.ntmps5
  go_wp2_with (go_at_call 13; refine (sAdd_any _ _ _).mono ?_; rintro e w' ⟨⟨r, rfl⟩, rfl⟩)
  · go_ret; exact ⟨⟨_, rfl⟩, Below.refl _ _⟩
  · go_ret; exact ⟨⟨_, rfl⟩, Below.refl _ _⟩
  go_loopw [13, 14] (fun s i wr => ∃ (r : Int) (k : Nat), s = .int .i64 r ∧ i = .int .i64 k ∧ k ≤ n ∧ Below w.heap.size w wr) (fun _ i _ => n - (intOf i).toNat)
  case atStart => exact ⟨_, 0, rfl, rfl, Nat.zero_le _, Below.refl _ _⟩
  case round =>
    obtain ⟨r, k, rfl, rfl, hk, hbel⟩ := hrel
    by_cases hlt : k < n
    · obtain ⟨b, off, rfl, hb, hc⟩ := ho k hlt
      have hc' := pr_at (w := wr) (b := b) (o := off + k * 11) (p := L k) (fun j v hj => (hbel.cell hb).trans (hc j v hj))
      obtain ⟨q0, q1, q2, q3, q4, q5, q6, q7, q8, q9, q10⟩ := hc'
      clear hc ho
      go_wp2_with (go_at_call 6; refine (sAddPR_any _ (L k) _).mono ?_; rintro e w' ⟨⟨r, rfl⟩, c, rfl⟩)
      · go_ret; exact ⟨⟨_, rfl⟩, hbel.alloc hbel.size _⟩
      · go_roundw
        case rel => exact ⟨_, k + 1, rfl, by go_num, by omega, hbel.alloc hbel.size _⟩
        case measure => simp [intOf]; omega
    · go_wp2_with fail
      go_ret; exact ⟨⟨_, rfl⟩, hbel⟩

set_option maxRecDepth 100000 in
set_option maxHeartbeats 2000000 in
theorem bytes_any (n1 : Int) (t h hb c : ByteArray) (ns : Int) (ao : Option Addr) (n cap : Nat) (L : Nat → PR) (p : PR) (i : Int) (w : World) (hn : n ≤ 9223372036854775807) (ho : OpenAt w ao n L) :
    Calls Try.prog 4 #[.int .i64 n1, .string t, .string h, .string hb, .string c, .int .i64 ns, .slice ao n cap, p.val, .int .i64 i] w fun e w' => IsBool e ∧ Below w.heap.size w w' := by
  obtain ⟨p0, p1, p2, p3, p4, p5, p6, p7, p8, p9, p10⟩ := p
  simp only [PR.val, PR.cells]
  have fin : ∀ o : Obj, Below w.heap.size w (w.alloc o) := fun o => (Below.refl _ _).alloc (Nat.le_refl _) _
  go_enter Try.func4, Try.ntmps4
  go_wp2_with fail
  all_goals (try (go_ret; exact ⟨⟨_, rfl⟩, fin _⟩))
  go_loop [19, 20] (fun s i => ∃ (z : Int) (k : Nat), s = .int .i64 z ∧ i = .int .i64 k ∧ k ≤ n ∧ 0 ≤ z ∧ z ≤ 1048576) (fun _ i => n - (intOf i).toNat)
  case atStart => exact ⟨_, 0, rfl, rfl, Nat.zero_le _, by omega, by omega⟩
  case round =>
    obtain ⟨z, k, rfl, rfl, hk, z0, z1⟩ := hrel
    by_cases hlt : k < n
    · obtain ⟨b, off, rfl, hb, hc⟩ := ho k hlt
      obtain ⟨q0, q1, q2, q3, q4, q5, q6, q7, q8, q9, q10⟩ := pr_at (w := w) (b := b) (o := off + k * 11) (p := L k) hc
      have hb' : b < w.heap.size := hb
      clear hc ho q0 q5 q6 q7 q8 q10
      go_wp2_with fail
      all_goals first
        | (go_ret; exact ⟨⟨_, rfl⟩, fin _⟩)
        | (go_round
           case rel => exact ⟨_, k + 1, rfl, by go_num, by omega, by omega, by omega⟩
           case measure => simp [intOf]; omega)
    · go_wp2_with fail
      all_goals (try (go_ret; exact ⟨⟨_, rfl⟩, fin _⟩))
end Go.Proofs.Qxb6627667a
