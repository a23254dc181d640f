/-
  stackedBuild: the row of records that it makes.
-/
import Derived.Test.Qxb6627667aGuards
import Derived.Deep.MidRow
namespace Go.Proofs.Qxb6627667a
open Go.RowKit

theorem Try.info39 : (Try.prog.info? 39).map (fun i => (i.zero, i.size, i.bytes)) = some (some (.agg #[.int .i64 0, .string ⟨#[]⟩, .string ⟨#[]⟩, .string ⟨#[]⟩, .string ⟨#[]⟩, .pointer none, .bool false, .string ⟨#[]⟩, .int .u64 0, .int .i64 0, .pointer none]), 11, 128) := by kernel_rfl
theorem Try.size24 : (Try.prog.info? 24).map (·.size) = some 11 := by kernel_rfl
theorem Try.size39 : (Try.prog.info? 39).map (·.size) = some 11 := by kernel_rfl

theorem setCells_bel {B g : Nat} {a : World} (hg : B ≤ g) : ∀ (vs : List Value) (o : Nat) (w : World), Below B a w → Below B a (w.setCells g o vs)
  | [], _, _, h => h
  | v :: r, o, _, h => setCells_bel hg r (o + 1) _ (h.setCell hg v)
theorem setCells_size (g : Nat) : ∀ (vs : List Value) (o : Nat) (w : World), (w.setCells g o vs).heap.size = w.heap.size
  | [], _, _ => rfl
  | v :: r, o, w => by rw [World.setCells, setCells_size g r]; simp [World.setCell]

theorem range_below {w w1 : World} {B b o : Nat} {cs : List Value} (h : w.rangeAt b o cs) (hb : Below B w w1) (hlt : b < B) : w1.rangeAt b o cs :=
  fun j v hv => (hb.cell (p := ⟨b, o + j, none⟩) hlt).trans (h j v hv)
theorem there_below {w w1 : World} {B b o n : Nat} (h : w.there b o n) (hb : Below B w w1) (hlt : b < B) : w1.there b o n :=
  fun j hj => ⟨by rw [hb.cell (p := ⟨b, o + j, none⟩) hlt]; exact (h j hj).1, by rw [hb.frozen (p := ⟨b, o + j, none⟩) hlt]; exact (h j hj).2⟩

theorem fcells_len (p : PR) (q : Option Addr) : (p.fcells q).length = 11 := rfl
theorem fcells_one (p : PR) (q : Option Addr) : ∀ v ∈ p.fcells q, v.oneCell' = true := by
  intro v hv
  simp only [PR.fcells, List.mem_cons, List.not_mem_nil, or_false] at hv
  rcases hv with rfl | rfl | rfl | rfl | rfl | rfl | rfl | rfl | rfl | rfl | rfl <;> rfl

/-- The first k records of the row at block g are built. -/
structure BuildInv (w wr : World) (L : Nat → PR) (n k : Nat) (q : Nat → Option Addr) : Prop where
  below : Below w.heap.size w wr
  lt : w.heap.size < wr.heap.size
  there : ∀ j, j < n → wr.there w.heap.size (j * 11) 11
  done : ∀ j, j < k → wr.rangeAt w.heap.size (j * 11) ((L j).fcells (q j))

theorem BuildInv.step {w wr w1 : World} {L : Nat → PR} {n k : Nat} {q : Nat → Option Addr} (h : BuildInv w wr L n k q) (hb : Below wr.heap.size wr w1) (q' : Option Addr) (hk : k < n) :
    BuildInv w (w1.setCells w.heap.size (k * 11) ((L k).fcells q')) L n (k + 1) (fun j => if j = k then q' else q j) where
  below := setCells_bel (Nat.le_refl _) _ _ _ (h.below.trans (hb.mono h.below.size))
  lt := by rw [setCells_size]; have := hb.size; have := h.lt; omega
  there := fun j hj => World.there_setCells (there_below (h.there j hj) hb h.lt) _ _ _
  done := fun j hj => by
    by_cases e : j = k
    · subst e
      simp only [if_true]
      exact World.rangeAt_setCells_same _ _ _ _ (there_below (h.there j hk) hb h.lt)
    · simp only [if_neg e]
      refine World.rangeAt_setCells_apart (range_below (h.done j (by omega)) hb h.lt) _ _ _ (Or.inr (Or.inl ?_))
      rw [fcells_len]; omega

theorem BuildInv.start {w w1 : World} {L : Nat → PR} {n : Nat} {xs : List Value} (ho : w1.ownsRow w.heap.size 39 11 (.slice (some ⟨w.heap.size, 0, none⟩) n n) n xs) (hg : w.grownBy w1 none) :
    BuildInv w w1 L n 0 (fun _ => none) where
  below := (Below.refl _ _).grown hg (Nat.le_refl _) (by simp)
  lt := (ho.lt w.heap.size rfl).2
  there := fun j hj i hi => by
    refine ⟨?_, ho.frozenAt _⟩
    have hl := ho.1
    have hlt : j * 11 + i < n * 11 := by omega
    rw [ho.cellAt _ hlt]
    simp [hl, hlt]
  done := fun j hj => absurd hj (by omega)

set_option maxHeartbeats 1000000 in
theorem build_any (ao : Option Addr) (n cap : Nat) (L : Nat → PR) (w : World) (hn : n * 128 ≤ 140737488355328) (ho : OpenAt w ao n L)
    (hwf : ∀ k, k < n → (-9223372036854775808 ≤ (L k).retNs ∧ (L k).retNs ≤ 9223372036854775807) ∧ (-9223372036854775808 ≤ (L k).satNs ∧ (L k).satNs ≤ 9223372036854775807)) :
    Calls Try.prog 8 #[.slice ao n cap] w fun e w' => e = .returned (.slice (some ⟨w.heap.size, 0, none⟩) n n) ∧ ∃ q, BuildInv w w' L n n q := by
  obtain ⟨i, hi, hz0, hz1, hz2⟩ := info_parts Try.info39
  go_enter Try.func8, Try.ntmps8
  go_wp2_with (at_make; refine wpList_make_full _ rfl _ _ 35 rfl w.heap.size 39 i _ 11 Try.underlying35 hi hz0 hz1 _ _ _ _ n rfl rfl rfl rfl (by rw [hz2]; omega) (by unfold maxLen; omega) (Nat.le_refl _) ?_; intro w1 hown hgrow)
  have hinv : BuildInv w w1 L n 0 (fun _ => none) := BuildInv.start hown hgrow
  clear hown hgrow hi hz0 hz1 hz2
  go_loopw [4] (fun i wr => ∃ (k : Nat) (q : Nat → Option Addr), i = .int .i64 k ∧ k ≤ n ∧ BuildInv w wr L n k q) (fun i _ => n - (intOf i).toNat)
  case atStart => exact ⟨0, _, rfl, Nat.zero_le _, hinv⟩
  case round =>
    obtain ⟨k, q, rfl, hk, hinv⟩ := hrel
    by_cases hlt : k < n
    · obtain ⟨b, off, rfl, hb, hc⟩ := ho k hlt
      obtain ⟨r1, r2⟩ := hwf k hlt
      have hc' : wr.rangeAt b (off + k * 11) (L k).cells := range_below hc hinv.below hb
      have hlen : (Try.prog.info? 24).map (·.size) = some (L k).cells.length := Try.size24
      clear hwf ho hc
      go_wp2_with (refine wpList_load_mid rfl 24 (.tmp 18) rfl b (off + k * 11) rfl (L k).cells _ hc' Try.underlying24 rfl hlen ?_)
      refine (toForge_any (L k) _ r1 r2).mono ?_
      rintro e w1 ⟨q', rfl, hb1, -⟩
      have hth : w1.there w.heap.size (k * 11) ((L k).fcells q').toArray.size := there_below (hinv.there k hlt) hb1 hinv.lt
      have hsz : (Try.prog.info? 39).map (·.size) = some ((L k).fcells q').toArray.size := Try.size39
      have hon := all_oneCell_toArray (fcells_one (L k) q')
      have hst := hinv.step hb1 q' hlt
      clear hinv hlen hc' r1 r2
      go_wp2_with (first | (refine wpList_store_mid rfl 39 (.tmp 21) (.tmp 20) rfl w.heap.size (k * 11) ((L k).fcells q').toArray rfl rfl ?_ hsz hon ?_; exact hth) | fail)
      go_roundw
      case rel => exact ⟨k + 1, _, by go_num, by omega, hst⟩
      case measure => simp [intOf]; omega
    · go_wp2_with fail
      have e : k = n := by omega
      subst e
      go_ret
      exact ⟨rfl, _, hinv⟩
end Go.Proofs.Qxb6627667a
