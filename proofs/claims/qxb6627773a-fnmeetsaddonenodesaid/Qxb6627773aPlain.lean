/-
  The plain laws on words and on lists of words; copy into a new row.
-/
import Derived.Test.Qxb6627773aMeets
import Derived.Laws.CopyOwn
namespace Go.Proofs.Qxb6627773a
open Go.RowKit

/-! ### Words -/
def Word (x : Int) : Prop := 0 ≤ x ∧ x < 18446744073709551616
theorem A_nat {x y : Int} (hx : Word x) (hy : Word y) : A x y = (x.toNat &&& y.toNat != 0) := by
  unfold A
  rw [u64_and x y hx.1 hx.2 hy.1 hy.2, Bool.eq_iff_iff]
  simp only [bne_iff_ne, ne_eq]
  omega
theorem A_comm (x y : Int) (hx : Word x) (hy : Word y) : A x y = A y x := by rw [A_nat hx hy, A_nat hy hx, Nat.and_comm]
theorem A_self (x : Int) (hx : Word x) : A x x = (x != 0) := by
  rw [A_nat hx hx, Nat.and_self, Bool.eq_iff_iff]
  simp only [bne_iff_ne, ne_eq]
  obtain ⟨h1, _⟩ := hx
  omega
theorem or_word {x y : Int} (hx : Word x) (hy : Word y) : Word (bits .or .u64 x y) ∧ (bits .or .u64 x y).toNat = x.toNat ||| y.toNat := by
  rw [u64_or x y hx.1 hx.2 hy.1 hy.2]
  refine ⟨⟨by omega, ?_⟩, by omega⟩
  have := Nat.or_lt_two_pow (x := x.toNat) (y := y.toNat) (n := 64) (by obtain ⟨_, h⟩ := hx; omega) (by obtain ⟨_, h⟩ := hy; omega)
  omega
theorem A_or {x y b : Int} (hx : Word x) (hy : Word y) (hb : Word b) : A x (bits .or .u64 y b) = (A x y || A x b) := by
  obtain ⟨h1, h2⟩ := or_word hy hb
  rw [A_nat hx h1, h2, A_nat hx hy, A_nat hx hb, Nat.and_or_distrib_left, Bool.eq_iff_iff]
  simp only [bne_iff_ne, ne_eq, Bool.or_eq_true]
  rw [Nat.or_eq_zero_iff]
  omega

def Words (xs : List Int) : Prop := ∀ x ∈ xs, Word x

/-! ### The plain laws -/
theorem meets_cut (xs ys : List Int) (k : Nat) (h : xs.length = ys.length) : meets xs ys = (meets (xs.take k) (ys.take k) || meets (xs.drop k) (ys.drop k)) := by
  have e1 : xs.zip ys = (xs.take k).zip (ys.take k) ++ (xs.drop k).zip (ys.drop k) := by
    rw [← List.zip_append (by simp; omega), List.take_append_drop, List.take_append_drop]
  unfold meets
  rw [e1, List.any_append]
theorem meets_self : ∀ xs : List Int, Words xs → meets xs xs = anyNZ xs
  | [], _ => rfl
  | x :: xs, h => by
    have ih := meets_self xs (fun y hy => h y (by simp [hy]))
    unfold meets anyNZ at *
    simp only [List.zip_cons_cons, List.any_cons]
    rw [ih, A_self x (h x (by simp))]
theorem meets_comm : ∀ xs ys : List Int, Words xs → Words ys → meets xs ys = meets ys xs
  | [], [], _, _ => rfl
  | [], _ :: _, _, _ => rfl
  | _ :: _, [], _, _ => rfl
  | x :: xs, y :: ys, h1, h2 => by
    have ih := meets_comm xs ys (fun z hz => h1 z (by simp [hz])) (fun z hz => h2 z (by simp [hz]))
    unfold meets at *
    simp only [List.zip_cons_cons, List.any_cons]
    rw [ih, A_comm x y (h1 x (by simp)) (h2 y (by simp))]
theorem meets_set : ∀ (xs ys : List Int) (k : Nat) (x y b : Int), Words xs → Words ys → Word b → xs[k]? = some x → ys[k]? = some y → meets xs (ys.set k (bits .or .u64 y b)) = (meets xs ys || A x b)
  | [], _, _, _, _, _, _, _, _, h, _ => by simp at h
  | _ :: _, [], _, _, _, _, _, _, _, _, h => by simp at h
  | x0 :: xs, y0 :: ys, 0, x, y, b, h1, h2, hb, hx, hy => by
    simp at hx hy
    subst hx hy
    unfold meets
    simp only [List.set_cons_zero, List.zip_cons_cons, List.any_cons]
    rw [A_or (h1 x0 (by simp)) (h2 y0 (by simp)) hb]
    cases A x0 y0 <;> cases A x0 b <;> simp
  | x0 :: xs, y0 :: ys, k + 1, x, y, b, h1, h2, hb, hx, hy => by
    have ih := meets_set xs ys k x y b (fun z hz => h1 z (by simp [hz])) (fun z hz => h2 z (by simp [hz])) hb (by simpa using hx) (by simpa using hy)
    unfold meets at *
    simp only [List.set_cons_succ, List.zip_cons_cons, List.any_cons]
    rw [ih, Bool.or_assoc]
theorem words_set {ys : List Int} {k : Nat} {v : Int} (h : Words ys) (hv : Word v) : Words (ys.set k v) := fun z hz => by
  rcases List.mem_or_eq_of_mem_set hz with hz | rfl
  · exact h z hz
  · exact hv

/-! ### copy -/
/-- A place at which the walk shall stand. (A structure: a plain 'def' is seen through, and the arm strikes again and again.) -/
structure Stop (p : Prop) : Prop where
  out : p
theorem copy_stop {P : Program} {ops : Array Oper} {Q : Exit → Act → World → Prop} {rest : List Oper} {o : Oper} {a : Act} {w : World} (_hgd : o.guard = none) (d s : Operand)
    (_ho : o.op = .call { callee := .builtin .copy, args := #[d, s], argTypes := #[22, 22] }) (h : Stop (wpList P ops Q (o :: rest) a w)) : wpList P ops Q (o :: rest) a w := h.out

theorem Try.size27 : (Try.prog.info? 27).map (·.size) = some 1 := by kernel_rfl
theorem Try.info27 : (Try.prog.info? 27).map (fun i => (i.zero, i.size, i.bytes)) = some (some (.int .u64 0), 1, 8) := by kernel_rfl

/-- The world behind 'zzc := make([]uint64, len(s)); copy(zzc, s)'. -/
theorem copied {w2 : World} {g n : Nat} {xs : List Int} (HG : w2.heap[g]? = some (.cells (splice (madeCells #[.int .u64 0] n).toList 0 (xs.map (Value.int .u64))).toArray 27 (0, 0))) (hl : xs.length = n) : IntsAt w2 (some ⟨g, 0, none⟩) xs := fun k x hx => by
  have hk := (List.getElem?_eq_some_iff.1 hx).1
  refine ⟨g, 0, rfl, (Array.getElem?_eq_some_iff.1 HG).1, ?_⟩
  rw [Nat.zero_add, cell_of_row _ _ _ _ _ _ HG]
  have hsz : (madeCells #[.int .u64 0] n).toList.length = n := by simp [madeCells]
  have e : splice (madeCells #[.int .u64 0] n).toList 0 (xs.map (Value.int .u64)) = xs.map (Value.int .u64) := by
    unfold splice
    rw [List.take_zero, List.nil_append, List.drop_eq_nil_of_le (by rw [hsz]; simp; omega), List.append_nil]
  rw [e]
  simp [hx]

theorem copy_law {w : World} {ops : Array Oper} {rest : List Oper} {o : Oper} {a : Act} {Q : Exit → Act → World → Prop} (hgd : o.guard = none) (d s : Operand)
    (ho : o.op = .call { callee := .builtin .copy, args := #[d, s], argTypes := #[22, 22] }) (W : World) (n cap : Nat) (ao : Option Addr) (xs : List Int) (hl : xs.length = n)
    (hw : w = W.alloc (.cells (madeCells #[.int .u64 0] n) 27)) (hd : a.eval d = .slice (some ⟨W.heap.size, 0, none⟩) n n) (hs : a.eval s = .slice ao n cap) (hi : IntsAt W ao xs)
    (h : ∀ w' v, IntsAt w' (some ⟨W.heap.size, 0, none⟩) xs → Below W.heap.size W w' → wpList Try.prog ops Q rest (a.put o.dst v) w') : wpList Try.prog ops Q (o :: rest) a w := by
  subst hw
  refine wpList_copy_splice hgd d s 22 22 ho 27 Try.underlying22 Try.size27 _ _ _ _ _ _ hd hs W.heap.size 0 (madeCells #[.int .u64 0] n).toList 27 ?_ (xs.map (Value.int .u64)) ?_ ?_ ?_ ?_ W.heap.size W ?_ (Nat.le_refl _) ?_
  · rw [Array.toArray_toList]; exact heap_alloc_new _ _
  · simp [hl]
  · intro hp
    refine ⟨rfl, ?_⟩
    have h0 : xs[0]? = some (xs[0]'(by simpa using hp)) := by simp
    obtain ⟨b, off, e, _, _⟩ := hi 0 _ h0
    refine ⟨_, e, fun j v hj => ?_⟩
    simp only [List.getElem?_map, Option.map_eq_some_iff] at hj
    obtain ⟨x, hx, rfl⟩ := hj
    obtain ⟨b', off', e', hb', hc'⟩ := hi j x hx
    rw [e] at e'
    cases e'
    have : (⟨b, off, none⟩ : Addr).add j = ⟨b, off + j, none⟩ := by unfold Addr.add; split <;> simp_all
    rw [this, World.cell?_alloc_past _ _ _ hb']
    exact hc'
  · simp [madeCells]; omega
  · intro v hv
    obtain ⟨_, _, rfl⟩ := List.mem_map.1 hv
    rfl
  · exact (Below.refl _ _).alloc (Nat.le_refl _) _
  · intro w' HG hb
    exact h w' _ (copied HG.out hl) hb
end Go.Proofs.Qxb6627773a
