/-
  What lies in memory while the law runs, and how it is kept.
-/
import Derived.Test.Qxb6627667aRecs
namespace Go.Proofs.Qxb6627667a
open Go.RowKit

def I64 (x : Int) : Prop := -9223372036854775808 ≤ x ∧ x ≤ 9223372036854775807

/-- What the rest of the law reads, as it lies in W: p's box, the landing's, the built row's. -/
structure Env (w0 W : World) (p : PR) (LC : List Value) (gl g : Nat) (R : List Rec) : Prop where
  below : Below w0.heap.size w0 W
  box : W.rangeAt w0.heap.size 0 p.cells
  land : W.rangeAt gl 0 LC
  recs : ∀ k x, R[k]? = some x → W.rangeAt g (k * 11) x.cells
  l1 : w0.heap.size < W.heap.size
  l2 : gl < W.heap.size
  l3 : g < W.heap.size
  l4 : w0.heap.size ≤ g

theorem Env.step {w0 W W' : World} {p : PR} {LC : List Value} {gl g : Nat} {R : List Rec} (h : Env w0 W p LC gl g R) (hb : Below W.heap.size W W') : Env w0 W' p LC gl g R where
  below := h.below.trans (hb.mono h.below.size)
  box := range_below h.box hb h.l1
  land := range_below h.land hb h.l2
  recs := fun k x hx => range_below (h.recs k x hx) hb h.l3
  l1 := Nat.lt_of_lt_of_le h.l1 hb.size
  l2 := Nat.lt_of_lt_of_le h.l2 hb.size
  l3 := Nat.lt_of_lt_of_le h.l3 hb.size
  l4 := h.l4

theorem toForge_lit (p : PR) (w : World) (hp : I64 p.retNs ∧ I64 p.satNs) :
    Calls Try.prog 9 #[.agg p.cells.toArray] w fun e w' => ∃ q, e = .returned (.agg #[.int .i64 p.num, .string p.title, .string p.target, .string p.sha, .string p.branch, .pointer q, .bool p.unap, .string p.former, .int .u64 (tWall p.retNs), .int .i64 (tExt p.retNs), .pointer none]) ∧ Below w.heap.size w w' ∧ Sched w.heap.size w' p q :=
  toForge_any p w hp.1 hp.2

theorem owns_below {w w' : World} {B : Nat} {e : TypeId} {sz : Nat} {v : Value} {n : Nat} {xs : List Value} (h : w.ownsRow B e sz v n xs) (hb : Below w.heap.size w w') : w'.ownsRow B e sz v n xs := by
  refine ⟨h.1, ?_⟩
  rcases h.2 with hn | ⟨g, cap, cur, rfl, hB, hg, rest⟩
  · exact .inl hn
  · exact .inr ⟨g, cap, cur, rfl, hB, (hb.block g (Array.getElem?_eq_some_iff.1 hg).1).trans hg, rest⟩

section
variable {w w' : World} {p : PR} {q : Option Addr} {B : Nat}
theorem sched_mono {B' : Nat} (h : Sched B w p q) (hB : B' ≤ B) : Sched B' w p q := by
  rcases h with h | ⟨h1, b, h2, h3⟩
  · exact Or.inl h
  · exact Or.inr ⟨h1, b, Nat.le_trans hB h2, h3⟩
theorem sched_below (h : Sched B w p q) (hb : Below w.heap.size w w') : Sched B w' p q := by
  rcases h with h | ⟨h1, b, h2, h3, h4, c0, c1, c2, c3⟩
  · exact Or.inl h
  · exact Or.inr ⟨h1, b, h2, Nat.lt_of_lt_of_le h3 hb.size, h4, (hb.cell h3).trans c0, (hb.cell h3).trans c1, (hb.cell h3).trans c2, (hb.cell h3).trans c3⟩
theorem sched_grown (h : Sched (B + 1) w p q) (hg : w.grownBy w' (some B)) : Sched (B + 1) w' p q := by
  rcases h with h | ⟨h1, b, h2, h3, h4, c0, c1, c2, c3⟩
  · exact Or.inl h
  · have hne : some b ≠ some B := by rintro ⟨⟩; omega
    exact Or.inr ⟨h1, b, h2, Nat.lt_of_lt_of_le h3 hg.size, h4, hg.cell c0 hne, hg.cell c1 hne, hg.cell c2 hne, hg.cell c3 hne⟩
end

/-- The list with y put in behind the first m, as far as k. -/
def insR (R : List Rec) (m : Nat) (y : Rec) (k : Nat) : List Rec := R.take m ++ y :: (R.take k).drop m
theorem insR_start (R : List Rec) (m : Nat) (y : Rec) : insR R m y m = R.take m ++ [y] := by
  have : (R.take m).drop m = [] := List.drop_eq_nil_of_le (List.length_take_le _ _)
  simp [insR, this]
theorem insR_step {R : List Rec} {m k : Nat} {x : Rec} (y : Rec) (hm : m ≤ k) (hx : R[k]? = some x) : insR R m y (k + 1) = insR R m y k ++ [x] := by
  have hk := (List.getElem?_eq_some_iff.1 hx).1
  have : (R.take (k + 1)).drop m = (R.take k).drop m ++ [x] := by
    rw [List.take_add_one, hx, List.drop_append_of_le_length (by simp; omega)]; rfl
  simp [insR, this]
theorem insR_end (R : List Rec) (m : Nat) (y : Rec) : insR R m y R.length = R.take m ++ y :: R.drop m := by simp [insR]

theorem landing_lit (n : Int) (t h b c : ByteArray) (ns : Int) (w : World) (hl : I64 ns) :
    Calls Try.prog 7 #[.int .i64 n, .string t, .string h, .string b, .string c, .int .i64 ns] w fun e w' => e = .returned (.agg #[.int .i64 n, .string t, .string h, .string b, .string c, .int .u64 (tWall ns), .int .i64 (tExt ns), .pointer none]) ∧ Below w.heap.size w w' :=
  landing_any n t h b c ns w hl.1 hl.2

theorem openAt_below {w W : World} {ao : Option Addr} {n : Nat} {L : Nat → PR} (h : OpenAt w ao n L) (hb : Below w.heap.size w W) : OpenAt W ao n L := fun k hk => by
  obtain ⟨b, off, e, hlt, hc⟩ := h k hk
  exact ⟨b, off, e, Nat.lt_of_lt_of_le hlt hb.size, range_below hc hb hlt⟩

theorem box_at (w : World) (p : PR) : (w.alloc (.cells p.cells.toArray 24)).rangeAt w.heap.size 0 p.cells := fun j v hj => by
  rw [Nat.zero_add, cell_of_row _ _ _ p.cells.toArray 24 (0, 0) (heap_alloc_new w _)]
  simpa using hj

/-- The world behind p's box and whatever calls. -/
structure Boxed (w0 W : World) (p : PR) : Prop where
  below : Below w0.heap.size w0 W
  box : W.rangeAt w0.heap.size 0 p.cells
  l1 : w0.heap.size < W.heap.size
theorem Boxed.start (w : World) (p : PR) : Boxed w (w.alloc (.cells p.cells.toArray 24)) p := ⟨(Below.refl _ _).alloc (Nat.le_refl _) _, box_at w p, by simp⟩
theorem Boxed.step {w0 W W' : World} {p : PR} (h : Boxed w0 W p) (hb : Below W.heap.size W W') : Boxed w0 W' p :=
  ⟨h.below.trans (hb.mono h.below.size), range_below h.box hb h.l1, Nat.lt_of_lt_of_le h.l1 hb.size⟩
theorem Boxed.alloc {w0 W : World} {p : PR} (h : Boxed w0 W p) (o : Obj) : Boxed w0 (W.alloc o) p := h.step ((Below.refl _ _).alloc (Nat.le_refl _) _)

theorem flat_take {R : List Rec} {k : Nat} {x : Rec} (hx : R[k]? = some x) : flat (R.take (k + 1)) = flat (R.take k) ++ x.cells := by
  rw [List.take_add_one, hx]; simp [flat]

theorem flat_insR {R : List Rec} {m k : Nat} {x : Rec} (y : Rec) (hm : m ≤ k) (hx : R[k]? = some x) : flat (insR R m y (k + 1)) = flat (insR R m y k) ++ x.cells := by
  rw [insR_step y hm hx, flat_snoc]

/-- .. and behind the landing's. -/
structure LandEnv (w0 W : World) (p : PR) (LC : List Value) (gl : Nat) : Prop where
  boxed : Boxed w0 W p
  land : W.rangeAt gl 0 LC
  l2 : gl < W.heap.size
theorem LandEnv.start {w0 W : World} {p : PR} (h : Boxed w0 W p) (LC : List Value) : LandEnv w0 (W.alloc (.cells LC.toArray 33)) p LC W.heap.size where
  boxed := h.alloc _
  land := fun j v hj => by
    rw [Nat.zero_add, cell_of_row _ _ _ LC.toArray 33 (0, 0) (heap_alloc_new W _)]
    simpa using hj
  l2 := by simp
/-- The records that stackedBuild made. -/
def recsOf (L : Nat → PR) (q : Nat → Option Addr) (n : Nat) : List Rec := (List.range n).map fun k => (L k, q k)
theorem recsOf_len (L : Nat → PR) (q : Nat → Option Addr) (n : Nat) : (recsOf L q n).length = n := by simp [recsOf]
theorem LandEnv.built {w0 W W' : World} {p : PR} {LC : List Value} {gl : Nat} {L : Nat → PR} {n : Nat} {q : Nat → Option Addr} (h : LandEnv w0 W p LC gl) (hv : BuildInv W W' L n n q) : Env w0 W' p LC gl W.heap.size (recsOf L q n) where
  below := (h.boxed.step hv.below).below
  box := (h.boxed.step hv.below).box
  land := range_below h.land hv.below h.l2
  recs := fun k x hx => by
    obtain ⟨hk, rfl⟩ : k < n ∧ (L k, q k) = x := by
      simp only [recsOf, List.getElem?_map, Option.map_eq_some_iff] at hx
      obtain ⟨a, ha, rfl⟩ := hx
      obtain ⟨h1, h2⟩ := List.getElem?_eq_some_iff.1 ha
      simp at h1 h2
      subst h2
      exact ⟨h1, rfl⟩
    exact hv.done k hk
  l1 := (h.boxed.step hv.below).l1
  l2 := Nat.lt_of_lt_of_le h.l2 hv.below.size
  l3 := hv.lt
  l4 := h.boxed.below.size

end Go.Proofs.Qxb6627667a
