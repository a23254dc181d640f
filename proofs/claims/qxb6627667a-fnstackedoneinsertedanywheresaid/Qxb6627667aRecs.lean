/-
  Records read back as slices; Stacked's contract in that form.
-/
import Derived.Test.Qxb6627667aStacked
namespace Go.Proofs.Qxb6627667a
open Go.RowKit

theorem flat_at : ∀ (F : List Rec) (k : Nat) (x : Rec) (j : Nat), F[k]? = some x → j < 11 → (flat F)[k * 11 + j]? = x.cells[j]?
  | [], k, x, j, h, _ => by simp at h
  | y :: F, 0, x, j, h, hj => by
    simp at h; subst h
    have hl : y.cells.length = 11 := rfl
    simp only [flat, List.flatMap_cons]
    rw [List.getElem?_append_left (by omega)]
    congr 1; omega
  | y :: F, k + 1, x, j, h, hj => by
    simp at h
    have hl : y.cells.length = 11 := rfl
    simp only [flat, List.flatMap_cons]
    rw [List.getElem?_append_right (by omega)]
    rw [show (k + 1) * 11 + j - y.cells.length = k * 11 + j by omega]
    exact flat_at F k x j h hj

theorem recAt_below {w W : World} {ao : Option Addr} {R : List Rec} (h : RecAt w ao R) (hb : Below w.heap.size w W) : RecAt W ao R := fun k x hx => by
  obtain ⟨b, off, e, hlt, hc⟩ := h k x hx
  exact ⟨b, off, e, Nat.lt_of_lt_of_le hlt hb.size, range_below hc hb hlt⟩

theorem recAt_take {w : World} {ao : Option Addr} {R : List Rec} (h : RecAt w ao R) (m : Nat) : RecAt w ao (R.take m) := fun k x hx => by
  refine h k x ?_
  rw [List.getElem?_take] at hx
  split at hx
  · exact hx
  · cases hx

/-- What is owned, read as a slice. -/
theorem owns_rec {w : World} {B : Nat} {v : Value} {n : Nat} {F : List Rec} (h : w.ownsRow B 39 11 v n (flat F)) (hn : F.length = n) : ∃ ao cap, v = .slice ao n cap ∧ RecAt w ao F := by
  rcases h.2 with ⟨rfl, h0⟩ | ⟨g, cap, cur, rfl, hB, hg, h1, h2, h3, h4⟩
  · refine ⟨none, 0, by rw [h0], fun k x hx => ?_⟩
    have : F = [] := List.eq_nil_of_length_eq_zero (by omega)
    subst this
    simp at hx
  · refine ⟨_, _, rfl, fun k x hx => ⟨g, 0, rfl, (Array.getElem?_eq_some_iff.1 hg).1, fun j u hj => ?_⟩⟩
    have hj11 : j < 11 := (List.getElem?_eq_some_iff.1 hj).1
    have hf := flat_at F k x j hx hj11
    rw [hj] at hf
    have := h.cells (g := g) rfl (k * 11 + j) u hf
    rw [Addr.add_mid] at this
    rw [Nat.zero_add]
    simpa using this

theorem stacked_len (n1 : Int) (t h hb c : ByteArray) (ns : Int) (ao : Option Addr) (n cap : Nat) (R : List Rec) (w : World) (hl : R.length = n) (hn : n * 128 ≤ 140737488355328) (ho : RecAt w ao R) :
    Calls Try.prog 10 #[.agg (lcells n1 t h hb c ns).toArray, .slice ao n cap] w fun e w' => ∃ f ao' cap', e = .returned (.slice ao' f cap') ∧ Below w.heap.size w w' ∧ (R.filter (keepB n1 t h hb ns)).length = f ∧ RecAt w' ao' (R.filter (keepB n1 t h hb ns)) := by
  subst hl
  refine (stacked_any n1 t h hb c ns ao cap R w hn ho).mono ?_
  rintro e w' ⟨v, rfl, hb1, hown⟩
  obtain ⟨ao', cap', rfl, hr⟩ := owns_rec hown rfl
  exact ⟨_, _, _, rfl, hb1, rfl, hr⟩
end Go.Proofs.Qxb6627667a
