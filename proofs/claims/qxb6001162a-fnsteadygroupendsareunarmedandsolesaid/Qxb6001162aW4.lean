import Derived.Test.Qxb6001162aW3
import Derived.Deep.RegionHeld3
import Derived.Deep.DrawnRows
namespace Go.Proofs.Qxb6001162a
open Go.RowKit

theorem info52 : (Try.prog.info? 52).map (fun i => (i.zero, i.size, i.bytes)) = some (some zero34, 10, 48) := by kernel_rfl
theorem size52 : (Try.prog.info? 52).map (·.size) = some 10 := by kernel_rfl

/-- 'k' of the elements have been laid into the new block, 'n' in all, 'sz' cells each. -/
def CpRel {α : Type} (f : α → List Value) (sz t : Nat) (xs : List α) (n : Nat) (w : World) (k : Nat) (wr : World) : Prop :=
  Below w.heap.size w wr ∧ wr.heap.size = w.heap.size + 1 ∧ ∃ rest : List Value, rest.length = (n - k) * sz ∧ Blk wr w.heap.size ((xs.take k).flatMap f ++ rest) t

theorem CpRel.start {α : Type} (f : α → List Value) (sz t : Nat) (xs : List α) (n : Nat) (w : World) (z : Array Value) (hz : z.size = n * sz) : CpRel f sz t xs n w 0 (w.alloc (.cells z t)) :=
  ⟨(Below.refl _ _).alloc (Nat.le_refl _) _, by simp, z.toList, by simpa using hz, Blk.new' _ _ _⟩

theorem CpRel.step {α : Type} {f : α → List Value} {sz t : Nat} (hf : ∀ a, (f a).length = sz) {xs : List α} {n : Nat} {w : World} {k : Nat} {wr : World} (h : CpRel f sz t xs n w k wr) {p : α} (hp : xs[k]? = some p) (hk : k < n) :
    CpRel f sz t xs n w (k + 1) (wr.setCells w.heap.size (k * sz) (f p)) := by
  obtain ⟨h1, h2, rest, h3, h4⟩ := h
  have hl : k < xs.length := (List.getElem?_eq_some_iff.1 hp).1
  obtain ⟨m, hm⟩ : ∃ m, n - k = m + 1 := ⟨n - k - 1, by omega⟩
  have hm2 : n - (k + 1) = m := by omega
  rw [hm] at h3
  have hm3 : (m + 1) * sz = m * sz + sz := Nat.succ_mul m sz
  refine ⟨Below.setCells _ (Nat.le_refl _) _ _ _ h1, by rw [size_setCells, h2], rest.drop sz, by rw [List.length_drop, h3, hm2]; omega, ?_⟩
  rw [flat_take_succ _ _ _ _ hp]
  refine Blk.setCells_at (old := rest.take sz) (by rw [List.append_assoc, List.take_append_drop]; exact h4) ?_ (by rw [hf, List.length_take, h3]; omega)
  rw [flat_len _ sz hf, List.length_take]; congr 1; omega

theorem CpRel.there {α : Type} {f : α → List Value} {sz t : Nat} (hf : ∀ a, (f a).length = sz) {xs : List α} {n : Nat} {w : World} {k : Nat} {wr : World} (h : CpRel f sz t xs n w k wr) (hn : xs.length = n) (hk : k < n) : wr.there w.heap.size (k * sz) sz := by
  obtain ⟨h1, h2, rest, h3, h4⟩ := h
  refine h4.there ?_
  obtain ⟨m, hm⟩ : ∃ m, n - k = m + 1 := ⟨n - k - 1, by omega⟩
  rw [hm, Nat.succ_mul] at h3
  rw [List.length_append, h3, flat_len _ sz hf, List.length_take, Nat.min_eq_left (by omega)]; omega

theorem CpRel.done {α : Type} {f : α → List Value} {sz t : Nat} {xs : List α} {n : Nat} {w : World} {wr : World} (h : CpRel f sz t xs n w n wr) (hn : xs.length = n) : Blk wr w.heap.size (xs.flatMap f) t := by
  obtain ⟨h1, h2, rest, h3, h4⟩ := h
  obtain rfl : rest = [] := List.eq_nil_of_length_eq_zero (by rw [h3]; simp)
  rw [List.take_of_length_le (by omega), List.append_nil] at h4
  exact h4

theorem CpRel.drew {α : Type} {f : α → List Value} {sz t : Nat} {xs : List α} {n : Nat} {w : World} {k : Nat} {wr : World} (h : CpRel f sz t xs n w k wr) : CpRel f sz t xs n w k wr.drew := by
  obtain ⟨h1, h2, rest, h3, h4⟩ := h
  exact ⟨h1.drew, h2, rest, h3, h4.drew⟩

theorem there_cells10 {w : World} {g o : Nat} (h : w.there g o 10) : ∃ v0 v1 v2 v3 v4 v5 v6 v7 v8 v9, (w.cell? ⟨g, o, none⟩ = some v0 ∧ w.cell? ⟨g, o + 1, none⟩ = some v1 ∧ w.cell? ⟨g, o + 2, none⟩ = some v2 ∧ w.cell? ⟨g, o + 3, none⟩ = some v3 ∧ w.cell? ⟨g, o + 4, none⟩ = some v4 ∧
    w.cell? ⟨g, o + 5, none⟩ = some v5 ∧ w.cell? ⟨g, o + 6, none⟩ = some v6 ∧ w.cell? ⟨g, o + 7, none⟩ = some v7 ∧ w.cell? ⟨g, o + 8, none⟩ = some v8 ∧ w.cell? ⟨g, o + 9, none⟩ = some v9) ∧
    (w.frozen? ⟨g, o, none⟩ = false ∧ w.frozen? ⟨g, o + 1, none⟩ = false ∧ w.frozen? ⟨g, o + 2, none⟩ = false ∧ w.frozen? ⟨g, o + 3, none⟩ = false ∧ w.frozen? ⟨g, o + 4, none⟩ = false ∧
    w.frozen? ⟨g, o + 5, none⟩ = false ∧ w.frozen? ⟨g, o + 6, none⟩ = false ∧ w.frozen? ⟨g, o + 7, none⟩ = false ∧ w.frozen? ⟨g, o + 8, none⟩ = false ∧ w.frozen? ⟨g, o + 9, none⟩ = false) := by
  have e := fun j hj => Option.isSome_iff_exists.1 (h j hj).1
  obtain ⟨v0, h0⟩ := e 0 (by omega)
  obtain ⟨v1, h1⟩ := e 1 (by omega)
  obtain ⟨v2, h2⟩ := e 2 (by omega)
  obtain ⟨v3, h3⟩ := e 3 (by omega)
  obtain ⟨v4, h4⟩ := e 4 (by omega)
  obtain ⟨v5, h5⟩ := e 5 (by omega)
  obtain ⟨v6, h6⟩ := e 6 (by omega)
  obtain ⟨v7, h7⟩ := e 7 (by omega)
  obtain ⟨v8, h8⟩ := e 8 (by omega)
  obtain ⟨v9, h9⟩ := e 9 (by omega)
  exact ⟨v0, v1, v2, v3, v4, v5, v6, v7, v8, v9, ⟨h0, h1, h2, h3, h4, h5, h6, h7, h8, h9⟩, (h 0 (by omega)).2, (h 1 (by omega)).2, (h 2 (by omega)).2, (h 3 (by omega)).2, (h 4 (by omega)).2, (h 5 (by omega)).2, (h 6 (by omega)).2, (h 7 (by omega)).2, (h 8 (by omega)).2, (h 9 (by omega)).2⟩

end Go.Proofs.Qxb6001162a
