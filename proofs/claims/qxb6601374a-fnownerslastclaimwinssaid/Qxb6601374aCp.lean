import Derived.Test.Qxb6601374aW2
namespace Go.Proofs.Qxb6601374a
open Go.RowKit

/-- 'k' of the elements have been laid into the new block, 'n' in all, 'sz' cells each. -/
def CpRel {α : Type} (f : α → List Value) (sz t : Nat) (xs : List α) (n : Nat) (w : World) (k : Nat) (wr : World) : Prop :=
  Below w.heap.size w wr ∧ wr.heap.size = w.heap.size + 1 ∧ ∃ rest : List Value, rest.length = (n - k) * sz ∧ Blk wr w.heap.size ((xs.take k).flatMap f ++ rest) t

theorem CpRel.start {α : Type} (f : α → List Value) (sz t : Nat) (xs : List α) (n : Nat) (w : World) (z : Array Value) (hz : z.size = n * sz) : CpRel f sz t xs n w 0 (w.alloc (.cells z t)) :=
  ⟨(Below.refl _ _).alloc (Nat.le_refl _) _, by simp, z.toList, by simpa using hz, Blk.new' _ _ _⟩

theorem CpRel.step {α : Type} {f : α → List Value} {sz t : Nat} (hf : ∀ a, (f a).length = sz) {xs : List α} {n : Nat} {w : World} {k : Nat} {wr : World} (h : CpRel f sz t xs n w k wr) {p : α} (hp : xs[k]? = some p) (hk : k < n) :
    CpRel f sz t xs n w (k + 1) (wr.setCells w.heap.size (k * sz) (f p)) := by
  obtain ⟨h1, h2, rest, h3, h4⟩ := h
  have hl : k < xs.length := (List.getElem?_eq_some_iff.1 hp).1
  obtain ⟨m, hm⟩ : ∃ m, n - k = m + 1 := ⟨n - k - 1, by omega⟩
  have hm2 : n - (k + 1) = m := by omega
  rw [hm] at h3
  have hm3 : (m + 1) * sz = m * sz + sz := Nat.succ_mul m sz
  refine ⟨Below.setCells _ (Nat.le_refl _) _ _ _ h1, by rw [size_setCells, h2], rest.drop sz, by rw [List.length_drop, h3, hm2]; omega, ?_⟩
  rw [flat_take_succ _ _ _ _ hp]
  refine Blk.setCells_at (old := rest.take sz) (by rw [List.append_assoc, List.take_append_drop]; exact h4) ?_ (by rw [hf, List.length_take, h3]; omega)
  rw [flat_len _ sz hf, List.length_take]; congr 1; omega

theorem CpRel.there {α : Type} {f : α → List Value} {sz t : Nat} (hf : ∀ a, (f a).length = sz) {xs : List α} {n : Nat} {w : World} {k : Nat} {wr : World} (h : CpRel f sz t xs n w k wr) (hn : xs.length = n) (hk : k < n) : wr.there w.heap.size (k * sz) sz := by
  obtain ⟨h1, h2, rest, h3, h4⟩ := h
  refine h4.there ?_
  obtain ⟨m, hm⟩ : ∃ m, n - k = m + 1 := ⟨n - k - 1, by omega⟩
  rw [hm, Nat.succ_mul] at h3
  rw [List.length_append, h3, flat_len _ sz hf, List.length_take, Nat.min_eq_left (by omega)]; omega

theorem CpRel.done {α : Type} {f : α → List Value} {sz t : Nat} {xs : List α} {n : Nat} {w : World} {wr : World} (h : CpRel f sz t xs n w n wr) (hn : xs.length = n) : Blk wr w.heap.size (xs.flatMap f) t := by
  obtain ⟨h1, h2, rest, h3, h4⟩ := h
  obtain rfl : rest = [] := List.eq_nil_of_length_eq_zero (by rw [h3]; simp)
  rw [List.take_of_length_le (by omega), List.append_nil] at h4
  exact h4

/-- A new row of zero values, behind a name. -/
def zrow (z : Value) (m : Nat) : Array Value := madeCells z.cells m
theorem zrow_size (z : Value) (m : Nat) : (zrow z m).size = m := size_madeCells _ _

theorem info9 : (Try.prog.info? 9).map (fun i => (i.zero, i.size, i.bytes)) = some (some (.string ByteArray.empty), 1, 16) := by kernel_rfl
theorem info30 : (Try.prog.info? 30).map (fun i => (i.zero, i.size, i.bytes)) = some (some (.slice none 0 0), 1, 24) := by kernel_rfl
theorem info32 : (Try.prog.info? 32).map (fun i => (i.zero, i.size, i.bytes)) = some (some (.agg #[.string ByteArray.empty, .slice none 0 0]), 2, 40) := by kernel_rfl
theorem info33 : (Try.prog.info? 33).map (fun i => (i.zero, i.size, i.bytes)) = some (some (.agg #[.int .i64 0, .int .i64 0]), 2, 16) := by kernel_rfl
theorem info37 : (Try.prog.info? 37).map (fun i => (i.zero, i.size, i.bytes)) = some (some (.agg #[.int .i64 0, .int .i64 0]), 2, 16) := by kernel_rfl
theorem size32 : (Try.prog.info? 32).map (·.size) = some 2 := by kernel_rfl
theorem size33 : (Try.prog.info? 33).map (·.size) = some 2 := by kernel_rfl
theorem size37 : (Try.prog.info? 37).map (·.size) = some 2 := by kernel_rfl

/-- 'make([]T, n)'. -/
theorem make_row (t e : TypeId) (z : Value) (sz by_ : Nat) (hu : Try.prog.underlying t = some (.slice e)) (hi : (Try.prog.info? e).map (fun i => (i.zero, i.size, i.bytes)) = some (some z, sz, by_)) (hby : by_ ≤ 200) (w : World) (n : Nat) (hn : n ≤ 1000000) :
    (Instr.makeSlice t (.int .i64 (n : Int)) (.int .i64 (n : Int))).run Try.prog w = .ok (.slice (some ⟨w.heap.size, 0, none⟩) n n) (w.alloc (.cells (zrow z (n * sz)) e)) := by
  obtain ⟨i0, hi, hz0, hz1, hz2⟩ := info_parts hi
  have hbb : i0.bytes * n ≤ 200 * 1000000 := by rw [hz2]; exact Nat.mul_le_mul hby hn
  have := run_make (P := Try.prog) w t e i0 z hu hi hz0 .i64 .i64 n n (by omega) (by omega) (by omega) (by omega)
  rw [this, hz1]; rfl

end Go.Proofs.Qxb6601374a
