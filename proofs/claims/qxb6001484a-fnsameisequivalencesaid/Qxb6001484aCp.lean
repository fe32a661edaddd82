import Derived.Test.Qxb6001484aW1
namespace Go.Proofs.Qxb6001484a
open Go.RowKit

/-- 'k' of the elements have been laid into the new block, 'n' in all, 'sz' cells each. -/
def CpRel {α : Type} (f : α → List Value) (sz t : Nat) (xs : List α) (n : Nat) (w : World) (k : Nat) (wr : World) : Prop :=
  Below w.heap.size w wr ∧ wr.heap.size = w.heap.size + 1 ∧ ∃ rest : List Value, rest.length = (n - k) * sz ∧ Blk wr w.heap.size ((xs.take k).flatMap f ++ rest) t

theorem CpRel.start {α : Type} (f : α → List Value) (sz t : Nat) (xs : List α) (n : Nat) (w : World) (z : Array Value) (hz : z.size = n * sz) : CpRel f sz t xs n w 0 (w.alloc (.cells z t)) :=
  ⟨(Below.refl _ _).alloc (Nat.le_refl _) _, by simp, z.toList, by simpa using hz, Blk.new' _ _ _⟩

theorem CpRel.step {α : Type} {f : α → List Value} {sz t : Nat} (hf : ∀ a, (f a).length = sz) {xs : List α} {n : Nat} {w : World} {k : Nat} {wr : World} (h : CpRel f sz t xs n w k wr) {p : α} (hp : xs[k]? = some p) (hk : k < n) :
    CpRel f sz t xs n w (k + 1) (wr.setCells w.heap.size (k * sz) (f p)) := by
  obtain ⟨h1, h2, rest, h3, h4⟩ := h
  have hl : k < xs.length := (List.getElem?_eq_some_iff.1 hp).1
  obtain ⟨m, hm⟩ : ∃ m, n - k = m + 1 := ⟨n - k - 1, by omega⟩
  have hm2 : n - (k + 1) = m := by omega
  rw [hm] at h3
  have hm3 : (m + 1) * sz = m * sz + sz := Nat.succ_mul m sz
  refine ⟨Below.setCells _ (Nat.le_refl _) _ _ _ h1, by rw [size_setCells, h2], rest.drop sz, by rw [List.length_drop, h3, hm2]; omega, ?_⟩
  rw [flat_take_succ _ _ _ _ hp]
  refine Blk.setCells_at (old := rest.take sz) (by rw [List.append_assoc, List.take_append_drop]; exact h4) ?_ (by rw [hf, List.length_take, h3]; omega)
  rw [flat_len _ sz hf, List.length_take]; congr 1; omega

theorem CpRel.there {α : Type} {f : α → List Value} {sz t : Nat} (hf : ∀ a, (f a).length = sz) {xs : List α} {n : Nat} {w : World} {k : Nat} {wr : World} (h : CpRel f sz t xs n w k wr) (hn : xs.length = n) (hk : k < n) : wr.there w.heap.size (k * sz) sz := by
  obtain ⟨h1, h2, rest, h3, h4⟩ := h
  refine h4.there ?_
  obtain ⟨m, hm⟩ : ∃ m, n - k = m + 1 := ⟨n - k - 1, by omega⟩
  rw [hm, Nat.succ_mul] at h3
  rw [List.length_append, h3, flat_len _ sz hf, List.length_take, Nat.min_eq_left (by omega)]; omega

theorem CpRel.done {α : Type} {f : α → List Value} {sz t : Nat} {xs : List α} {n : Nat} {w : World} {wr : World} (h : CpRel f sz t xs n w n wr) (hn : xs.length = n) : Blk wr w.heap.size (xs.flatMap f) t := by
  obtain ⟨h1, h2, rest, h3, h4⟩ := h
  obtain rfl : rest = [] := List.eq_nil_of_length_eq_zero (by rw [h3]; simp)
  rw [List.take_of_length_le (by omega), List.append_nil] at h4
  exact h4

def u8c (v : Int) : List Value := [.int .u8 v]
def u32c (v : Int) : List Value := [.int .u32 v]
def strc (s : ByteArray) : List Value := [.string s]

theorem flat_one {α : Type} (f : α → Value) (l : List α) : (l.flatMap fun a => [f a]) = l.map f := by
  induction l with
  | nil => rfl
  | cons a r ih => rw [List.flatMap_cons, ih]; rfl

theorem info5 : (Try.prog.info? 5).map (fun i => (i.zero, i.size, i.bytes)) = some (some (.int .u8 0), 1, 1) := by kernel_rfl
theorem info27 : (Try.prog.info? 27).map (fun i => (i.zero, i.size, i.bytes)) = some (some (.int .u32 0), 1, 4) := by kernel_rfl
theorem info9 : (Try.prog.info? 9).map (fun i => (i.zero, i.size, i.bytes)) = some (some (.string ByteArray.empty), 1, 16) := by kernel_rfl
theorem info3 : (Try.prog.info? 3).map (fun i => (i.zero, i.size, i.bytes)) = some (some (.int .i64 0), 1, 8) := by kernel_rfl

/-- A new row of zero values, behind a name. -/
def zeros (z : Value) (n : Nat) : Array Value := madeCells z.cells n
theorem zeros_size (z : Value) (n : Nat) : (zeros z n).size = n := size_madeCells _ _

/-- 'make([]T, l, c)', T of one cell. -/
theorem make_row (t e : TypeId) (z : Value) (by_ : Nat) (hu : Try.prog.underlying t = some (.slice e)) (hi : (Try.prog.info? e).map (fun i => (i.zero, i.size, i.bytes)) = some (some z, 1, by_)) (hby : by_ ≤ 16) (w : World) (l c : Int) (ln cn : Nat) (hl : l = (ln : Int)) (hc : c = (cn : Int)) (hlc : ln ≤ cn) (hn : cn ≤ 10000000) :
    (Instr.makeSlice t (.int .i64 l) (.int .i64 c)).run Try.prog w = .ok (.slice (some ⟨w.heap.size, 0, none⟩) ln cn) (w.alloc (.cells (zeros z cn) e)) := by
  subst hl
  subst hc
  obtain ⟨i0, hi, hz0, hz1, hz2⟩ := info_parts hi
  have hb : (i0.bytes : Int) * (cn : Int) ≤ 281474976710656 := by
    rw [hz2]
    have : by_ * cn ≤ 16 * 10000000 := Nat.mul_le_mul hby hn
    have h2 : ((by_ * cn : Nat) : Int) ≤ 160000000 := by omega
    rw [Int.natCast_mul] at h2
    omega
  have := run_make (P := Try.prog) w t e i0 z hu hi hz0 .i64 .i64 ln cn (by omega) (by omega) hb (by omega)
  rw [this, hz1, Nat.mul_one]; rfl

theorem clone_step {α : Type} {f : α → Value} {t : Nat} {xs : List α} {n : Nat} {w : World} {k : Nat} {wr : World} (h : CpRel (fun a => [f a]) 1 t xs n w k wr) {p : α} (hp : xs[k]? = some p) (hk : k < n) :
    CpRel (fun a => [f a]) 1 t xs n w (k + 1) (wr.setCell ⟨w.heap.size, k, none⟩ (f p)) := by
  have := CpRel.step (f := fun a => [f a]) (sz := 1) (fun _ => rfl) h hp hk
  rw [Nat.mul_one] at this
  exact this

theorem clone_there {α : Type} {f : α → Value} {t : Nat} {xs : List α} {n : Nat} {w : World} {k : Nat} {wr : World} (h : CpRel (fun a => [f a]) 1 t xs n w k wr) (hn : xs.length = n) (hk : k < n) : ∃ o, wr.cell? ⟨w.heap.size, k, none⟩ = some o ∧ wr.frozen? ⟨w.heap.size, k, none⟩ = false := by
  have ht := (CpRel.there (f := fun a => [f a]) (sz := 1) (fun _ => rfl) h hn hk) 0 Nat.one_pos
  obtain ⟨o, ho⟩ := Option.isSome_iff_exists.1 ht.1
  have h2 := ht.2
  rw [Nat.mul_one, Nat.add_zero] at ho h2
  exact ⟨o, ho, h2⟩

/-- WHAT A CLONE COMES TO: a slice of the same length; where it is not empty, a new block that holds the same elements. -/
def ClonePost {α : Type} (f : α → Value) (t : Nat) (xs : List α) (n : Nat) (w : World) (e : Ending) (w' : World) : Prop :=
  ∃ a c, e = .returned (.slice a n c) ∧ Below w.heap.size w w' ∧ n ≤ c ∧ (0 < n → a = some ⟨w.heap.size, 0, none⟩ ∧ Blk w' w.heap.size (xs.map f) t)

theorem clone_end {α : Type} {f : α → Value} {t : Nat} {xs : List α} {n : Nat} {w : World} {wr : World} (h : CpRel (fun a => [f a]) 1 t xs n w n wr) (hn : xs.length = n) : ClonePost f t xs n w (.returned (.slice (some ⟨w.heap.size, 0, none⟩) n n)) wr := by
  have hd := h.done hn
  rw [flat_one] at hd
  exact ⟨_, _, rfl, h.1, Nat.le_refl _, fun _ => ⟨rfl, hd⟩⟩

/-- WHAT A WALK IS TOLD OF A SLICE THAT CAME IN: its first 'len' elements, where there are any, lie one behind the other. -/
def IsSl {α : Type} (f : α → Value) (w : World) (a : Option Addr) (len : Nat) (xs : List α) : Prop :=
  xs.length = len ∧ (0 < len → ∃ b off, a = some ⟨b, off, none⟩ ∧ b < w.heap.size ∧ ∀ (i : Nat) (x : α), xs[i]? = some x → w.cell? ⟨b, off + i, none⟩ = some (f x))

end Go.Proofs.Qxb6001484a
