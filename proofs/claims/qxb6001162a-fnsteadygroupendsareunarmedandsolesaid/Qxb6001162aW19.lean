import Derived.Test.Qxb6001162aP4
import Derived.Deep.RegionHeld3
import Derived.Deep.DrawnRows
namespace Go.Proofs.Qxb6001162a
open Go.RowKit

theorem info3 : (Try.prog.info? 3).map (fun i => (i.zero, i.size, i.bytes)) = some (some (.int .i64 0), 1, 8) := by kernel_rfl
def zeros3 (n : Nat) : Array Value := madeCells #[.int .i64 0] n
def natCells (l : List Nat) : List Value := l.map fun (n : Nat) => Value.int .i64 (n : Int)

theorem zeros3_list (n : Nat) : (zeros3 n).toList = natCells (List.replicate n 0) := by
  refine List.ext_getElem (by simp [zeros3, natCells, size_madeCells]) ?_
  intro i h1 h2
  simp [zeros3, natCells, madeCells, Nat.mod_one]

theorem make_counts (w : World) (k : Int) (n : Nat) (hk : k = (n : Int)) (hn : n ≤ 1000000) :
    (Instr.makeSlice 42 (.int .i64 k) (.int .i64 k)).run Try.prog w = .ok (.slice (some ⟨w.heap.size, 0, none⟩) n n) (w.alloc (.cells (zeros3 n) 3)) := by
  subst hk
  obtain ⟨i0, hi, hz0, hz1, hz2⟩ := info_parts info3
  have := run_make (P := Try.prog) w 42 3 i0 (.int .i64 0) Try.underlying42 hi hz0 .i64 .i64 n n (by omega) (by omega) (by rw [hz2]; omega) (by omega)
  rw [this, hz1, Nat.mul_one]; rfl

/-- Counts of the ends, group by group. -/
def Counts (ps : List Inst) (m : Nat) (l : List Nat) : Prop := l.length = m ∧ ∀ g x, l[g]? = some x → x = cntEnd ps g

theorem Counts.start (m : Nat) : Counts [] m (List.replicate m 0) := ⟨by simp, fun g x h => by rw [List.getElem?_replicate] at h; split at h <;> cases h; rfl⟩

theorem Counts.same {ps : List Inst} {m : Nat} {l : List Nat} (h : Counts ps m l) (p : Inst) (hp : ¬ (p.op = 4 ∧ p.arg % 2 = 1)) : Counts (ps ++ [p]) m l :=
  ⟨h.1, fun g x hx => by
    rw [cntEnd_snoc, ← h.2 g x hx, if_neg]
    · omega
    · intro e; simp [Inst.endOf] at e; exact hp ⟨e.1.1, e.1.2⟩⟩

theorem Counts.more {ps : List Inst} {m : Nat} {l : List Nat} (h : Counts ps m l) (p : Inst) (h4 : p.op = 4) (ho : p.arg % 2 = 1) {g x : Nat} (hg : p.arg / 2 = (g : Int)) (hx : l[g]? = some x) : Counts (ps ++ [p]) m (l.set g (x + 1)) :=
  ⟨by rw [List.length_set]; exact h.1, fun g' y hy => by
    rw [cntEnd_snoc]
    by_cases e : g' = g
    · subst e
      rw [List.getElem?_set, if_pos rfl] at hy
      split at hy
      · cases hy
        rw [if_pos (by simp [Inst.endOf, h4, ho, hg]), ← h.2 g' x hx]
      · cases hy
    · rw [List.getElem?_set_ne (Ne.symm e)] at hy
      rw [if_neg (by simp [Inst.endOf, h4, ho, hg]; omega), ← h.2 g' y hy]; omega⟩

/-- Loop 1 of 'groupEndsVary'. -/
structure V1 (ps : List Inst) (m B : Nat) (w : World) (k : Nat) (sv : Value) (wr : World) : Prop where
  below : Below B w wr
  size : w.heap.size < wr.heap.size
  row : Row wr (w.heap.size + 1) sv (asX (ps.take k))
  cnt : ∃ l : List Nat, Counts (ps.take k) m l ∧ (∀ g, cntEnd (ps.take k) g ≤ 1) ∧ Blk wr w.heap.size (natCells l) 3

theorem V1.start (ps : List Inst) (m B : Nat) (w : World) (hB : B ≤ w.heap.size) : V1 ps m B w 0 (.slice none 0 0) (w.alloc (.cells (zeros3 m) 3)) where
  below := (Below.refl _ _).alloc hB _
  size := by rw [World.size_alloc]; omega
  row := World.ownsRow_nil _ _ _ _
  cnt := ⟨_, Counts.start m, fun g => by simp [cntEnd], by have h := Blk.new' w (zeros3 m) 3; rwa [zeros3_list] at h⟩

theorem V1.alloc {ps : List Inst} {m B : Nat} {w : World} {k : Nat} {sv : Value} {wr : World} (h : V1 ps m B w k sv wr) (hB : B ≤ w.heap.size) (o : Obj) : V1 ps m B w k sv (wr.alloc o) where
  below := h.below.alloc (by have := h.size; omega) _
  size := by rw [World.size_alloc]; have := h.size; omega
  row := h.row.alloc _
  cnt := by obtain ⟨l, a, b, c⟩ := h.cnt; exact ⟨l, a, b, c.alloc _⟩

theorem V1.pass {ps : List Inst} {m B : Nat} {w : World} {k : Nat} {sv : Value} {wr : World} (h : V1 ps m B w k sv wr) {p : Inst} (hp : ps[k]? = some p) (h3 : ¬ p.op = 3) (h4 : ¬ (p.op = 4 ∧ p.arg % 2 = 1)) : V1 ps m B w (k + 1) sv wr where
  below := h.below
  size := h.size
  row := by rw [take_snoc hp, asX_snoc, if_neg h3, List.append_nil]; exact h.row
  cnt := by
    obtain ⟨l, a, b, c⟩ := h.cnt
    refine ⟨l, by rw [take_snoc hp]; exact a.same p h4, fun g => ?_, c⟩
    rw [take_snoc hp, cntEnd_snoc, if_neg]
    · have := b g; omega
    · intro e; simp [Inst.endOf] at e; exact h4 ⟨e.1.1, e.1.2⟩

theorem V1.count {ps : List Inst} {m B : Nat} {w : World} {k : Nat} {sv : Value} {wr : World} (h : V1 ps m B w k sv wr) (hB : B ≤ w.heap.size) {p : Inst} (hp : ps[k]? = some p) (h4 : p.op = 4) (ho : p.arg % 2 = 1) {l : List Nat} (hl : Counts (ps.take k) m l) (hb : Blk wr w.heap.size (natCells l) 3)
    {g : Nat} (hg : p.arg / 2 = (g : Int)) (hx : l[g]? = some 0) : V1 ps m B w (k + 1) sv (wr.setCell ⟨w.heap.size, g, none⟩ (.int .i64 1)) where
  below := h.below.setCell hB _
  size := by rw [World.size_setCell]; exact h.size
  row := by
    rw [take_snoc hp, asX_snoc, if_neg (by omega), List.append_nil]
    exact h.row.setCell (by show w.heap.size < _; omega) _
  cnt := by
    obtain ⟨l', a, b, c⟩ := h.cnt
    refine ⟨l.set g (0 + 1), by rw [take_snoc hp]; exact hl.more p h4 ho hg hx, fun g' => ?_, ?_⟩
    · rw [take_snoc hp, cntEnd_snoc]
      by_cases e : g' = g
      · subst e
        rw [← hl.2 g' 0 hx]
        split <;> omega
      · rw [if_neg (by simp [Inst.endOf, h4, ho, hg]; omega)]
        have := b g'; omega
    · have := hb.setCell g (.int .i64 1)
      unfold natCells at *
      rw [List.map_set]; exact this

theorem V1.push {ps : List Inst} {m B : Nat} {w : World} {k : Nat} {sv : Value} {wr : World} (h : V1 ps m B w k sv wr) (hB : B ≤ w.heap.size) {p : Inst} (hp : ps[k]? = some p) (h3 : p.op = 3)
    {w1 : World} {sv' : Value} (hrow : Row w1 (w.heap.size + 1) sv' (asX (ps.take k) ++ [p.x])) (hgrow : wr.grownBy w1 sv.ownBlock) : V1 ps m B w (k + 1) sv' w1 where
  below := h.below.grown hgrow (by have := h.size; omega) (fun j hj => by have := (row_lt h.row hj).1; omega)
  size := by have := h.size; have := hgrow.size; omega
  row := by rw [take_snoc hp, asX_snoc, if_pos h3]; exact hrow
  cnt := by
    obtain ⟨l, a, b, c⟩ := h.cnt
    refine ⟨l, by rw [take_snoc hp]; exact a.same p (by omega), fun g => ?_, c.grown hgrow (fun e => by have := (row_lt h.row e.symm).1; omega)⟩
    rw [take_snoc hp, cntEnd_snoc, if_neg]
    · have := b g; omega
    · intro e; simp [Inst.endOf] at e; omega

/-- Loop 2 of 'groupEndsVary': the marks in block 'bs'. -/
structure V2 (ps : List Inst) (n B : Nat) (w : World) (bs : Nat) (sv : Value) (stack : List Int) (seen : List Bool) (wr : World) : Prop where
  below : Below B w wr
  lo : w.heap.size < bs
  row : Row wr (w.heap.size + 1) sv stack
  apart : sv.ownBlock ≠ some bs
  seenB : Blk wr bs (seen.map Value.bool) 4
  pure : PV ps n stack seen

theorem V2.start {ps : List Inst} {slots : Int} {n m B : Nat} {w : World} {sv : Value} {wr : World} (h : V1 ps m B w n sv wr) (hB : B ≤ w.heap.size) (hv : valid ps slots = true) (hn : ps.length = n) :
    V2 ps n B w wr.heap.size sv (asX ps) (List.replicate n false) (wr.alloc (.cells (falses n) 4)) where
  below := h.below.alloc (by have := h.size; omega) _
  lo := h.size
  row := by have := h.row; rw [List.take_of_length_le (by omega)] at this; exact this.alloc _
  apart := fun e => by have := (row_lt h.row e).2; omega
  seenB := by have h := Blk.new' wr (falses n) 4; rwa [falses_list] at h
  pure := PV.start hv hn

end Go.Proofs.Qxb6001162a
