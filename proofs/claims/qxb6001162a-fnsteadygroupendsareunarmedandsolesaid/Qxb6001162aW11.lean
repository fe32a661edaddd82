import Derived.Test.Qxb6001162aW10
import Derived.Test.Qxb6001162aP2
namespace Go.Proofs.Qxb6001162a
open Go.RowKit

set_option maxHeartbeats 400000 in
theorem before_any (a b : Int) (w : World) (ha : 0 ≤ a) (ha1 : a < 100000) (hb : 0 ≤ b) (hb1 : b < 100000) :
    Calls Try.prog 35 #[.int .i32 a, .int .i32 b] w fun e w' => ∃ r, e = .returned (.bool r) ∧ w' = w := by
  have ea : bits .and .i32 a 1 = a % 2 := i32_and_one a ha (by omega)
  have eb : bits .and .i32 b 1 = b % 2 := i32_and_one b hb (by omega)
  by_cases h : a % 2 = b % 2
  · have e1 : (a % 2 != b % 2) = false := by simp [h]
    clear h
    go_enter Try.func35, Try.ntmps35
    go_wp2
    go_ret
    exact ⟨_, rfl, rfl⟩
  · have e1 : (a % 2 != b % 2) = true := by simp [h]
    clear h
    go_enter Try.func35, Try.ntmps35
    go_wp2
    go_ret
    exact ⟨_, rfl, rfl⟩

theorem info58 : (Try.prog.info? 58).map (fun i => (i.zero, i.size, i.bytes)) = some (some (.int .i32 0), 1, 4) := by kernel_rfl
def zeros58 (n : Nat) : Array Value := madeCells #[.int .i32 0] n

theorem make_ends (w : World) (k : Int) (n : Nat) (hk : k = (n : Int)) (hn : n ≤ 1000000) :
    (Instr.makeSlice 55 (.int .i64 k) (.int .i64 k)).run Try.prog w = .ok (.slice (some ⟨w.heap.size, 0, none⟩) n n) (w.alloc (.cells (zeros58 n) 58)) := by
  subst hk
  obtain ⟨i0, hi, hz0, hz1, hz2⟩ := info_parts info58
  have := run_make (P := Try.prog) w 55 58 i0 (.int .i32 0) Try.underlying55 hi hz0 .i64 .i64 n n (by omega) (by omega) (by rw [hz2]; omega) (by omega)
  rw [this, hz1, Nat.mul_one]; rfl

def i32s (l : List Int) : List Value := l.map (Value.int .i32)

theorem zeros58_list (n : Nat) : (zeros58 n).toList = i32s (List.replicate n 0) := by
  refine List.ext_getElem (by simp [zeros58, i32s, size_madeCells]) ?_
  intro i h1 h2
  simp [zeros58, i32s, madeCells, Nat.mod_one]

/-- The memory of 'firstState': the ways, what they begin with (in block 'gb'), the ends (in the block behind it). -/
structure FMem (B : Nat) (w : World) (wv : Value) (gb : Nat) (ways : List Int) (bl : List Nat) (ends : List Int) (wr : World) : Prop where
  below : Below B w wr
  size : gb + 2 ≤ wr.heap.size
  lo : w.heap.size ≤ gb
  row : Row wr w.heap.size wv ways
  apart : ∀ k, wv.ownBlock = some k → k < gb
  begB : Blk wr gb (wordCells bl) 67
  endB : Blk wr (gb + 1) (i32s ends) 58

theorem Row.setCell_other {w : World} {base : Nat} {v : Value} {xs : List Int} (h : Row w base v xs) {a : Addr} (ha : v.ownBlock ≠ some a.block) (u : Value) : Row (w.setCell a u) base v xs := ownsRow_setCell_other h ha u

theorem FMem.drew {B : Nat} {w : World} {wv : Value} {gb : Nat} {ways : List Int} {bl : List Nat} {ends : List Int} {wr : World} (h : FMem B w wv gb ways bl ends wr) : FMem B w wv gb ways bl ends wr.drew :=
  ⟨h.below.drew, h.size, h.lo, h.row.drew, h.apart, h.begB.drew, h.endB.drew⟩

theorem FMem.setEnd {B : Nat} {w : World} {wv : Value} {gb : Nat} {ways : List Int} {bl : List Nat} {ends : List Int} {wr : World} (h : FMem B w wv gb ways bl ends wr) (hB : B ≤ w.heap.size) (i : Nat) (v : Int) :
    FMem B w wv gb ways bl (ends.set i v) (wr.setCell ⟨gb + 1, i, none⟩ (.int .i32 v)) where
  below := h.below.setCell (by have := h.lo; show B ≤ gb + 1; omega) _
  size := by rw [World.size_setCell]; exact h.size
  lo := h.lo
  row := h.row.setCell_other (fun e => by have := h.apart _ e; simp at this; omega) _
  apart := h.apart
  begB := h.begB.setCell_ne _ _ (by show gb ≠ gb + 1; omega)
  endB := by have := h.endB.setCell i (.int .i32 v); unfold i32s at *; rwa [← List.map_set] at this

theorem FMem.setBeg {B : Nat} {w : World} {wv : Value} {gb : Nat} {ways : List Int} {bl : List Nat} {ends : List Int} {wr : World} (h : FMem B w wv gb ways bl ends wr) (hB : B ≤ w.heap.size) (i : Nat) (x : Nat) :
    FMem B w wv gb ways (bl.set i x) ends (wr.setCell ⟨gb, i, none⟩ (.int .u64 (x : Int))) where
  below := h.below.setCell (by have := h.lo; show B ≤ gb; omega) _
  size := by rw [World.size_setCell]; exact h.size
  lo := h.lo
  row := h.row.setCell_other (fun e => by have := h.apart _ e; simp at this) _
  apart := h.apart
  begB := by
    have := h.begB.setCell i (.int .u64 (x : Int))
    unfold wordCells at *
    rw [List.map_set]; exact this
  endB := h.endB.setCell_ne _ _ (by show gb + 1 ≠ gb; omega)

theorem FMem.start {B : Nat} {w : World} {wv : Value} {ways : List Int} {w1 : World} (hb : Below B w w1) (hs : w.heap.size ≤ w1.heap.size) (hr : Row w1 w.heap.size wv ways) (hB : B ≤ w.heap.size) (m : Nat) :
    FMem B w wv w1.heap.size ways [0, 0, 0, 0] (List.replicate m 0) ((w1.alloc (.cells #[.int .u64 0, .int .u64 0, .int .u64 0, .int .u64 0] 67)).alloc (.cells (zeros58 m) 58)) where
  below := (hb.alloc (by omega) _).alloc (by rw [World.size_alloc]; omega) _
  size := by rw [World.size_alloc, World.size_alloc]; omega
  lo := hs
  row := (hr.alloc _).alloc _
  apart := fun k hk => (row_lt hr hk).2
  begB := Blk.alloc (Blk.new w1 (wordCells [0, 0, 0, 0]) 67) _
  endB := by
    have h := Blk.new' (w1.alloc (.cells #[.int .u64 0, .int .u64 0, .int .u64 0, .int .u64 0] 67)) (zeros58 m) 58
    rw [zeros58_list, World.size_alloc] at h
    exact h

/-- Behind 'k' of the ways. -/
structure FRel (ps : List Inst) (m B : Nat) (w : World) (wv : Value) (gb : Nat) (ways : List Int) (k : Nat) (empty : Bool) (wr : World) : Prop where
  mem : ∃ ends : List Int, ends.length = m ∧ EndsOk ps ends (ways.take k) ∧ FMem B w wv gb ways (orAll ps (ways.take k)) ends wr
  emp : empty = (ways.take k).any fun v => opAt ps v == 0

def FirstPost (G : Int → Prop) (ps : List Inst) (m B : Nat) (w0 : Int) (w : World) (e : Ending) (w' : World) : Prop :=
  ∃ wv gb ways ends, e = .returned (.tuple #[if (ways.any fun v => opAt ps v == 0) = true then .pointer none else .pointer (some ⟨gb, 0, none⟩), .slice (some ⟨gb + 1, 0, none⟩) m m]) ∧
    ends.length = m ∧ EndsOk ps ends ways ∧ FMem B w wv gb ways (orAll ps ways) ends w' ∧ (∀ u ∈ ways, G u) ∧ w0 ∈ ways

theorem take_snoc {α : Type} {l : List α} {k : Nat} {u : α} (h : l[k]? = some u) : l.take (k + 1) = l.take k ++ [u] := by
  obtain ⟨hk, rfl⟩ := List.getElem?_eq_some_iff.1 h
  exact List.take_succ_eq_append_getElem hk

theorem FRel.pass {ps : List Inst} {m B : Nat} {w : World} {wv : Value} {gb : Nat} {ways : List Int} {k : Nat} {empty : Bool} {wr : World} (h : FRel ps m B w wv gb ways k empty wr) {v : Int} (hv : ways[k]? = some v) {p : Inst} (hp : ps[(v / 2).toNat]? = some p)
    (h0 : ¬ p.op = 0) (h1 : ¬ p.op = 1) : FRel ps m B w wv gb ways (k + 1) empty wr where
  mem := by
    obtain ⟨ends, hl, he, hM⟩ := h.mem
    refine ⟨ends, hl, by rw [take_snoc hv]; exact he.more v, ?_⟩
    rw [take_snoc hv, orAll_snoc]
    unfold orStep
    rw [hp]
    simpa [h1] using hM
  emp := by
    rw [h.emp, take_snoc hv, List.any_append]
    simp [opAt, hp, h0]

theorem FRel.atMatch {ps : List Inst} {m B : Nat} {w : World} {wv : Value} {gb : Nat} {ways : List Int} {k : Nat} {empty : Bool} {wr : World} (h : FRel ps m B w wv gb ways k empty wr) {v : Int} (hv : ways[k]? = some v) {p : Inst} (hp : ps[(v / 2).toNat]? = some p)
    (h0 : p.op = 0) : FRel ps m B w wv gb ways (k + 1) true wr where
  mem := by
    obtain ⟨ends, hl, he, hM⟩ := h.mem
    refine ⟨ends, hl, by rw [take_snoc hv]; exact he.more v, ?_⟩
    rw [take_snoc hv, orAll_snoc]
    unfold orStep
    rw [hp]
    simpa [h0] using hM
  emp := by
    rw [take_snoc hv, List.any_append]
    simp [opAt, hp, h0]

end Go.Proofs.Qxb6001162a
