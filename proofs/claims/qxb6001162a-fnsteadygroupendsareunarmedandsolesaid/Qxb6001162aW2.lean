import Derived.Test.Qxb6001162aW1
import Derived.Test.Qxb6001162aMem
import Derived.Handy
namespace Go.Proofs.Qxb6001162a
open Go.RowKit

structure Inst where
  op : Int
  lapses : Bool
  checks : Bool
  arg : Int
  x : Int
  y : Int
  s0 : Int
  s1 : Int
  s2 : Int
  s3 : Int

def Inst.cells (i : Inst) : List Value := [.int .u8 i.op, .bool i.lapses, .bool i.checks, .int .i32 i.arg, .int .i32 i.x, .int .i32 i.y, .int .u64 i.s0, .int .u64 i.s1, .int .u64 i.s2, .int .u64 i.s3]

theorem Inst.cells_len (i : Inst) : i.cells.length = 10 := rfl
theorem Inst.cells_one (i : Inst) : ∀ v ∈ i.cells, v.oneCell' = true := by
  intro v hv; simp [Inst.cells] at hv; rcases hv with h | h | h | h | h | h | h | h | h | h <;> subst h <;> rfl

/-- The instructions 'ps' lie one behind the other from offset 'off' of block 'b' on. -/
def Insts (w : World) (b off : Nat) (ps : List Inst) : Prop := ∀ i p, ps[i]? = some p → w.rangeAt b (off + i * 10) p.cells

theorem Insts.lt {w : World} {b off : Nat} {ps : List Inst} (h : Insts w b off ps) (h0 : 0 < ps.length) : b < w.heap.size :=
  rangeAt_lt (h 0 _ (List.getElem?_eq_getElem h0)) (by simp [Inst.cells_len])

theorem info34 : (Try.prog.info? 34).map (fun i => (i.zero, i.size, i.bytes)) = some (some (.agg #[.int .u8 0, .bool false, .bool false, .int .i32 0, .int .i32 0, .int .i32 0, .int .u64 0, .int .u64 0, .int .u64 0, .int .u64 0]), 10, 48) := by kernel_rfl
def zero34 : Value := (.agg #[.int .u8 0, .bool false, .bool false, .int .i32 0, .int .i32 0, .int .i32 0, .int .u64 0, .int .u64 0, .int .u64 0, .int .u64 0])
theorem size34 : (Try.prog.info? 34).map (·.size) = some 10 := by kernel_rfl

theorem Inst.size34 (p : Inst) : (Try.prog.info? 34).map (·.size) = some p.cells.length := Qxb6001162a.size34
theorem Inst.size34' (p : Inst) : (Try.prog.info? 34).map (·.size) = some p.cells.toArray.size := Qxb6001162a.size34
def zeros34 (n : Nat) : Array Value := madeCells zero34.cells (n * 10)

def CloneRel (ps : List Inst) (n : Nat) (w : World) (k : Nat) (wr : World) : Prop :=
  Below w.heap.size w wr ∧ wr.heap.size = w.heap.size + 1 ∧ ∃ rest : List Value, rest.length = (n - k) * 10 ∧ Blk wr w.heap.size ((ps.take k).flatMap Inst.cells ++ rest) 34

theorem CloneRel.start (ps : List Inst) (n : Nat) (w : World) : CloneRel ps n w 0 (w.alloc (.cells (zeros34 n) 34)) :=
  ⟨(Below.refl _ _).alloc (Nat.le_refl _) _, by simp, (zeros34 n).toList, by simp [zeros34, size_madeCells], Blk.new' _ _ _⟩

theorem CloneRel.step {ps : List Inst} {n : Nat} {w : World} {k : Nat} {wr : World} (h : CloneRel ps n w k wr) {p : Inst} (hp : ps[k]? = some p) (hk : k < n) :
    CloneRel ps n w (k + 1) (wr.setCells w.heap.size (k * 10) p.cells) := by
  obtain ⟨h1, h2, rest, h3, h4⟩ := h
  have hl : k < ps.length := (List.getElem?_eq_some_iff.1 hp).1
  refine ⟨Below.setCells _ (Nat.le_refl _) _ _ _ h1, by rw [size_setCells, h2], rest.drop 10, by simp [h3]; omega, ?_⟩
  rw [flat_take_succ _ _ _ _ hp]
  refine Blk.setCells_at (old := rest.take 10) (by rw [List.append_assoc, List.take_append_drop]; exact h4) ?_ (by simp [Inst.cells_len, h3]; omega)
  rw [flat_len _ 10 Inst.cells_len, List.length_take]; congr 1; omega

theorem CloneRel.there {ps : List Inst} {n : Nat} {w : World} {k : Nat} {wr : World} (h : CloneRel ps n w k wr) (hn : ps.length = n) (hk : k < n) : wr.there w.heap.size (k * 10) 10 := by
  obtain ⟨h1, h2, rest, h3, h4⟩ := h
  refine h4.there ?_
  rw [List.length_append, h3, flat_len _ 10 Inst.cells_len, List.length_take]; omega

set_option maxHeartbeats 400000 in
theorem clone_any (b off n cap : Nat) (ps : List Inst) (w : World) (hn : ps.length = n) (h0 : 0 < n) (hb : n ≤ 4096) (hi : Insts w b off ps) :
    Calls Try.prog 13 #[.slice (some ⟨b, off, none⟩) n cap] w fun e w' => e = .returned (.slice (some ⟨w.heap.size, 0, none⟩) n n) ∧ Below w.heap.size w w' ∧ w'.heap.size = w.heap.size + 1 ∧
      Blk w' w.heap.size (ps.flatMap Inst.cells) 34 := by
  have hmk : ∀ w, (Instr.makeSlice 22 (.int .i64 n) (.int .i64 n)).run Try.prog w = .ok (.slice (some ⟨w.heap.size, 0, none⟩) n n) (w.alloc (.cells (zeros34 n) 34)) := by
    intro w
    obtain ⟨i0, hi, hz0, hz1, hz2⟩ := info_parts info34
    have := run_make (P := Try.prog) w 22 34 i0 zero34 Try.underlying22 hi hz0 .i64 .i64 n n (by omega) (by omega) (by rw [hz2]; omega) (by omega)
    rw [this, hz1]; rfl
  have hnil := fun (w : World) (a : Option Addr) (n c n' c' : Nat) => Lib.run_eql_slice_nil (P := Try.prog) w 22 34 a n c n' c' Try.underlying22
  have hblt := hi.lt (by omega)
  have Hn : Hid (ps.length = n) := hn
  clear hn
  go_enter Try.func13, Try.ntmps13
  go_wp2_with fail
  go_loopw [4] (fun i wr => ∃ k : Nat, k ≤ n ∧ i = .int .i64 k ∧ CloneRel ps n w k wr) (fun i _ => n - (intOf i).toNat)
  case atStart => exact ⟨0, by omega, rfl, CloneRel.start ps n w⟩
  case round =>
    obtain ⟨k, hk, rfl, hC⟩ := hrel
    by_cases hlt : k < n
    · obtain ⟨p, hp⟩ : ∃ p, ps[k]? = some p := ⟨_, List.getElem?_eq_getElem (by rw [Hn.out]; exact hlt)⟩
      have hr : wr.rangeAt b (off + k * 10) p.cells := rangeAt_of_heap (hi k p hp) (hC.1.block b hblt)
      have ht : wr.there w.heap.size (k * 10) p.cells.toArray.size := hC.there Hn.out hlt
      have hs := hC.step hp hlt
      have HP : Hid (ps[k]? = some p) := hp
      clear hp hC
      go_wp2_with (first | (with_reducible refine at_load 34 ?_; refine wpList_load_mid rfl 34 (.tmp 20) rfl b (off + k * 10) rfl p.cells _ hr Try.underlying34 rfl p.size34 ?_) | (with_reducible refine at_store 34 ?_; refine wpList_store_mid rfl 34 (.tmp 22) (.tmp 21) rfl w.heap.size (k * 10) p.cells.toArray rfl rfl ht p.size34' (all_oneCell_toArray p.cells_one) ?_))
      go_roundw
      case rel => exact ⟨k + 1, by omega, by go_num, hs⟩
      case measure => simp [intOf]; omega
    · go_wp2_with fail
      go_ret
      obtain ⟨h1, h2, rest, h3, h4⟩ := hC
      obtain rfl : k = n := by omega
      refine ⟨rfl, h1, h2, ?_⟩
      obtain rfl : rest = [] := List.eq_nil_of_length_eq_zero (by rw [h3]; simp)
      rw [List.take_of_length_le (by rw [Hn.out]; omega), List.append_nil] at h4
      exact h4

end Go.Proofs.Qxb6001162a
