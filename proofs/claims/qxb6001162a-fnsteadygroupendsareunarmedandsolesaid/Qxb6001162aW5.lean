import Derived.Test.Qxb6001162aW4
namespace Go.Proofs.Qxb6001162a
open Go.RowKit

def zero65 : Value := .agg #[.int .u8 0, .bool false, .bool false, .int .i32 0, .int .i32 0, .int .i32 0, .pointer none]
theorem info65 : (Try.prog.info? 65).map (fun i => (i.zero, i.size, i.bytes)) = some (some zero65, 7, 24) := by kernel_rfl
def zeros65 (n : Nat) : Array Value := madeCells zero65.cells (n * 7)

/-- An instruction as 'inst' holds it, its set in block 's'. -/
def Inst.icells (p : Inst) (s : Nat) : List Value := [.int .u8 p.op, .bool p.lapses, .bool p.checks, .int .i32 p.arg, .int .i32 p.x, .int .i32 p.y, .pointer (some ⟨s, 0, none⟩)]
theorem Inst.icells_len (p : Inst) (s : Nat) : (p.icells s).length = 7 := rfl
def Inst.set (p : Inst) : List Value := [.int .u64 p.s0, .int .u64 p.s1, .int .u64 p.s2, .int .u64 p.s3]

def icellsAt (ps : List Inst) (s : Nat) : List Value := (ps.zipIdx s).flatMap fun q => q.1.icells q.2

theorem icells_take_succ (ps : List Inst) (s k : Nat) (p : Inst) (h : ps[k]? = some p) : icellsAt (ps.take (k + 1)) s = icellsAt (ps.take k) s ++ p.icells (s + k) := by
  obtain ⟨hk, rfl⟩ := List.getElem?_eq_some_iff.1 h
  unfold icellsAt
  rw [List.take_succ_eq_append_getElem hk, List.zipIdx_append, List.flatMap_append]
  simp [List.length_take, Nat.min_eq_left (Nat.le_of_lt hk)]

theorem icells_length (ps : List Inst) (s : Nat) : (icellsAt ps s).length = ps.length * 7 := by
  unfold icellsAt
  rw [flat_len _ 7 (fun q => Inst.icells_len _ _), List.length_zipIdx]

def NewRel (ps : List Inst) (n : Nat) (w : World) (k : Nat) (wr : World) : Prop :=
  Below w.heap.size w wr ∧ wr.heap.size = w.heap.size + 1 + k ∧ (∃ rest : List Value, rest.length = (n - k) * 7 ∧ Blk wr w.heap.size (icellsAt (ps.take k) (w.heap.size + 1) ++ rest) 65) ∧
  ∀ i p, i < k → ps[i]? = some p → Blk wr (w.heap.size + 1 + i) p.set 67

theorem NewRel.start (ps : List Inst) (n : Nat) (w : World) : NewRel ps n w 0 (w.alloc (.cells (zeros65 n) 65)) :=
  ⟨(Below.refl _ _).alloc (Nat.le_refl _) _, by simp, ⟨(zeros65 n).toList, by simp [zeros65, size_madeCells], Blk.new' _ _ _⟩, fun i p h => absurd h (by omega)⟩

theorem NewRel.step {ps : List Inst} {n : Nat} {w : World} {k : Nat} {wr : World} (h : NewRel ps n w k wr) {p : Inst} (hp : ps[k]? = some p) (hk : k < n) :
    NewRel ps n w (k + 1) ((wr.setCells w.heap.size (k * 7) (p.icells wr.heap.size)).alloc (.cells p.set.toArray 67)).drew := by
  obtain ⟨h1, h2, ⟨rest, h3, h4⟩, h5⟩ := h
  have hkl := (List.getElem?_eq_some_iff.1 hp).1
  have hB : w.heap.size ≤ (wr.setCells w.heap.size (k * 7) (p.icells wr.heap.size)).heap.size := by rw [size_setCells]; omega
  refine ⟨((Below.setCells _ (Nat.le_refl _) _ _ _ h1).alloc hB _).drew, ?_, ⟨rest.drop 7, by rw [List.length_drop, h3]; omega, ?_⟩, ?_⟩
  · rw [World.size_drew, World.size_alloc, size_setCells]; omega
  · rw [icells_take_succ _ _ _ _ hp, ← h2]
    refine Blk.drew (Blk.alloc (Blk.setCells_at (old := rest.take 7) (by rw [List.append_assoc, List.take_append_drop]; exact h4) ?_ (by rw [Inst.icells_len, List.length_take, h3]; omega)) _)
    rw [icells_length, List.length_take]; congr 1; omega
  · intro i q hi hq
    by_cases e : i = k
    · subst e; rw [hp] at hq; cases hq
      have hz := Blk.new (wr.setCells w.heap.size (i * 7) (p.icells wr.heap.size)) p.set 67
      rw [size_setCells, h2] at hz
      rw [← h2] at hz ⊢
      exact hz.drew
    · exact (((h5 i q (by omega) hq).setCells_ne _ _ _ (by omega)).alloc _).drew

theorem NewRel.there {ps : List Inst} {n : Nat} {w : World} {k : Nat} {wr : World} (h : NewRel ps n w k wr) (hn : ps.length = n) (hk : k < n) : wr.there w.heap.size (k * 7) 7 := by
  obtain ⟨h1, h2, ⟨rest, h3, h4⟩, h5⟩ := h
  refine h4.there ?_
  rw [List.length_append, h3, icells_length, List.length_take]; omega

theorem there_cells7 {w : World} {g o : Nat} (h : w.there g o 7) : ∃ v0 v1 v2 v3 v4 v5 v6, (w.cell? ⟨g, o, none⟩ = some v0 ∧ w.cell? ⟨g, o + 1, none⟩ = some v1 ∧ w.cell? ⟨g, o + 2, none⟩ = some v2 ∧ w.cell? ⟨g, o + 3, none⟩ = some v3 ∧ w.cell? ⟨g, o + 4, none⟩ = some v4 ∧
    w.cell? ⟨g, o + 5, none⟩ = some v5 ∧ w.cell? ⟨g, o + 6, none⟩ = some v6) ∧
    (w.frozen? ⟨g, o, none⟩ = false ∧ w.frozen? ⟨g, o + 1, none⟩ = false ∧ w.frozen? ⟨g, o + 2, none⟩ = false ∧ w.frozen? ⟨g, o + 3, none⟩ = false ∧ w.frozen? ⟨g, o + 4, none⟩ = false ∧
    w.frozen? ⟨g, o + 5, none⟩ = false ∧ w.frozen? ⟨g, o + 6, none⟩ = false) := by
  have e := fun j hj => Option.isSome_iff_exists.1 (h j hj).1
  obtain ⟨v0, h0⟩ := e 0 (by omega)
  obtain ⟨v1, h1⟩ := e 1 (by omega)
  obtain ⟨v2, h2⟩ := e 2 (by omega)
  obtain ⟨v3, h3⟩ := e 3 (by omega)
  obtain ⟨v4, h4⟩ := e 4 (by omega)
  obtain ⟨v5, h5⟩ := e 5 (by omega)
  obtain ⟨v6, h6⟩ := e 6 (by omega)
  exact ⟨v0, v1, v2, v3, v4, v5, v6, ⟨h0, h1, h2, h3, h4, h5, h6⟩, (h 0 (by omega)).2, (h 1 (by omega)).2, (h 2 (by omega)).2, (h 3 (by omega)).2, (h 4 (by omega)).2, (h 5 (by omega)).2, (h 6 (by omega)).2⟩

/-- An 'ere' of the program 'ps': its struct in block 'e', its instructions in block 'g', the sets in blocks 'sb i'; all of it below block 'B'. -/
structure Ere (w : World) (B e g : Nat) (sb : Nat → Nat) (ps : List Inst) (start slots : Int) : Prop where
  eB : e < B
  gB : g < B
  blk : Blk w e [.slice (some ⟨g, 0, none⟩) ps.length ps.length, .int .i32 start, .int .i64 slots, .pointer none, .int .i32 0, .slice none 0 0, .bool false] 62
  sB : ∀ i p, ps[i]? = some p → sb i < B
  inst : ∀ i p, ps[i]? = some p → w.rangeAt g (i * 7) (p.icells (sb i))
  set : ∀ i p, ps[i]? = some p → w.rangeAt (sb i) 0 p.set

theorem Ere.below {w w' : World} {B e g : Nat} {sb : Nat → Nat} {ps : List Inst} {start slots : Int} (h : Ere w B e g sb ps start slots) (hb : Below B w w') : Ere w' B e g sb ps start slots :=
  ⟨h.eB, h.gB, h.blk.below hb h.eB, h.sB, fun i p hp => rangeAt_of_heap (h.inst i p hp) (hb.block _ h.gB), fun i p hp => rangeAt_of_heap (h.set i p hp) (hb.block _ (h.sB i p hp))⟩

theorem icells_range {w : World} {g s : Nat} {ps : List Inst} (h : Blk w g (icellsAt ps s) 65) {i : Nat} {p : Inst} (hp : ps[i]? = some p) : w.rangeAt g (i * 7) (p.icells (s + i)) := by
  have hi := (List.getElem?_eq_some_iff.1 hp).1
  have e : icellsAt ps s = icellsAt (ps.take i) s ++ p.icells (s + i) ++ icellsAt (ps.drop (i + 1)) (s + (i + 1)) := by
    rw [← icells_take_succ _ _ _ _ hp]
    unfold icellsAt
    rw [← List.flatMap_append]
    congr 1
    have hl : (ps.take (i + 1)).length = i + 1 := by rw [List.length_take]; omega
    have z : (ps.take (i + 1) ++ ps.drop (i + 1)).zipIdx s = _ := List.zipIdx_append
    rw [List.take_append_drop, hl] at z
    exact z
  rw [e] at h
  refine h.range_at ?_
  rw [icells_length, List.length_take]; congr 1; omega

theorem blk_range {w : World} {g t : Nat} {cs : List Value} (h : Blk w g cs t) : w.rangeAt g 0 cs := fun j v hv => by rw [Nat.zero_add]; exact h.cell hv

theorem rangeAt_alloc' {w : World} {b o : Nat} {cs : List Value} (h : w.rangeAt b o cs) (ob : Obj) : (w.alloc ob).rangeAt b o cs := World.rangeAt_alloc h ob

attribute [local go_sem ↓] Go.wp_at_zero Go.wp_at_succ
set_option maxHeartbeats 1600000 in
theorem newEre_any (b off n cap : Nat) (ps : List Inst) (start slots : Int) (w : World) (hn : ps.length = n) (h0 : 0 < n) (hb : n ≤ 4096) (hi : Insts w b off ps) :
    Calls Try.prog 31 #[.slice (some ⟨b, off, none⟩) n cap, .int .i32 start, .int .i64 slots] w fun e w' => ∃ x g sb, e = .returned (.pointer (some ⟨x, 0, none⟩)) ∧ Below w.heap.size w w' ∧ Ere w' w'.heap.size x g sb ps start slots := by
  have hmk : ∀ w, (Instr.makeSlice 60 (.int .i64 n) (.int .i64 n)).run Try.prog w = .ok (.slice (some ⟨w.heap.size, 0, none⟩) n n) (w.alloc (.cells (zeros65 n) 65)) := by
    intro w
    obtain ⟨i0, hi, hz0, hz1, hz2⟩ := info_parts info65
    have := run_make (P := Try.prog) w 60 65 i0 zero65 Try.underlying60 hi hz0 .i64 .i64 n n (by omega) (by omega) (by rw [hz2]; omega) (by omega)
    rw [this, hz1]; rfl
  have hblt := hi.lt (by omega)
  have Hn : Hid (ps.length = n) := hn
  clear hn
  go_enter Try.func31, Try.ntmps31
  go_wp2_with fail
  go_loopw [15] (fun i wr => ∃ k : Nat, k ≤ n ∧ i = .int .i64 k ∧ NewRel ps n w k wr) (fun i _ => n - (intOf i).toNat)
  case atStart => exact ⟨0, by omega, rfl, NewRel.start ps n w⟩
  case round =>
    obtain ⟨k, hk, rfl, hC⟩ := hrel
    by_cases hlt : k < n
    · obtain ⟨p, hp⟩ : ∃ p, ps[k]? = some p := ⟨_, List.getElem?_eq_getElem (by rw [Hn.out]; exact hlt)⟩
      have hr : wr.rangeAt b (off + k * 10) p.cells := rangeAt_of_heap (hi k p hp) (hC.1.block b hblt)
      have ht : wr.there w.heap.size (k * 7) 7 := hC.there Hn.out hlt
      have Hs := hide (hC.step hp hlt)
      have hsz : w.heap.size < wr.heap.size := by have := hC.2.1; omega
      have HP : Hid (ps[k]? = some p) := hp
      clear hp hC hi
      obtain ⟨op, la, ch, ar, x, y, s0, s1, s2, s3⟩ := p
      obtain ⟨c0, c1, c2, c3, c4, c5, c6, c7, c8, c9⟩ := inst_cells hr
      obtain ⟨v0, v1, v2, v3, v4, v5, v6, ⟨d0, d1, d2, d3, d4, d5, d6⟩, f0, f1, f2, f3, f4, f5, f6⟩ := there_cells7 ht
      clear hr ht
      have hne1 : ¬ w.heap.size = b := by omega
      have hne2 : ¬ b = w.heap.size := by omega
      have hk0 : (0 : Int) ≤ (k : Int) := by omega
      have hk1 : (k : Int) < (n : Int) := by omega
      go_wp2_with fail
      go_region_held3 (fun w' => w'.cell? ⟨b, off + k * 10, none⟩ = some (.int .u8 op) ∧ w'.cell? ⟨b, off + k * 10 + 1, none⟩ = some (.bool la) ∧ w'.cell? ⟨b, off + k * 10 + 2, none⟩ = some (.bool ch) ∧ w'.cell? ⟨b, off + k * 10 + 3, none⟩ = some (.int .i32 ar) ∧
        w'.cell? ⟨b, off + k * 10 + 4, none⟩ = some (.int .i32 x) ∧ w'.cell? ⟨b, off + k * 10 + 5, none⟩ = some (.int .i32 y)) (go_keep) (fail)
      rename_i hHeld
      clear hHeld
      go_wp2_with fail
      go_roundw
      case rel =>
        refine ⟨k + 1, by omega, by go_num, ?_⟩
        exact Hs.out
      case measure => simp [intOf]; omega
    · go_wp2_with fail
      go_ret
      obtain rfl : k = n := by omega
      obtain ⟨h1, h2, ⟨rest, h3, h4⟩, h5⟩ := hC
      have h6 : w.heap.size ≤ wr.heap.size := by omega
      obtain rfl : rest = [] := List.eq_nil_of_length_eq_zero (by rw [h3]; simp)
      rw [List.append_nil, List.take_of_length_le (by rw [Hn.out]; omega)] at h4
      refine ⟨wr.heap.size, w.heap.size, fun i => w.heap.size + 1 + i, rfl, h1.alloc h6 _, ?_⟩
      have hlen := Hn.out
      rw [World.size_alloc]
      refine ⟨by omega, by omega, by rw [hlen]; exact Blk.new _ _ _, ?_, ?_, ?_⟩
      · intro i p hp
        have := (List.getElem?_eq_some_iff.1 hp).1
        omega
      · intro i p hp
        exact rangeAt_alloc' (icells_range h4 hp) _
      · intro i p hp
        have := (List.getElem?_eq_some_iff.1 hp).1
        exact rangeAt_alloc' (blk_range (h5 i p (by omega) hp)) _

end Go.Proofs.Qxb6001162a
