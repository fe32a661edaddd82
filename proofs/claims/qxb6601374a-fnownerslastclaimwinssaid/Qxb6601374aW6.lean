import Derived.Test.Qxb6601374aW5
namespace Go.Proofs.Qxb6601374a
open Go.RowKit

/-- A line of the program's own: nine cells. -/
def Line.ncells (m : Line) : List Value := [.string m.id, .string ByteArray.empty, .int .i64 0, .int .i64 0, .slice none 0 0, .string ByteArray.empty, .string ByteArray.empty, .slice m.ad m.len m.cap, .slice none 0 0]
theorem Line.ncells_len (m : Line) : m.ncells.length = 9 := rfl
theorem Line.ncells_one (m : Line) : ∀ v ∈ m.ncells, v.oneCell' = true := by
  intro v hv; simp only [Line.ncells, List.mem_cons, List.not_mem_nil, or_false] at hv; rcases hv with h | h | h | h | h | h | h | h | h <;> subst h <;> rfl

def znode : Value := .agg #[.string ByteArray.empty, .string ByteArray.empty, .int .i64 0, .int .i64 0, .slice none 0 0, .string ByteArray.empty, .string ByteArray.empty, .slice none 0 0, .slice none 0 0]
theorem info40 : (Try.prog.info? 40).map (fun i => (i.zero, i.size, i.bytes)) = some (some znode, 9, 152) := by kernel_rfl
theorem size40 : (Try.prog.info? 40).map (·.size) = some 9 := by kernel_rfl
theorem Line.size40 (m : Line) : (Try.prog.info? 40).map (·.size) = some m.ncells.length := Qxb6601374a.size40
theorem Line.size40' (m : Line) : (Try.prog.info? 40).map (·.size) = some m.ncells.toArray.size := Qxb6601374a.size40
theorem rc_size37 (r : Rg) : (Try.prog.info? 37).map (·.size) = some (rc r).length := size37

/-- The lines as 'owners' is given them. -/
structure Nodes (w : World) (g : Nat) (ms : List Line) : Prop where
  blk : ∀ i m, ms[i]? = some m → w.rangeAt g (i * 9) m.ncells
  lt : g < w.heap.size
  rows : ∀ m ∈ ms, RsAt w 0 m.ad m.len m.rs

/-- A store of a whole block that is known. -/
theorem wpList_store_blk {ops : Array Oper} {rest : List Oper} {op : Oper} {a : Act} {w : World} {Q : Exit → Act → World → Prop} (hgd : op.guard = none) (ty : TypeId) (x y : Operand) (ho : op.op = .store ty x y)
    (g : Nat) (old : List Value) (t : TypeId) (hB : Blk w g old t) (cs : List Value) (hlen : old.length = cs.length) (hx : a.eval x = .pointer (some ⟨g, 0, none⟩)) (hy : a.eval y = .agg cs.toArray)
    (hi : (Try.prog.info? ty).map (·.size) = some cs.length) (h1 : ∀ v ∈ cs, v.oneCell' = true)
    (h : ∀ w', Hid (Blk w' g cs t ∧ (∀ B w0, Below B w0 w → B ≤ g → Below B w0 w') ∧ w'.heap.size = w.heap.size ∧ ∀ b, b ≠ g → w'.heap[b]? = w.heap[b]?) → wpList Try.prog ops Q rest (a.put op.dst undef) w') : wpList Try.prog ops Q (op :: rest) a w := by
  refine wpList_store_mid hgd ty x y ho g 0 cs.toArray hx hy (hB.there (by rw [List.size_toArray]; omega)) (by rw [hi, List.size_toArray]) (all_oneCell_toArray h1) (h _ (hide ⟨?_, ?_, size_setCells _ _ _ _, fun b hb => heap_setCells_ne _ hb _ _ _⟩))
  · have := Blk.setCells_at (pre := []) (old := old) (post := []) (vs := cs) (o := 0) (w := w) (by simpa using hB) rfl hlen
    simpa using this
  · intro B w0 hb hg
    exact Below.setCells _ hg _ _ _ hb

/-- The block of the slots: what each of them holds. -/
def Slots (w : World) (g : Nat) (F : Nat → ByteArray) : Prop := ∃ cs : List Value, cs.length = 16384 ∧ (∀ s, s < 16384 → cs[s]? = some (.string (F s))) ∧ Blk w g cs 9

theorem Slots.lt {w : World} {g : Nat} {F : Nat → ByteArray} (h : Slots w g F) : g < w.heap.size := by obtain ⟨_, _, _, h⟩ := h; exact h.lt
theorem Slots.of {w w' : World} {g : Nat} {F : Nat → ByteArray} (h : Slots w g F) (hb : w'.heap[g]? = w.heap[g]?) : Slots w' g F := by
  obtain ⟨cs, h1, h2, h3⟩ := h; exact ⟨cs, h1, h2, h3.of hb⟩
theorem Slots.cell {w : World} {g : Nat} {F : Nat → ByteArray} (h : Slots w g F) {s : Nat} (hs : s < 16384) : w.cell? ⟨g, s, none⟩ = some (.string (F s)) ∧ w.frozen? ⟨g, s, none⟩ = false := by
  obtain ⟨cs, h1, h2, h3⟩ := h; exact ⟨h3.cell (h2 s hs), h3.frozen s⟩
theorem Slots.set {w : World} {g : Nat} {F : Nat → ByteArray} (h : Slots w g F) (t : Nat) (id : ByteArray) : Slots (w.setCell ⟨g, t, none⟩ (.string id)) g (fun s => if s = t then id else F s) := by
  obtain ⟨cs, h1, h2, h3⟩ := h
  refine ⟨cs.set t (.string id), by rw [List.length_set]; exact h1, fun s hs => ?_, h3.setCell t _⟩
  show _ = some (Value.string (if s = t then id else F s))
  by_cases e : s = t
  · subst e
    rw [List.getElem?_set_self (by omega), if_pos rfl]
  · rw [List.getElem?_set_ne (Ne.symm e), if_neg e]; exact h2 s hs

def slots0 : Array Value := zrow (.string ByteArray.empty) 16384
theorem slots_start (w : World) : Slots (w.alloc (.cells slots0 9)) w.heap.size (fun _ => ByteArray.empty) := by
  have hl : slots0.toList = List.replicate 16384 (.string ByteArray.empty) := toList_madeCells_one _ _
  refine ⟨slots0.toList, by rw [hl, List.length_replicate], fun s hs => ?_, Blk.new' _ _ _⟩
  rw [hl, List.getElem?_replicate, if_pos hs]

theorem make_slots (w : World) : (Instr.makeSlice 25 (.int .i64 16384) (.int .i64 16384)).run Try.prog w = .ok (.slice (some ⟨w.heap.size, 0, none⟩) 16384 16384) (w.alloc (.cells slots0 9)) :=
  make_row 25 9 (.string ByteArray.empty) 1 16 Try.underlying25 info9 (by omega) w 16384 (by omega)

def OwnPost (w : World) (cs : List Core) (e : Ending) (w' : World) : Prop :=
  ∃ g F, e = .returned (.slice (some ⟨g, 0, none⟩) 16384 16384) ∧ Slots w' g F ∧ (∀ s, s < 16384 → F s = owner cs s) ∧ Below w.heap.size w w'

/-- The memory while one line is laid: her copy in block 'g5', the slots in the first new block. -/
structure OMem (w : World) (F : Nat → ByteArray) (wr : World) : Prop where
  below : Below w.heap.size w wr
  slots : Slots wr w.heap.size F

theorem OMem.more {w : World} {F : Nat → ByteArray} {wr w2 : World} (h : OMem w F wr) (hb : Below wr.heap.size wr w2) : OMem w F w2 :=
  ⟨h.below.trans (hb.mono h.below.size), h.slots.of (hb.block _ h.slots.lt)⟩

theorem OMem.set {w : World} {F : Nat → ByteArray} {wr : World} (h : OMem w F wr) (t : Nat) (id : ByteArray) : OMem w (fun s => if s = t then id else F s) (wr.setCell ⟨w.heap.size, t, none⟩ (.string id)) :=
  ⟨h.below.setCell (Nat.le_refl _) _, h.slots.set t id⟩

theorem hits_snoc (id : ByteArray) (rs : List Rg) (r : Rg) (s : Int) : hits (id, rs ++ [r]) s = (hits (id, rs) s || decide (r.1 ≤ s ∧ s ≤ r.2)) := by
  unfold hits; rw [List.any_append]; simp

end Go.Proofs.Qxb6601374a
