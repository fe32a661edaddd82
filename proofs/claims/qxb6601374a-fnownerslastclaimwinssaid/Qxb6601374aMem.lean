import Derived.WalkKit
import Derived.Deep.MidRow
import Derived.Deep.AppendLies
namespace Go.Proofs.Qxb6601374a
open Go Go.RowKit

/-- Block 'g' is known whole: the cells 'cs', none of them frozen. -/
def Blk (w : World) (g : Nat) (cs : List Value) (t : TypeId) : Prop := w.heap[g]? = some (.cells cs.toArray t (0, 0))

theorem Blk.lt {w : World} {g : Nat} {cs : List Value} {t : TypeId} (h : Blk w g cs t) : g < w.heap.size := (Array.getElem?_eq_some_iff.1 h).1

theorem Blk.cell {w : World} {g : Nat} {cs : List Value} {t : TypeId} (h : Blk w g cs t) {j : Nat} {v : Value} (hv : cs[j]? = some v) : w.cell? ⟨g, j, none⟩ = some v := by
  rw [cell_of_row w g j _ t _ h]; simpa using hv

theorem Blk.frozen {w : World} {g : Nat} {cs : List Value} {t : TypeId} (h : Blk w g cs t) (j : Nat) : w.frozen? ⟨g, j, none⟩ = false := by
  have h' : w.heap[g]? = some (.cells cs.toArray t (0, 0)) := h
  simp [World.frozen?, h']

theorem Blk.there {w : World} {g : Nat} {cs : List Value} {t : TypeId} (h : Blk w g cs t) {o n : Nat} (hn : o + n ≤ cs.length) : w.there g o n := fun j hj =>
  ⟨by rw [h.cell (List.getElem?_eq_getElem (by omega))]; rfl, h.frozen _⟩

theorem Blk.range {w : World} {g : Nat} {pre vs post : List Value} {t : TypeId} (h : Blk w g (pre ++ vs ++ post) t) : w.rangeAt g pre.length vs := fun j v hv => by
  refine h.cell ?_
  have hj : j < vs.length := (List.getElem?_eq_some_iff.1 hv).1
  rw [List.append_assoc, List.getElem?_append_right (by omega), List.getElem?_append_left (by omega)]
  rw [← hv]; congr 1; omega

theorem Blk.of {w w' : World} {g : Nat} {cs : List Value} {t : TypeId} (h : Blk w g cs t) (hb : w'.heap[g]? = w.heap[g]?) : Blk w' g cs t := by unfold Blk; rw [hb]; exact h

theorem Blk.below {B : Nat} {w w' : World} {g : Nat} {cs : List Value} {t : TypeId} (h : Blk w g cs t) (hb : Below B w w') (hg : g < B) : Blk w' g cs t := h.of (hb.block g hg)

theorem Blk.alloc {w : World} {g : Nat} {cs : List Value} {t : TypeId} (h : Blk w g cs t) (o : Obj) : Blk (w.alloc o) g cs t := h.of (Below.heap_alloc _ _ _ h.lt)

theorem Blk.drew {w : World} {g : Nat} {cs : List Value} {t : TypeId} (h : Blk w g cs t) : Blk w.drew g cs t := h.of rfl

theorem Blk.new (w : World) (cs : List Value) (t : TypeId) : Blk (w.alloc (.cells cs.toArray t)) w.heap.size cs t := by
  show (w.heap.push _)[w.heap.size]? = _
  simp

theorem Blk.new' (w : World) (cs : Array Value) (t : TypeId) : Blk (w.alloc (.cells cs t)) w.heap.size cs.toList t := by
  show (w.heap.push _)[w.heap.size]? = _
  simp

theorem Blk.setCell {w : World} {g : Nat} {cs : List Value} {t : TypeId} (h : Blk w g cs t) (j : Nat) (v : Value) : Blk (w.setCell ⟨g, j, none⟩ v) g (cs.set j v) t := by
  have h' : w.heap[g]? = some (.cells cs.toArray t (0, 0)) := h
  show (w.heap.modify g _)[g]? = _
  rw [Array.getElem?_modify, if_pos rfl, h']
  simp

theorem Blk.setCell_ne {w : World} {g : Nat} {cs : List Value} {t : TypeId} (h : Blk w g cs t) (a : Addr) (v : Value) (hne : g ≠ a.block) : Blk (w.setCell a v) g cs t := h.of (Below.heap_setCell _ _ _ _ hne)

theorem heap_setCells_ne {g : Nat} (b : Nat) (hne : g ≠ b) : ∀ (vs : List Value) (o : Nat) (w : World), (w.setCells b o vs).heap[g]? = w.heap[g]?
  | [], _, _ => rfl
  | v :: r, o, w => by rw [World.setCells, heap_setCells_ne b hne r]; exact Below.heap_setCell _ _ _ _ hne

theorem size_setCells (b : Nat) : ∀ (vs : List Value) (o : Nat) (w : World), (w.setCells b o vs).heap.size = w.heap.size
  | [], _, _ => rfl
  | v :: r, o, w => by rw [World.setCells, size_setCells b r]; simp [World.setCell]

theorem Blk.setCells_ne {w : World} {g : Nat} {cs : List Value} {t : TypeId} (h : Blk w g cs t) (b o : Nat) (vs : List Value) (hne : g ≠ b) : Blk (w.setCells b o vs) g cs t := h.of (heap_setCells_ne b hne vs o w)

theorem Below.setCells {B : Nat} {a : World} (b : Nat) (hb : B ≤ b) : ∀ (vs : List Value) (o : Nat) (w : World), Below B a w → Below B a (w.setCells b o vs)
  | [], _, _, h => h
  | v :: r, o, w, h => by rw [World.setCells]; exact Below.setCells b hb r _ _ (h.setCell hb v)

theorem Blk.setCells {g : Nat} {t : TypeId} : ∀ (vs old pre post : List Value) (w : World), old.length = vs.length → Blk w g (pre ++ old ++ post) t → Blk (w.setCells g pre.length vs) g (pre ++ vs ++ post) t
  | [], [], _, _, _, _, h => h
  | [], _ :: _, _, _, _, hl, _ => by simp at hl
  | _ :: _, [], _, _, _, hl, _ => by simp at hl
  | v :: r, u :: s, pre, post, w, hl, h => by
    rw [World.setCells]
    have h1 := h.setCell pre.length v
    have e : (pre ++ u :: s ++ post).set pre.length v = (pre ++ [v]) ++ s ++ post := by simp
    rw [e] at h1
    have h2 := Blk.setCells r s (pre ++ [v]) post _ (by simpa using hl) h1
    simpa using h2

/-- The same, the place given by its number. -/
theorem Blk.setCells_at {g : Nat} {t : TypeId} {vs old pre post : List Value} {w : World} {o : Nat} (h : Blk w g (pre ++ old ++ post) t) (ho : pre.length = o) (hl : old.length = vs.length) : Blk (w.setCells g o vs) g (pre ++ vs ++ post) t := by
  subst ho; exact Blk.setCells vs old pre post w hl h

theorem Blk.range_at {w : World} {g : Nat} {pre vs post : List Value} {t : TypeId} {o : Nat} (h : Blk w g (pre ++ vs ++ post) t) (ho : pre.length = o) : w.rangeAt g o vs := by subst ho; exact h.range

theorem rangeAt_of_heap {w w' : World} {b o : Nat} {cs : List Value} (h : w.rangeAt b o cs) (hb : w'.heap[b]? = w.heap[b]?) : w'.rangeAt b o cs := fun j v hv => by
  rw [World.cell?_of_block (w := w) hb]; exact h j v hv

theorem rangeAt_lt {w : World} {b o : Nat} {cs : List Value} (h : w.rangeAt b o cs) (hc : 0 < cs.length) : b < w.heap.size :=
  World.block_lt_of_cell? w _ (h 0 _ (List.getElem?_eq_getElem hc))

theorem flat_len {α β : Type} (f : α → List β) (n : Nat) (hf : ∀ a, (f a).length = n) (l : List α) : (l.flatMap f).length = l.length * n := by
  induction l with
  | nil => simp
  | cons a r ih => simp [List.flatMap_cons, hf, ih, Nat.succ_mul]; omega

theorem flat_take_succ {α β : Type} (f : α → List β) (l : List α) (k : Nat) (a : α) (h : l[k]? = some a) : (l.take (k + 1)).flatMap f = (l.take k).flatMap f ++ f a := by
  obtain ⟨hk, rfl⟩ := List.getElem?_eq_some_iff.1 h
  rw [List.take_succ_eq_append_getElem hk, List.flatMap_append]; simp

theorem hide {p : Prop} (h : p) : Hid p := h

/-- GUARDS: they do nothing but tell which operation stands next (under 'with_reducible'). -/
theorem at_load {P : Program} {ops : Array Oper} {rest : List Oper} {a : Act} {w : World} {Q : Exit → Act → World → Prop} {d : Option Tmp} {x : Operand} {ty' : TypeId} {pos : String} {af : Array Edge} (ty : TypeId)
    (h : wpList P ops Q (⟨d, .load ty x, ty', pos, af, none⟩ :: rest) a w) : wpList P ops Q (⟨d, .load ty x, ty', pos, af, none⟩ :: rest) a w := h
theorem at_store {P : Program} {ops : Array Oper} {rest : List Oper} {a : Act} {w : World} {Q : Exit → Act → World → Prop} {d : Option Tmp} {x y : Operand} {ty' : TypeId} {pos : String} {af : Array Edge} (ty : TypeId)
    (h : wpList P ops Q (⟨d, .store ty x y, ty', pos, af, none⟩ :: rest) a w) : wpList P ops Q (⟨d, .store ty x y, ty', pos, af, none⟩ :: rest) a w := h

end Go.Proofs.Qxb6601374a
