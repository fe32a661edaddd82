import Derived.Test.Qxb6601374aCp
namespace Go.Proofs.Qxb6601374a
open Go.RowKit

def zline : Value := .agg #[.string ByteArray.empty, .slice none 0 0]
def zrange : Value := .agg #[.int .i64 0, .int .i64 0]

/-- 'k' of the lines are copied. -/
structure COut (ls : List Line) (n : Nat) (w : World) (k : Nat) (ms : List Line) (wr : World) : Prop where
  len : ms.length = k
  core : ms.map Line.core = (ls.map Line.core).take k
  below : Below w.heap.size w wr
  blk : ∃ rest : List Value, rest.length = (n - k) * 2 ∧ Blk wr w.heap.size (ms.flatMap Line.cells ++ rest) 32
  rows : ∀ m ∈ ms, RsAt wr (w.heap.size + 1) m.ad m.len m.rs

theorem COut.start (ls : List Line) (n : Nat) (w : World) : COut ls n w 0 [] (w.alloc (.cells (zrow zline (n * 2)) 32)) where
  len := rfl
  core := by simp
  below := (Below.refl _ _).alloc (Nat.le_refl _) _
  blk := ⟨(zrow zline (n * 2)).toList, by rw [Array.length_toList, zrow_size]; rfl, Blk.new' _ _ _⟩
  rows := by simp

theorem COut.lt {ls : List Line} {n : Nat} {w : World} {k : Nat} {ms : List Line} {wr : World} (h : COut ls n w k ms wr) : w.heap.size < wr.heap.size := by
  obtain ⟨rest, _, hb⟩ := h.blk; exact hb.lt

theorem COut.there {ls : List Line} {n : Nat} {w : World} {k : Nat} {ms : List Line} {wr w2 : World} (h : COut ls n w k ms wr) (hk : k < n) (hb : Below wr.heap.size wr w2) : w2.there w.heap.size (k * 2) 2 := by
  obtain ⟨rest, h3, h4⟩ := h.blk
  refine (h4.below hb h.lt).there ?_
  rw [List.length_append, h3, flat_len _ 2 Line.cells_len, h.len]; omega

theorem COut.step {ls : List Line} {n : Nat} {w : World} {k : Nat} {ms : List Line} {wr w2 : World} (h : COut ls n w k ms wr) {l m : Line} (hl : ls[k]? = some l) (hc : m.core = l.core) (hk : k < n) (hb : Below wr.heap.size wr w2)
    (hR : RsAt w2 (w.heap.size + 1) m.ad m.len m.rs) : COut ls n w (k + 1) (ms ++ [m]) (w2.setCells w.heap.size (k * 2) m.cells) where
  len := by rw [List.length_append, h.len]; rfl
  core := by rw [List.map_append, h.core, cores_take hl, ← hc]; rfl
  below := Below.setCells _ (Nat.le_refl _) _ _ _ (h.below.trans (hb.mono h.below.size))
  blk := by
    obtain ⟨rest, h3, h4⟩ := h.blk
    have h5 := h4.below hb h.lt
    refine ⟨rest.drop 2, by rw [List.length_drop, h3]; omega, ?_⟩
    have h6 : Blk w2 w.heap.size (ms.flatMap Line.cells ++ rest.take 2 ++ rest.drop 2) 32 := by rw [List.append_assoc, List.take_append_drop]; exact h5
    have h7 := Blk.setCells_at (o := k * 2) (vs := m.cells) h6 (by rw [flat_len _ 2 Line.cells_len, h.len]) (by rw [List.length_take, h3]; show min 2 _ = 2; omega)
    rw [List.flatMap_append]
    simpa using h7
  rows := by
    have hkeep : ∀ a len rs, RsAt w2 (w.heap.size + 1) a len rs → RsAt (w2.setCells w.heap.size (k * 2) m.cells) (w.heap.size + 1) a len rs := fun a len rs h =>
      h.keep (by rw [size_setCells]; exact Nat.le_refl _) (fun b h1 _ => heap_setCells_ne _ (by omega) _ _ _)
    exact all_snoc (fun x hx => hkeep _ _ _ ((h.rows x hx).below hb)) (hkeep _ _ _ hR)

def LinesPost (w : World) (n : Nat) (ls : List Line) (e : Ending) (w' : World) : Prop :=
  ∃ a c ms, e = .returned (.slice a n c) ∧ LinesAt w' a n ms ∧ ms.map Line.core = ls.map Line.core ∧ Below w.heap.size w w'

theorem COut.done {ls : List Line} {n : Nat} {w : World} {ms : List Line} {wr : World} (h : COut ls n w n ms wr) (hl : ls.length = n) : LinesPost w n ls (.returned (.slice (some ⟨w.heap.size, 0, none⟩) n n)) wr := by
  refine ⟨_, _, ms, rfl, ⟨h.len, fun _ => ⟨w.heap.size, 0, rfl, h.lt, fun i m hm => ?_⟩, fun m hm => (h.rows m hm).mono (Nat.zero_le _)⟩, ?_, h.below⟩
  · obtain ⟨rest, h3, h4⟩ := h.blk
    obtain rfl : rest = [] := List.eq_nil_of_length_eq_zero (by rw [h3]; simp)
    rw [List.append_nil] at h4
    have hi := (List.getElem?_eq_some_iff.1 hm).1
    have e : ms.flatMap Line.cells = (ms.take i).flatMap Line.cells ++ m.cells ++ (ms.drop (i + 1)).flatMap Line.cells := by
      rw [← flat_take_succ _ _ _ _ hm, ← List.flatMap_append, List.take_append_drop]
    rw [e] at h4
    refine h4.range_at ?_
    rw [flat_len _ 2 Line.cells_len, List.length_take]; omega
  · rw [h.core, List.take_of_length_le (by rw [List.length_map, hl]; exact Nat.le_refl _)]

end Go.Proofs.Qxb6601374a
