import Derived.Test.Qxb6601374aRows
import Derived.Test.Qxb6601374aMem
import Derived.WalkSpells
import Derived.WalkLawsBesides
import Derived.Handy
namespace Go.Proofs.Qxb6601374a
open Go Go.RowKit

/-- A range: its first and its last slot. -/
abbrev Rg := Int × Int
def rc (r : Rg) : List Value := [.int .i64 r.1, .int .i64 r.2]
theorem rc_len (r : Rg) : (rc r).length = 2 := rfl
theorem rc_one (r : Rg) : ∀ v ∈ rc r, v.oneCell' = true := by
  intro v hv; simp [rc] at hv; rcases hv with h | h <;> subst h <;> rfl

/-- A line: its id, its slice of ranges, the ranges that lie there. -/
structure Line where
  id : ByteArray
  ad : Option Addr
  len : Nat
  cap : Nat
  rs : List Rg

def Line.cells (l : Line) : List Value := [.string l.id, .slice l.ad l.len l.cap]
theorem Line.cells_len (l : Line) : l.cells.length = 2 := rfl
theorem Line.cells_one (l : Line) : ∀ v ∈ l.cells, v.oneCell' = true := by
  intro v hv; simp [Line.cells] at hv; rcases hv with h | h <;> subst h <;> rfl

/-- What a line says, wherever it lies. -/
abbrev Core := ByteArray × List Rg
def Line.core (l : Line) : Core := (l.id, l.rs)

/-- The ranges 'rs' lie behind the slice, in a block not below 'lo'. -/
def RsAt (w : World) (lo : Nat) (a : Option Addr) (len : Nat) (rs : List Rg) : Prop :=
  rs.length = len ∧ (0 < len → ∃ b off, a = some ⟨b, off, none⟩ ∧ lo ≤ b ∧ b < w.heap.size ∧ ∀ i r, rs[i]? = some r → w.rangeAt b (off + i * 2) (rc r))

theorem RsAt.keep {w w' : World} {lo : Nat} {a : Option Addr} {len : Nat} {rs : List Rg} (h : RsAt w lo a len rs) (hs : w.heap.size ≤ w'.heap.size) (hk : ∀ b, lo ≤ b → b < w.heap.size → w'.heap[b]? = w.heap[b]?) : RsAt w' lo a len rs := by
  refine ⟨h.1, fun h0 => ?_⟩
  obtain ⟨b, off, e, h1, h2, h3⟩ := h.2 h0
  exact ⟨b, off, e, h1, by omega, fun i r hr => rangeAt_of_heap (h3 i r hr) (hk b h1 h2)⟩

theorem RsAt.below {w w' : World} {lo : Nat} {a : Option Addr} {len : Nat} {rs : List Rg} (h : RsAt w lo a len rs) (hb : Below w.heap.size w w') : RsAt w' lo a len rs :=
  h.keep hb.size fun b _ h2 => hb.block b h2

theorem RsAt.mono {w : World} {lo lo' : Nat} {a : Option Addr} {len : Nat} {rs : List Rg} (h : RsAt w lo a len rs) (hl : lo' ≤ lo) : RsAt w lo' a len rs :=
  ⟨h.1, fun h0 => by obtain ⟨b, off, e, h1, r⟩ := h.2 h0; exact ⟨b, off, e, by omega, r⟩⟩

/-- The two cells of a range. -/
theorem RsAt.cells {w : World} {lo : Nat} {a : Option Addr} {len : Nat} {rs : List Rg} (h : RsAt w lo a len rs) (h0 : 0 < len) : ∃ b off, a = some ⟨b, off, none⟩ ∧ b < w.heap.size ∧ ∀ i r, rs[i]? = some r → w.rangeAt b (off + i * 2) (rc r) := by
  obtain ⟨b, off, e, h1, h2, h3⟩ := h.2 h0
  exact ⟨b, off, e, h2, h3⟩

theorem rc_cells {w : World} {b o : Nat} {r : Rg} (h : w.rangeAt b o (rc r)) : w.cell? ⟨b, o, none⟩ = some (.int .i64 r.1) ∧ w.cell? ⟨b, o + 1, none⟩ = some (.int .i64 r.2) :=
  ⟨h 0 _ rfl, h 1 _ rfl⟩

theorem rs_of_blk {w : World} {g t : Nat} {rs : List Rg} (h : Blk w g (rs.flatMap rc) t) (lo : Nat) (hl : lo ≤ g) : RsAt w lo (some ⟨g, 0, none⟩) rs.length rs := by
  refine ⟨rfl, fun _ => ⟨g, 0, rfl, hl, h.lt, fun i r hr => ?_⟩⟩
  have hi := (List.getElem?_eq_some_iff.1 hr).1
  have e : rs.flatMap rc = (rs.take i).flatMap rc ++ rc r ++ (rs.drop (i + 1)).flatMap rc := by
    rw [← flat_take_succ _ _ _ _ hr, ← List.flatMap_append, List.take_append_drop]
  rw [e] at h
  refine h.range_at ?_
  rw [flat_len _ 2 rc_len, List.length_take]; omega

/-- The lines 'ls' lie behind the slice, and their ranges behind theirs. -/
def LinesAt (w : World) (a : Option Addr) (len : Nat) (ls : List Line) : Prop :=
  ls.length = len ∧ (0 < len → ∃ b off, a = some ⟨b, off, none⟩ ∧ b < w.heap.size ∧ ∀ i l, ls[i]? = some l → w.rangeAt b (off + i * 2) l.cells) ∧ ∀ l ∈ ls, RsAt w 0 l.ad l.len l.rs

theorem LinesAt.below {w w' : World} {a : Option Addr} {len : Nat} {ls : List Line} (h : LinesAt w a len ls) (hb : Below w.heap.size w w') : LinesAt w' a len ls := by
  refine ⟨h.1, fun h0 => ?_, fun l hl => (h.2.2 l hl).below hb⟩
  obtain ⟨b, off, e, h1, h2⟩ := h.2.1 h0
  exact ⟨b, off, e, by have := hb.size; omega, fun i l hl => rangeAt_of_heap (h2 i l hl) (hb.block b h1)⟩

theorem line_cells {w : World} {b o : Nat} {l : Line} (h : w.rangeAt b o l.cells) : w.cell? ⟨b, o, none⟩ = some (.string l.id) ∧ w.cell? ⟨b, o + 1, none⟩ = some (.slice l.ad l.len l.cap) :=
  ⟨h 0 _ rfl, h 1 _ rfl⟩

/-! ### The plain law: who owns a slot -/
def hits (l : Core) (s : Int) : Bool := l.2.any fun r => decide (r.1 ≤ s ∧ s ≤ r.2)

def ownerR : List Core → Int → ByteArray
  | [], _ => ByteArray.empty
  | l :: r, s => if hits l s = true then l.1 else ownerR r s

/-- The id of the last line that claims the slot. -/
def owner (ls : List Core) (s : Int) : ByteArray := ownerR ls.reverse s

theorem owner_nil (s : Int) : owner [] s = ByteArray.empty := rfl
theorem owner_snoc (ls : List Core) (l : Core) (s : Int) : owner (ls ++ [l]) s = if hits l s = true then l.1 else owner ls s := by
  unfold owner; rw [List.reverse_append]; rfl

theorem take_snoc {α : Type} {l : List α} {k : Nat} {u : α} (h : l[k]? = some u) : l.take (k + 1) = l.take k ++ [u] := by
  obtain ⟨hk, rfl⟩ := List.getElem?_eq_some_iff.1 h
  exact List.take_succ_eq_append_getElem hk

theorem cores_take {ls : List Line} {k : Nat} {l : Line} (h : ls[k]? = some l) : (ls.map Line.core).take (k + 1) = (ls.map Line.core).take k ++ [l.core] :=
  take_snoc (by rw [List.getElem?_map, h]; rfl)

end Go.Proofs.Qxb6601374a
