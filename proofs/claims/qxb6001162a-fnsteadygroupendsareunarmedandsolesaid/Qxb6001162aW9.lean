import Derived.Test.Qxb6001162aW8
namespace Go.Proofs.Qxb6001162a
open Go.RowKit

theorem info4 : (Try.prog.info? 4).map (fun i => (i.zero, i.size, i.bytes)) = some (some (.bool false), 1, 1) := by kernel_rfl

/-- A new row of 'false's, behind a name. -/
def falses (n : Nat) : Array Value := madeCells #[.bool false] n

theorem falses_list (n : Nat) : (falses n).toList = (List.replicate n false).map Value.bool := by
  refine List.ext_getElem (by simp [falses, size_madeCells]) ?_
  intro i h1 h2
  simp [falses, madeCells, Nat.mod_one]

theorem Row.mono {w : World} {base base' : Nat} {v : Value} {xs : List Int} (h : Row w base v xs) (hb : base' ≤ base) : Row w base' v xs := by
  obtain ⟨h1, h2⟩ := h
  refine ⟨h1, ?_⟩
  rcases h2 with h2 | ⟨g, cap, cur, hv, hg, r⟩
  · exact .inl h2
  · exact .inr ⟨g, cap, cur, hv, by omega, r⟩

theorem Row.form {w : World} {base : Nat} {v : Value} {xs : List Int} (h : Row w base v xs) (hx : xs ≠ []) : ∃ g cap, v = .slice (some ⟨g, 0, none⟩) xs.length cap ∧ base ≤ g ∧ g < w.heap.size := by
  have hh := h
  obtain ⟨h1, h2⟩ := h
  rcases h2 with h2 | ⟨g, cap, cur, hv, hg, r⟩
  · exact absurd (List.eq_nil_of_length_eq_zero h2.2) hx
  · refine ⟨g, cap, hv, hg, ?_⟩
    subst hv
    exact (World.ownsRow.lt hh g rfl).2

theorem Row.cell {w : World} {base g cap l : Nat} {xs : List Int} (h : Row w base (.slice (some ⟨g, 0, none⟩) l cap) xs) {k : Nat} {u : Int} (hk : xs[k]? = some u) : w.cell? ⟨g, k, none⟩ = some (.int .i32 u) := by
  have hl : l = xs.length := by
    obtain ⟨h1, h2 | ⟨g', cap', cur, hv, r⟩⟩ := h
    · cases h2.1
    · cases hv; rfl
  subst hl
  have hkl := (List.getElem?_eq_some_iff.1 hk).1
  rw [World.ownsRow.cellAt h k (by omega)]
  simp [hk]

/-- Between two rounds of 'startClosure'. -/
structure StRel (n m B : Nat) (w wr : World) : Prop where
  below : Below B w wr
  size : w.heap.size + 2 ≤ wr.heap.size
  seenB : Blk wr (w.heap.size + 1) ((List.replicate (2 * n) false).map Value.bool) 4
  endB : ∃ ended : List Bool, ended.length = m ∧ Blk wr w.heap.size (ended.map Value.bool) 4

/-- While the marks are struck again. -/
structure StrikeRel (n m B : Nat) (w : World) (v : Value) (ways : List Int) (E : Nat) (k : Nat) (wr : World) : Prop where
  below : Below B w wr
  size : w.heap.size + 2 ≤ wr.heap.size
  row : Row wr (w.heap.size + 2) v ways
  seenB : ∃ seen : List Bool, seen.length = 2 * n ∧ Blk wr (w.heap.size + 1) (seen.map Value.bool) 4 ∧ ∀ i : Nat, seen[i]? = some true → (i : Int) ∈ ways.drop k
  endB : ∃ ended : List Bool, ended.length = m ∧ Blk wr w.heap.size (ended.map Value.bool) 4 ∧ fal ended < E

def StartPost (G : Int → Prop) (n B : Nat) (w0 : Int) (w : World) (e : Ending) (w' : World) : Prop :=
  ∃ v1 v2 v ways, e = .returned (.tuple #[v1, v2, v]) ∧ Below B w w' ∧ w.heap.size ≤ w'.heap.size ∧ Row w' w.heap.size v ways ∧ (∀ u ∈ ways, G u) ∧ w0 ∈ ways ∧ ways.length ≤ 2 * n

/-- All that 'startClosure' and 'firstState' are told. -/
structure SCtx (B x g : Nat) (sb : Nat → Nat) (ps : List Inst) (start slots : Int) (G : Int → Prop) (n m : Nat) (w : World) : Prop where
  hE : Ere w B x g sb ps start slots
  hB : B ≤ w.heap.size
  hn : ps.length = n
  hm : (m : Int) = slots / 2
  hval : valid ps slots = true
  hwf : ∀ p ∈ ps, p.wf
  hG0 : G (start * 2)
  hGr : ∀ v, G v → 0 ≤ v ∧ v < 2 * n
  hGc : Closed ps G

theorem SCtx.reach {B x g : Nat} {sb : Nat → Nat} {ps : List Inst} {start slots : Int} {G : Int → Prop} {n m : Nat} {w wr : World} (c : SCtx B x g sb ps start slots G n m w) (h : StRel n m B w wr) :
    ∃ ended, RCtx B x g sb ps start slots G n m (w.heap.size + 1) w.heap.size (List.replicate (2 * n) false) ended (start * 2) wr := by
  obtain ⟨ended, he, hB⟩ := h.endB
  exact ⟨ended, c.hE.below h.below, by have := h.size; have := c.hB; omega, by have := c.hB; omega, c.hB, by omega, h.seenB, hB, c.hn, by simp, he, c.hm, c.hval, c.hwf, c.hG0, c.hGr, c.hGc⟩

theorem all_false {seen : List Bool} {n : Nat} (hl : seen.length = n) (h : ∀ i : Nat, seen[i]? = some true → False) : seen = List.replicate n false := by
  refine List.ext_getElem (by simp [hl]) ?_
  intro i h1 h2
  rw [List.getElem_replicate]
  cases e : seen[i]
  · rfl
  · exact (h i (by rw [List.getElem?_eq_getElem h1, e])).elim

end Go.Proofs.Qxb6001162a
