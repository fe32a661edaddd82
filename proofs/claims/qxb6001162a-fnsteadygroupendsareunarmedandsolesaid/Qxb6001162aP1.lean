import Derived.Test.Qxb6001162aW3
namespace Go.Proofs.Qxb6001162a

/-! ### The plain side of 'reach': no Go in sight -/
def fal (l : List Bool) : Nat := l.count false

theorem fal_le (l : List Bool) : fal l ≤ l.length := List.count_le_length

theorem fal_set_true (l : List Bool) (i : Nat) (h : l[i]? = some false) : fal (l.set i true) + 1 = fal l := by
  induction l generalizing i with
  | nil => simp at h
  | cons b r ih =>
    cases i with
    | zero => simp at h; subst h; simp [fal]
    | succ i =>
      simp at h
      have := ih i h
      simp only [fal, List.set_cons_succ, List.count_cons] at *
      omega

theorem fal_replicate (n : Nat) : fal (List.replicate n false) = n := by simp [fal]

/-- What the ways do: from the way 'v' (the instruction 'v / 2', armed where 'v % 2 = 1') to the next. -/
def Closed (ps : List Inst) (G : Int → Prop) : Prop := ∀ (v : Int) (p : Inst), G v → ps[(v / 2).toNat]? = some p →
  (p.op = 2 → G (2 * p.y + v % 2) ∧ G (2 * p.x + v % 2)) ∧ ((p.op = 4 ∨ p.op = 5) → G (2 * p.x + v % 2)) ∧
  (p.op = 3 → (p.lapses = true → v % 2 = 0 → G (2 * p.x)) ∧ (¬ (p.lapses = true ∧ v % 2 = 0) → G (2 * p.x + 1)))

structure PInv (G : Int → Prop) (n m : Nat) (seen0 ended0 : List Bool) (w0 : Int) (ways stack : List Int) (seen ended : List Bool) (grew : Bool) : Prop where
  lseen : seen.length = 2 * n
  lended : ended.length = m
  gstack : ∀ v ∈ stack, G v
  gways : ∀ v ∈ ways, G v
  bstack : stack.length + 2 * fal seen ≤ 1 + 4 * n
  bways : ways.length + fal seen = fal seen0
  marks : ∀ i : Nat, seen[i]? = some true → seen0[i]? = some true ∨ (i : Int) ∈ ways
  first : (stack = [w0] ∧ seen = seen0) ∨ (seen0[w0.toNat]? = some false → w0 ∈ ways)
  fended : fal ended ≤ fal ended0
  grown : grew = true → fal ended < fal ended0

theorem PInv.start {G : Int → Prop} {n m : Nat} {seen0 ended0 : List Bool} {w0 : Int} (h1 : seen0.length = 2 * n) (h2 : ended0.length = m) (h3 : G w0) : PInv G n m seen0 ended0 w0 [] [w0] seen0 ended0 false where
  lseen := h1
  lended := h2
  gstack := by simpa using h3
  gways := by simp
  bstack := by have := fal_le seen0; simp; omega
  bways := by simp
  marks := fun i h => .inl h
  first := .inl ⟨rfl, rfl⟩
  fended := Nat.le_refl _
  grown := by simp

theorem PInv.popSeen {G : Int → Prop} {n m : Nat} {seen0 ended0 : List Bool} {w0 : Int} {ways st : List Int} {v : Int} {seen ended : List Bool} {grew : Bool}
    (h : PInv G n m seen0 ended0 w0 ways (st ++ [v]) seen ended grew) (hs : seen[v.toNat]? = some true) : PInv G n m seen0 ended0 w0 ways st seen ended grew where
  lseen := h.lseen
  lended := h.lended
  gstack := fun u hu => h.gstack u (by simp [hu])
  gways := h.gways
  bstack := by have := h.bstack; simp at this; omega
  bways := h.bways
  marks := h.marks
  first := by
    rcases h.first with ⟨a, b⟩ | a
    · refine .inr fun hf => ?_
      have : st = [] ∧ v = w0 := by
        cases st with
        | nil => simpa using a
        | cons x r => simp at a
      obtain ⟨_, rfl⟩ := this
      rw [b] at hs
      rw [hs] at hf
      cases hf
    · exact .inr a
  fended := h.fended
  grown := h.grown

theorem PInv.push {G : Int → Prop} {n m : Nat} {seen0 ended0 : List Bool} {w0 : Int} {ways st : List Int} {v : Int} {seen ended : List Bool} {grew : Bool}
    (h : PInv G n m seen0 ended0 w0 ways (st ++ [v]) seen ended grew) (hv : 0 ≤ v) (hs : seen[v.toNat]? = some false) (news : List Int) (hn : ∀ u ∈ news, G u) (hl : news.length ≤ 2)
    (ended' : List Bool) (he1 : ended'.length = m) (he2 : fal ended' ≤ fal ended0) (grew' : Bool) (hg : grew' = true → fal ended' < fal ended0) :
    PInv G n m seen0 ended0 w0 (ways ++ [v]) (st ++ news) (seen.set v.toNat true) ended' grew' where
  lseen := by rw [List.length_set]; exact h.lseen
  lended := he1
  gstack := by
    intro u hu
    rcases List.mem_append.1 hu with hu | hu
    · exact h.gstack u (by simp [hu])
    · exact hn u hu
  gways := by
    intro u hu
    rcases List.mem_append.1 hu with hu | hu
    · exact h.gways u hu
    · exact h.gstack u (by simp at hu; simp [hu])
  bstack := by have := h.bstack; have := fal_set_true seen _ hs; simp at *; omega
  bways := by have := h.bways; have := fal_set_true seen _ hs; simp at *; omega
  marks := by
    intro i hi
    by_cases e : i = v.toNat
    · subst e; right; simp; right; omega
    · rw [List.getElem?_set_ne (Ne.symm e)] at hi
      rcases h.marks i hi with a | a
      · exact .inl a
      · exact .inr (by simp [a])
  first := by
    right
    rcases h.first with ⟨a, b⟩ | a
    · intro _
      cases st with
      | nil => simp at a; simp [a]
      | cons x r => simp at a
    · intro hf
      simp [a hf]
  fended := he2
  grown := hg

end Go.Proofs.Qxb6001162a
