import Derived.Test.Qxb6001162aW9
namespace Go.Proofs.Qxb6001162a
open Go.RowKit

/-! ### The plain side of 'firstState' -/
/-- The sets' words fit 64 bits. -/
def Inst.wfs (p : Inst) : Prop := (0 ≤ p.s0 ∧ p.s0 < 18446744073709551616) ∧ (0 ≤ p.s1 ∧ p.s1 < 18446744073709551616) ∧ (0 ≤ p.s2 ∧ p.s2 < 18446744073709551616) ∧ (0 ≤ p.s3 ∧ p.s3 < 18446744073709551616)

def Inst.sets (p : Inst) : List Nat := [p.s0.toNat, p.s1.toNat, p.s2.toNat, p.s3.toNat]
def wordCells (l : List Nat) : List Value := l.map fun (n : Nat) => Value.int .u64 (n : Int)

theorem Inst.set_words (p : Inst) (h : p.wfs) : p.set = wordCells p.sets := by
  obtain ⟨⟨a, _⟩, ⟨b, _⟩, ⟨c, _⟩, ⟨d, _⟩⟩ := h
  simp [Inst.set, wordCells, Inst.sets, Int.toNat_of_nonneg a, Int.toNat_of_nonneg b, Int.toNat_of_nonneg c, Int.toNat_of_nonneg d]

theorem Inst.sets_lt (p : Inst) (h : p.wfs) : ∀ n ∈ p.sets, n < 18446744073709551616 := by
  obtain ⟨⟨a, a'⟩, ⟨b, b'⟩, ⟨c, c'⟩, ⟨d, d'⟩⟩ := h
  intro n hn
  simp [Inst.sets] at hn
  rcases hn with h | h | h | h <;> omega

/-- Word by word, 'or'. -/
def orW (a b : List Nat) : List Nat := List.zipWith (· ||| ·) a b

/-- The instruction at a way. -/
def opAt (ps : List Inst) (v : Int) : Int := match ps[(v / 2).toNat]? with | some p => p.op | none => 6

def orStep (ps : List Inst) (a : List Nat) (v : Int) : List Nat := match ps[(v / 2).toNat]? with
  | some p => if p.op = 1 then orW a p.sets else a
  | none => a

/-- What the bytes of the ways come to. -/
def orAll (ps : List Inst) (ways : List Int) : List Nat := ways.foldl (orStep ps) [0, 0, 0, 0]

theorem orAll_snoc (ps : List Inst) (ways : List Int) (v : Int) : orAll ps (ways ++ [v]) = orStep ps (orAll ps ways) v := by simp [orAll, List.foldl_append]

theorem orW_length {a b : List Nat} (ha : a.length = 4) (hb : b.length = 4) : (orW a b).length = 4 := by simp [orW, ha, hb]

theorem orStep_length (ps : List Inst) (a : List Nat) (v : Int) (ha : a.length = 4) : (orStep ps a v).length = 4 := by
  unfold orStep
  split
  · split
    · exact orW_length ha rfl
    · exact ha
  · exact ha

theorem orAll_length (ps : List Inst) (ways : List Int) : (orAll ps ways).length = 4 := by
  unfold orAll
  generalize hi : ([0, 0, 0, 0] : List Nat) = i
  have hl : i.length = 4 := by rw [← hi]; rfl
  clear hi
  induction ways generalizing i with
  | nil => exact hl
  | cons v r ih => exact ih _ (orStep_length ps i v hl)

theorem orW_lt {a b : List Nat} (ha : ∀ n ∈ a, n < 18446744073709551616) (hb : ∀ n ∈ b, n < 18446744073709551616) : ∀ n ∈ orW a b, n < 18446744073709551616 := by
  intro n hn
  unfold orW at hn
  obtain ⟨i, hi, rfl⟩ := List.mem_iff_getElem.1 hn
  rw [List.getElem_zipWith]
  have h1 := ha _ (List.getElem_mem (l := a) (n := i) (by simp at hi; omega))
  have h2 := hb _ (List.getElem_mem (l := b) (n := i) (by simp at hi; omega))
  exact Nat.or_lt_two_pow (n := 64) h1 h2

theorem orStep_lt {ps : List Inst} (hw : ∀ p ∈ ps, p.wfs) {a : List Nat} (ha : ∀ n ∈ a, n < 18446744073709551616) (v : Int) : ∀ n ∈ orStep ps a v, n < 18446744073709551616 := by
  unfold orStep
  split
  · rename_i p hp
    split
    · exact orW_lt ha (p.sets_lt (hw p (List.mem_of_getElem? hp)))
    · exact ha
  · exact ha

theorem orAll_lt {ps : List Inst} (hw : ∀ p ∈ ps, p.wfs) (ways : List Int) : ∀ n ∈ orAll ps ways, n < 18446744073709551616 := by
  unfold orAll
  generalize hi : ([0, 0, 0, 0] : List Nat) = i
  have hl : ∀ n ∈ i, n < 18446744073709551616 := by rw [← hi]; intro n hn; simp at hn; omega
  clear hi
  induction ways generalizing i with
  | nil => exact hl
  | cons v r ih => exact ih _ (orStep_lt hw hl v)

/-- Each end that is named is a way at the save of the end of that group. -/
def EndsOk (ps : List Inst) (ends ways : List Int) : Prop := ∀ (g : Nat) (u : Int), ends[g]? = some u → u = -1 ∨ (u ∈ ways ∧ ∃ p, ps[(u / 2).toNat]? = some p ∧ p.op = 4 ∧ p.arg = 2 * g + 1)

theorem EndsOk.more {ps : List Inst} {ends ways : List Int} (h : EndsOk ps ends ways) (v : Int) : EndsOk ps ends (ways ++ [v]) := by
  intro g u hu
  rcases h g u hu with a | ⟨a, b⟩
  · exact .inl a
  · exact .inr ⟨by simp [a], b⟩

theorem EndsOk.put {ps : List Inst} {ends ways : List Int} (h : EndsOk ps ends ways) (v : Int) {p : Inst} (hp : ps[(v / 2).toNat]? = some p) (h4 : p.op = 4) {g : Nat} (hg : p.arg = 2 * g + 1) : EndsOk ps (ends.set g v) (ways ++ [v]) := by
  intro g' u hu
  by_cases e : g' = g
  · subst e
    rw [List.getElem?_set] at hu
    rw [if_pos rfl] at hu
    split at hu
    · simp at hu; subst hu
      exact .inr ⟨by simp, p, hp, h4, hg⟩
    · cases hu
  · rw [List.getElem?_set_ne (Ne.symm e)] at hu
    exact (h.more v) g' u hu

theorem EndsOk.start {ps : List Inst} {ends : List Int} (h : ∀ (g : Nat) (u : Int), ends[g]? = some u → u = -1) : EndsOk ps ends [] := fun g u hu => .inl (h g u hu)

end Go.Proofs.Qxb6001162a
