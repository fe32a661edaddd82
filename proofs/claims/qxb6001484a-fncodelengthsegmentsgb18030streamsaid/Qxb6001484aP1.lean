import Derived.Test.Qxb6001484aW3
namespace Go.Proofs.Qxb6001484a
open Go.RowKit

/-! ### The plain side: a stream of codes -/
/-- The trail byte of a code of two. -/
def trail (v : Int) : Int := if 127 ≤ 64 + v / 512 % 190 then 64 + v / 512 % 190 + 1 else 64 + v / 512 % 190

/-- The code that a word chooses. -/
def enc (v : Int) : List Int :=
  if v % 3 = 0 then [v / 4 % 128] else if v % 3 = 1 then [129 + v / 4 % 126, trail v] else [129 + v / 4 % 126, 48 + v / 512 % 10, 129 + v / 8192 % 126, 48 + v / 1048576 % 10]

def encAll (vs : List Int) : List Int := vs.flatMap enc
def wants (vs : List Int) : List Int := vs.map fun v => ((enc v).length : Int)

theorem enc_pos (v : Int) : 0 < (enc v).length := by
  unfold enc
  split
  · simp
  · split <;> simp
theorem enc_le (v : Int) : (enc v).length ≤ 4 := by
  unfold enc
  split
  · simp
  · split <;> simp

theorem enc_range (v : Int) : ∀ b ∈ enc v, 0 ≤ b ∧ b ≤ 255 := by
  intro b hb
  unfold enc trail at hb
  split at hb
  · simp at hb; omega
  · split at hb
    · simp at hb
      rcases hb with rfl | hb
      · omega
      · split at hb <;> omega
    · simp at hb; omega

/-- Each code is cut off at its own end, whatever follows. -/
theorem codeLen_enc (v : Int) (r : List Int) : codeLen (enc v ++ r) = ((enc v).length : Int) := by
  unfold enc
  by_cases h : v % 3 = 0
  · have t : v / 4 % 128 < 128 := by omega
    simp [h, codeLen, t]
  · by_cases h1 : v % 3 = 1
    · have t0 : ¬ 129 + v / 4 % 126 < 128 := by omega
      have t1 : ¬ (129 + v / 4 % 126 = 128 ∨ 129 + v / 4 % 126 = 255) := by omega
      have t2 : 64 ≤ trail v ∧ trail v ≤ 254 ∧ ¬ trail v = 127 := by unfold trail; split <;> omega
      simp only [h1, if_true]
      show codeLen ((129 + v / 4 % 126) :: trail v :: r) = 2
      simp only [codeLen, if_neg t0, if_neg t1, if_pos t2]
    · have t0 : ¬ 129 + v / 4 % 126 < 128 := by omega
      have t1 : ¬ (129 + v / 4 % 126 = 128 ∨ 129 + v / 4 % 126 = 255) := by omega
      have t2 : ¬ (64 ≤ 48 + v / 512 % 10 ∧ 48 + v / 512 % 10 ≤ 254 ∧ ¬ 48 + v / 512 % 10 = 127) := by omega
      have t3 : (48 ≤ 48 + v / 512 % 10 ∧ 48 + v / 512 % 10 ≤ 57) ∧ (129 ≤ 129 + v / 8192 % 126 ∧ 129 + v / 8192 % 126 ≤ 254) ∧ 48 ≤ 48 + v / 1048576 % 10 ∧ 48 + v / 1048576 % 10 ≤ 57 := by omega
      simp only [if_neg h, if_neg h1]
      show codeLen ((129 + v / 4 % 126) :: (48 + v / 512 % 10) :: (129 + v / 8192 % 126) :: (48 + v / 1048576 % 10) :: r) = 4
      simp only [codeLen, if_neg t0, if_neg t1, if_neg t2, if_pos t3]

theorem encAll_take_succ {vs : List Int} {k : Nat} {v : Int} (h : vs[k]? = some v) : encAll (vs.take (k + 1)) = encAll (vs.take k) ++ enc v := flat_take_succ enc vs k v h

theorem wants_take_succ {vs : List Int} {k : Nat} {v : Int} (h : vs[k]? = some v) : wants (vs.take (k + 1)) = wants (vs.take k) ++ [((enc v).length : Int)] := by
  obtain ⟨hk, rfl⟩ := List.getElem?_eq_some_iff.1 h
  unfold wants
  rw [List.take_succ_eq_append_getElem hk, List.map_append]; rfl

theorem wants_length (vs : List Int) : (wants vs).length = vs.length := by simp [wants]

theorem encAll_length (vs : List Int) : vs.length ≤ (encAll vs).length ∧ (encAll vs).length ≤ vs.length * 4 := by
  induction vs with
  | nil => simp [encAll]
  | cons v r ih =>
    have h1 := enc_pos v
    have h2 := enc_le v
    have e : encAll (v :: r) = enc v ++ encAll r := rfl
    rw [e]
    simp only [List.length_append, List.length_cons]
    omega

theorem encAll_split (vs : List Int) (k : Nat) : encAll vs = encAll (vs.take k) ++ encAll (vs.drop k) := by
  unfold encAll; rw [← List.flatMap_append, List.take_append_drop]

theorem encAll_drop {vs : List Int} {k : Nat} {v : Int} (h : vs[k]? = some v) : (encAll vs).drop (encAll (vs.take k)).length = enc v ++ encAll (vs.drop (k + 1)) := by
  obtain ⟨hk, rfl⟩ := List.getElem?_eq_some_iff.1 h
  rw [encAll_split vs k, List.drop_left, List.drop_eq_getElem_cons hk]; rfl

theorem encAll_range (vs : List Int) : ∀ b ∈ encAll vs, 0 ≤ b ∧ b ≤ 255 := by
  intro b hb
  unfold encAll at hb
  obtain ⟨v, _, hb⟩ := List.mem_flatMap.1 hb
  exact enc_range v b hb

end Go.Proofs.Qxb6001484a
