import Derived.Test.Qxb6001162aW14
namespace Go.Proofs.Qxb6001162a
open Go.RowKit

/-! ### The plain side of the law on what a match begins with -/
def uniStep (a : List Nat) (p : Inst) : List Nat := if p.op = 1 then orW a p.sets else a
/-- All bytes that some byte instruction takes. -/
def uniAll (ps : List Inst) : List Nat := ps.foldl uniStep [0, 0, 0, 0]

theorem uniAll_snoc (ps : List Inst) (p : Inst) : uniAll (ps ++ [p]) = uniStep (uniAll ps) p := by simp [uniAll, List.foldl_append]

theorem uniStep_length (a : List Nat) (p : Inst) (ha : a.length = 4) : (uniStep a p).length = 4 := by
  unfold uniStep
  split
  · exact orW_length ha rfl
  · exact ha

theorem foldl_length (ps : List Inst) : ∀ i : List Nat, i.length = 4 → (ps.foldl uniStep i).length = 4 := by
  induction ps with
  | nil => exact fun i h => h
  | cons v r ih => exact fun i h => ih _ (uniStep_length i v h)

theorem uniAll_length (ps : List Inst) : (uniAll ps).length = 4 := foldl_length ps _ rfl

theorem foldl_lt (ps : List Inst) (hw : ∀ p ∈ ps, p.wfs) : ∀ i : List Nat, (∀ n ∈ i, n < 18446744073709551616) → ∀ n ∈ ps.foldl uniStep i, n < 18446744073709551616 := by
  induction ps with
  | nil => exact fun i h => h
  | cons v r ih =>
    intro i h
    refine ih (fun p hp => hw p (by simp [hp])) _ ?_
    unfold uniStep
    split
    · exact orW_lt h (v.sets_lt (hw v (by simp)))
    · exact h

theorem uniAll_lt {ps : List Inst} (hw : ∀ p ∈ ps, p.wfs) : ∀ n ∈ uniAll ps, n < 18446744073709551616 := foldl_lt ps hw _ (by intro n hn; simp at hn; omega)

/-- Word by word, all bits of 'a' are bits of 'b'. -/
def SubW (a b : List Nat) : Prop := ∀ k x y : Nat, a[k]? = some x → b[k]? = some y → x ||| y = y

theorem SubW.orW {a b c : List Nat} (h1 : SubW a c) (h2 : SubW b c) : SubW (orW a b) c := by
  intro k x y hx hy
  unfold Qxb6001162a.orW at hx
  rw [List.getElem?_zipWith] at hx
  cases ha : a[k]? with
  | none => simp [ha] at hx
  | some u =>
    cases hb : b[k]? with
    | none => simp [ha, hb] at hx
    | some v =>
      simp [ha, hb] at hx
      subst hx
      rw [Nat.or_assoc, h2 k v y hb hy, h1 k u y ha hy]

theorem SubW.zero (c : List Nat) : SubW [0, 0, 0, 0] c := by
  intro k x y hx hy
  have : x = 0 := by
    have := List.mem_of_getElem? hx
    simpa using this
  subst this
  simp

theorem SubW.refl (c : List Nat) : SubW c c := by
  intro k x y hx hy
  rw [hx] at hy; cases hy
  exact Nat.or_self x

theorem SubW.trans_or {a b c : List Nat} (h : SubW a b) (hl : b.length = c.length) : SubW a (Qxb6001162a.orW b c) := by
  intro k x y hx hy
  unfold Qxb6001162a.orW at hy
  rw [List.getElem?_zipWith] at hy
  cases hb : b[k]? with
  | none => simp [hb] at hy
  | some u =>
    have hk := (List.getElem?_eq_some_iff.1 hb).1
    rw [hb, List.getElem?_eq_getElem (by omega)] at hy
    simp at hy
    subst hy
    rw [← Nat.or_assoc, h k x u hx hb]

theorem SubW.or_right {b c : List Nat} (hl : b.length = c.length) : SubW c (Qxb6001162a.orW b c) := by
  intro k x y hx hy
  unfold Qxb6001162a.orW at hy
  rw [List.getElem?_zipWith] at hy
  have hk := (List.getElem?_eq_some_iff.1 hx).1
  rw [hx, List.getElem?_eq_getElem (by omega)] at hy
  simp at hy
  subst hy
  rw [Nat.or_comm, Nat.or_assoc, Nat.or_self]

theorem sub_fold (ps : List Inst) : ∀ i a : List Nat, i.length = 4 → SubW a i → SubW a (ps.foldl uniStep i) := by
  induction ps with
  | nil => exact fun i a _ h => h
  | cons v r ih =>
    intro i a hi h
    refine ih _ _ (uniStep_length i v hi) ?_
    unfold uniStep
    split
    · exact h.trans_or (by rw [hi]; rfl)
    · exact h

theorem sub_uni (ps : List Inst) : ∀ i : List Nat, i.length = 4 → ∀ p ∈ ps, p.op = 1 → SubW p.sets (ps.foldl uniStep i) := by
  induction ps with
  | nil => intro i _ p hp; cases hp
  | cons v r ih =>
    intro i hi p hp h1
    rcases List.mem_cons.1 hp with rfl | hp
    · refine sub_fold r _ _ (uniStep_length i p hi) ?_
      unfold uniStep
      rw [if_pos h1]
      exact SubW.or_right (by rw [hi]; rfl)
    · exact ih _ (uniStep_length i v hi) p hp h1

theorem orAll_sub (ps : List Inst) (ways : List Int) : SubW (orAll ps ways) (uniAll ps) := by
  unfold orAll
  suffices ∀ i : List Nat, SubW i (uniAll ps) → SubW (ways.foldl (orStep ps) i) (uniAll ps) from this _ (SubW.zero _)
  induction ways with
  | nil => exact fun i h => h
  | cons v r ih =>
    intro i h
    refine ih _ ?_
    unfold orStep
    split
    · rename_i p hp
      split
      · rename_i h1
        exact h.orW (sub_uni ps _ rfl p (List.mem_of_getElem? hp) h1)
      · exact h
    · exact h

theorem andNot_zero {a b : Nat} (h : a ||| b = b) (hb : b < 18446744073709551616) : a &&& (18446744073709551615 - b) = 0 := by
  apply Nat.eq_of_testBit_eq
  intro i
  have e : 18446744073709551615 - b = 2 ^ 64 - (b + 1) := by omega
  rw [Nat.testBit_and, e, Nat.testBit_two_pow_sub_succ (by omega), Nat.zero_testBit]
  have h2 : (a ||| b).testBit i = b.testBit i := by rw [h]
  rw [Nat.testBit_or] at h2
  cases ha : a.testBit i <;> cases hbb : b.testBit i <;> simp_all

/-- 'nil only where the program has a match'. -/
theorem any_match {ps : List Inst} {ways : List Int} (h : (ways.any fun v => opAt ps v == 0) = true) : (ps.any fun p => p.op == 0) = true := by
  rw [List.any_eq_true] at h ⊢
  obtain ⟨v, _, hv⟩ := h
  unfold opAt at hv
  split at hv
  · rename_i p hp
    exact ⟨p, List.mem_of_getElem? hp, hv⟩
  · simp at hv

/-- The ways that are reached: all in the program; and from a start that takes a byte, or is the match, it alone. -/
def G6 (ps : List Inst) (start : Int) (n : Nat) (v : Int) : Prop := (0 ≤ v ∧ v < 2 * n) ∧ ((opAt ps (start * 2) = 0 ∨ opAt ps (start * 2) = 1) → v = start * 2)

theorem G6_closed {ps : List Inst} {slots start : Int} {n : Nat} (hv : valid ps slots = true) (hn : ps.length = n) : Closed ps (G6 ps start n) := by
  intro v p hg hp
  have hr := closed_range hv hn v p hg.1 hp
  by_cases h : opAt ps (start * 2) = 0 ∨ opAt ps (start * 2) = 1
  · have e := hg.2 h
    subst e
    have hop : opAt ps (start * 2) = p.op := by unfold opAt; rw [hp]
    rw [hop] at h
    refine ⟨fun h2 => by omega, fun h2 => by omega, fun h2 => by omega⟩
  · refine ⟨fun h2 => ⟨⟨(hr.1 h2).1, fun k => absurd k h⟩, (hr.1 h2).2, fun k => absurd k h⟩, fun h2 => ⟨hr.2.1 h2, fun k => absurd k h⟩, fun h2 => ⟨fun a b => ⟨(hr.2.2 h2).1 a b, fun k => absurd k h⟩, fun a => ⟨(hr.2.2 h2).2 a, fun k => absurd k h⟩⟩⟩

theorem orW_self (a : List Nat) : orW a a = a := by
  unfold orW
  apply List.ext_getElem?
  intro i
  rw [List.getElem?_zipWith]
  cases a[i]? <;> simp

theorem orW_zero (s : List Nat) (hs : s.length = 4) : orW [0, 0, 0, 0] s = s := by
  unfold orW
  match s, hs with
  | [a, b, c, d], _ => simp

theorem orAll_same {ps : List Inst} {v0 : Int} {p : Inst} (hp : ps[(v0 / 2).toNat]? = some p) (h1 : p.op = 1) : ∀ (ways : List Int), ways ≠ [] → (∀ v ∈ ways, v = v0) → orAll ps ways = p.sets := by
  have st : ∀ a, orStep ps a v0 = orW a p.sets := by intro a; unfold orStep; rw [hp]; simp [h1]
  have key : ∀ ways : List Int, (∀ v ∈ ways, v = v0) → ways.foldl (orStep ps) p.sets = p.sets := by
    intro ways
    induction ways with
    | nil => intro _; rfl
    | cons v r ih =>
      intro h
      have := h v (by simp)
      subst this
      rw [List.foldl_cons, st, orW_self]
      exact ih fun u hu => h u (by simp [hu])
  intro ways hne h
  cases ways with
  | nil => exact absurd rfl hne
  | cons v r =>
    have := h v (by simp)
    subst this
    unfold orAll
    rw [List.foldl_cons, st, orW_zero _ rfl]
    exact key r fun u hu => h u (by simp [hu])

end Go.Proofs.Qxb6001162a
