import Derived.Test.Qxb6001162aW14
namespace Go.Proofs.Qxb6001162a
open Go.RowKit

/-! ### The plain side of 'groupEndsVary' -/
/-- Does the instruction save the end of the group 'g'? -/
def Inst.endOf (p : Inst) (g : Nat) : Bool := p.op == 4 && p.arg % 2 == 1 && p.arg / 2 == (g : Int)

/-- How many instructions save the end of the group 'g'. -/
def cntEnd (ps : List Inst) (g : Nat) : Nat := ps.countP fun p => p.endOf g

/-- The targets of the assertions. -/
def asX (ps : List Inst) : List Int := (ps.filter fun p => p.op == 3).map Inst.x

theorem asX_snoc (ps : List Inst) (p : Inst) : asX (ps ++ [p]) = asX ps ++ (if p.op = 3 then [p.x] else []) := by
  unfold asX
  rw [List.filter_append, List.map_append]
  congr 1
  by_cases h : p.op = 3 <;> simp [h]

theorem asX_length (ps : List Inst) : (asX ps).length ≤ ps.length := by
  unfold asX
  rw [List.length_map]
  exact List.length_filter_le _ _

theorem cntEnd_snoc (ps : List Inst) (p : Inst) (g : Nat) : cntEnd (ps ++ [p]) g = cntEnd ps g + if p.endOf g = true then 1 else 0 := by
  unfold cntEnd
  rw [List.countP_append, List.countP_singleton]

def In (stack : List Int) (seen : List Bool) (u : Int) : Prop := u ∈ stack ∨ seen[u.toNat]? = some true

def Goes (q : Inst) (R : Int → Prop) : Prop := (q.op = 2 → R q.x ∧ R q.y) ∧ (q.op = 4 → ¬ q.arg % 2 = 1 ∧ R q.x) ∧ ((q.op = 3 ∨ q.op = 5) → R q.x)

theorem Goes.mono {q : Inst} {R S : Int → Prop} (h : Goes q R) (hs : ∀ u, R u → S u) : Goes q S :=
  ⟨fun a => ⟨hs _ (h.1 a).1, hs _ (h.1 a).2⟩, fun a => ⟨(h.2.1 a).1, hs _ (h.2.1 a).2⟩, fun a => hs _ (h.2.2 a)⟩

structure PV (ps : List Inst) (n : Nat) (stack : List Int) (seen : List Bool) : Prop where
  lseen : seen.length = n
  rng : ∀ v ∈ stack, 0 ≤ v ∧ v < n
  bst : stack.length + 2 * fal seen ≤ 3 * n
  asr : ∀ p ∈ ps, p.op = 3 → In stack seen p.x
  cls : ∀ (i : Nat) (q : Inst), seen[i]? = some true → ps[i]? = some q → Goes q (In stack seen)

theorem PV.start {ps : List Inst} {slots : Int} {n : Nat} (hv : valid ps slots = true) (hn : ps.length = n) : PV ps n (asX ps) (List.replicate n false) where
  lseen := by simp
  rng := by
    intro v h
    unfold asX at h
    obtain ⟨p, hp, rfl⟩ := List.mem_map.1 h
    rw [List.mem_filter] at hp
    obtain ⟨i, hi⟩ := List.getElem?_of_mem hp.1
    exact (ok_assert (ok_of_valid hv hn hi) (by simpa using hp.2)).1
  bst := by have := asX_length ps; rw [fal_replicate]; omega
  asr := fun p hp h3 => .inl (by unfold asX; exact List.mem_map.2 ⟨p, List.mem_filter.2 ⟨hp, by simp [h3]⟩, rfl⟩)
  cls := fun i q hi => by rw [List.getElem?_replicate] at hi; split at hi <;> cases hi

theorem In.pop {st : List Int} {v : Int} {seen : List Bool} (hs : seen[v.toNat]? = some true) {u : Int} (h : In (st ++ [v]) seen u) : In st seen u := by
  rcases h with h | h
  · rcases List.mem_append.1 h with h | h
    · exact .inl h
    · simp at h; subst h; exact .inr hs
  · exact .inr h

theorem PV.popSeen {ps : List Inst} {n : Nat} {st : List Int} {v : Int} {seen : List Bool} (h : PV ps n (st ++ [v]) seen) (hs : seen[v.toNat]? = some true) : PV ps n st seen where
  lseen := h.lseen
  rng := fun u hu => h.rng u (by simp [hu])
  bst := by have := h.bst; simp at this; omega
  asr := fun p hp h3 => (h.asr p hp h3).pop hs
  cls := fun i q hi hq => (h.cls i q hi hq).mono fun _ hu => hu.pop hs

theorem In.push {st news : List Int} {v : Int} {seen : List Bool} (hv : v.toNat < seen.length) {u : Int} (h : In (st ++ [v]) seen u) : In (st ++ news) (seen.set v.toNat true) u := by
  have key : ∀ j : Nat, seen[j]? = some true → (seen.set v.toNat true)[j]? = some true := by
    intro j hj
    by_cases e : j = v.toNat
    · subst e; rw [List.getElem?_set, if_pos rfl, if_pos hv]
    · rw [List.getElem?_set_ne (Ne.symm e)]; exact hj
  rcases h with h | h
  · rcases List.mem_append.1 h with h | h
    · exact .inl (by simp [h])
    · simp at h; subst h; exact .inr (by rw [List.getElem?_set, if_pos rfl, if_pos hv])
  · exact .inr (key _ h)

theorem PV.push {ps : List Inst} {n : Nat} {st : List Int} {v : Int} {seen : List Bool} (h : PV ps n (st ++ [v]) seen) (hv : 0 ≤ v ∧ v < n) (hs : seen[v.toNat]? = some false) {q : Inst} (hq : ps[v.toNat]? = some q) (news : List Int)
    (hr : ∀ u ∈ news, 0 ≤ u ∧ u < n) (hl : news.length ≤ 2) (hg : Goes q (· ∈ news)) : PV ps n (st ++ news) (seen.set v.toNat true) := by
  have hvl : v.toNat < seen.length := by rw [h.lseen]; omega
  refine ⟨by rw [List.length_set]; exact h.lseen, ?_, ?_, fun p hp h3 => (h.asr p hp h3).push hvl, ?_⟩
  · intro u hu
    rcases List.mem_append.1 hu with hu | hu
    · exact h.rng u (by simp [hu])
    · exact hr u hu
  · have := h.bst; have := fal_set_true seen _ hs; simp at *; omega
  · intro i r hi hir
    by_cases e : i = v.toNat
    · subst e
      rw [hq] at hir; cases hir
      exact hg.mono fun u hu => .inl (by simp [hu])
    · rw [List.getElem?_set_ne (Ne.symm e)] at hi
      exact (h.cls i r hi hir).mono fun u hu => hu.push hvl

/-- WHAT 'false' SAYS: a group has at most one end; and no end of a group is reached behind an assertion. -/
def Steady (ps : List Inst) : Prop := (∀ g, cntEnd ps g ≤ 1) ∧ ∃ R : Int → Prop, (∀ p ∈ ps, p.op = 3 → R p.x) ∧ ∀ (u : Int) (q : Inst), R u → ps[u.toNat]? = some q → Goes q R

theorem PV.steady {ps : List Inst} {n : Nat} {seen : List Bool} (h : PV ps n [] seen) (hc : ∀ g, cntEnd ps g ≤ 1) : Steady ps := by
  refine ⟨hc, fun u => seen[u.toNat]? = some true, fun p hp h3 => ?_, fun u q hu hq => (h.cls _ q hu hq).mono fun r hr => ?_⟩
  · rcases h.asr p hp h3 with a | a
    · cases a
    · exact a
  · rcases hr with a | a
    · cases a
    · exact a

/-- The ways of a steady program: an armed one is behind an assertion. -/
def G7 (R : Int → Prop) (n : Nat) (v : Int) : Prop := (0 ≤ v ∧ v < 2 * n) ∧ (v % 2 = 1 → R (v / 2))

theorem G7_closed {ps : List Inst} {slots : Int} {n : Nat} (hv : valid ps slots = true) (hn : ps.length = n) {R : Int → Prop} (h1 : ∀ p ∈ ps, p.op = 3 → R p.x) (h2 : ∀ (u : Int) (q : Inst), R u → ps[u.toNat]? = some q → Goes q R) : Closed ps (G7 R n) := by
  intro v p hg hp
  have hr := closed_range hv hn v p hg.1 hp
  have hR : v % 2 = 1 → Goes p R := fun h => h2 _ p (hg.2 h) hp
  have e : ∀ x : Int, (2 * x + v % 2) % 2 = 1 → v % 2 = 1 := by intro x h; omega
  have d : ∀ x : Int, v % 2 = 1 → (2 * x + v % 2) / 2 = x := by intro x h; omega
  refine ⟨fun h => ⟨⟨(hr.1 h).1, fun k => ?_⟩, (hr.1 h).2, fun k => ?_⟩, fun h => ⟨hr.2.1 h, fun k => ?_⟩, fun h => ⟨fun a b => ⟨(hr.2.2 h).1 a b, fun k => ?_⟩, fun a => ⟨(hr.2.2 h).2 a, fun k => ?_⟩⟩⟩
  · rw [d _ (e _ k)]; exact ((hR (e _ k)).1 h).2
  · rw [d _ (e _ k)]; exact ((hR (e _ k)).1 h).1
  · rw [d _ (e _ k)]
    rcases h with h | h
    · exact ((hR (e _ k)).2.1 h).2
    · exact (hR (e _ k)).2.2 (.inr h)
  · omega
  · rw [show (2 * p.x + 1) / 2 = p.x by omega]; exact h1 p (List.mem_of_getElem? hp) h

/-- An end that is named is reached unarmed, and is the only one of its group. -/
theorem steady_end {ps : List Inst} {n : Nat} {R : Int → Prop} {ways ends : List Int} (hc : ∀ g, cntEnd ps g ≤ 1) (h2 : ∀ (u : Int) (q : Inst), R u → ps[u.toNat]? = some q → Goes q R) (he : EndsOk ps ends ways) (hg : ∀ u ∈ ways, G7 R n u)
    {g : Nat} {u : Int} (hu : ends[g]? = some u) : u = -1 ∨ (0 ≤ u ∧ u < 2 * n ∧ u % 2 = 0 ∧ cntEnd ps g = 1) := by
  rcases he g u hu with a | ⟨a, p, hp, hop, har⟩
  · exact .inl a
  · right
    have hgu := hg u a
    refine ⟨hgu.1.1, hgu.1.2, ?_, ?_⟩
    · by_cases h : u % 2 = 1
      · have := ((h2 _ p (hgu.2 h) hp).2.1 hop).1
        omega
      · omega
    · have h1 : 0 < cntEnd ps g := by
        unfold cntEnd
        rw [List.countP_pos_iff]
        refine ⟨p, List.mem_of_getElem? hp, ?_⟩
        have e1 : p.arg % 2 = 1 := by omega
        have e2 : p.arg / 2 = (g : Int) := by omega
        simp [Inst.endOf, hop, e1, e2]
      have := hc g
      omega

end Go.Proofs.Qxb6001162a
