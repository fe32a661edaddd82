import Derived.Test.Qxb6001484aW2
namespace Go.Proofs.Qxb6001484a
open Go.RowKit

theorem IsSl.below {α : Type} {f : α → Value} {w w' : World} {a : Option Addr} {n : Nat} {xs : List α} (h : IsSl f w a n xs) (hb : Below w.heap.size w w') : IsSl f w' a n xs :=
  ⟨h.1, fun h0 => by
    obtain ⟨b, off, e, hl, hc⟩ := h.2 h0
    exact ⟨b, off, e, by have := hb.size; omega, fun i x hx => by rw [hb.cell (p := ⟨b, off + i, none⟩) hl]; exact hc i x hx⟩⟩

theorem clone_isSl {α : Type} {f : α → Value} {t : Nat} {xs : List α} {n : Nat} {w w' : World} {a : Option Addr} (hl : xs.length = n) (h : 0 < n → a = some ⟨w.heap.size, 0, none⟩ ∧ Blk w' w.heap.size (xs.map f) t) : IsSl f w' a n xs :=
  ⟨hl, fun h0 => by
    obtain ⟨e, hB⟩ := h h0
    exact ⟨w.heap.size, 0, e, hB.lt, fun i x hx => by rw [Nat.zero_add]; exact hB.cell (by rw [List.getElem?_map, hx]; rfl)⟩⟩

/-- 'same': the two lists are one. -/
def eqs (xs ys : List ByteArray) : Bool := decide (xs = ys)

theorem eqs_no {xs ys : List ByteArray} {k : Nat} {a b : ByteArray} (ha : xs[k]? = some a) (hb : ys[k]? = some b) (h : ¬ a = b) : eqs xs ys = false := by
  unfold eqs
  rw [decide_eq_false_iff_not]
  intro e; subst e; rw [ha] at hb; cases hb; exact h rfl

theorem eqs_yes {xs ys : List ByteArray} {n : Nat} (hx : xs.length = n) (hy : ys.length = n) (h : ∀ (k : Nat) (a b : ByteArray), k < n → xs[k]? = some a → ys[k]? = some b → a = b) : eqs xs ys = true := by
  unfold eqs
  rw [decide_eq_true_iff]
  refine List.ext_getElem (by omega) fun i h1 h2 => ?_
  exact h i _ _ (by omega) (List.getElem?_eq_getElem h1) (List.getElem?_eq_getElem h2)

theorem bytes_inj {s t : ByteArray} (h : s.toList = t.toList) : s = t := by
  rw [ByteArray.toList_eq, ByteArray.toList_eq] at h
  obtain ⟨⟨a⟩⟩ := s
  obtain ⟨⟨b⟩⟩ := t
  simp at h
  rw [h]

set_option maxHeartbeats 400000 in
theorem same_any (a1 a2 : Option Addr) (n1 c1 n2 c2 : Nat) (xs ys : List ByteArray) (w : World) (h1 : IsSl Value.string w a1 n1 xs) (h2 : IsSl Value.string w a2 n2 ys) (hm : n1 ≤ 1048576) :
    Calls Try.prog 20 #[.slice a1 n1 c1, .slice a2 n2 c2] w fun e w' => e = .returned (.bool (eqs xs ys)) ∧ w = w' := by
  have H1 := hide h1
  have H2 := hide h2
  clear h1 h2
  by_cases hn : n1 = n2
  · subst hn
    have e1 : ((n1 : Int) != (n1 : Int)) = false := by simp
    go_enter Try.func20, Try.ntmps20
    go_wp2_with fail
    go_loop [14] (fun i => ∃ k : Nat, k ≤ n1 ∧ i = .int .i64 k ∧ Hid (∀ (j : Nat) (a b : ByteArray), j < k → xs[j]? = some a → ys[j]? = some b → a = b)) (fun i => n1 - (intOf i).toNat)
    case atStart => exact ⟨0, by omega, rfl, fun j a b hj => absurd hj (by omega)⟩
    case round =>
      obtain ⟨k, hk, rfl, HJ⟩ := hrel
      by_cases hlt : k < n1
      · obtain ⟨b1, o1, q1, _, hq1⟩ := H1.out.2 (by omega)
        obtain ⟨b2, o2, q2, _, hq2⟩ := H2.out.2 (by omega)
        subst q1
        subst q2
        obtain ⟨s, hs⟩ : ∃ s, xs[k]? = some s := ⟨_, List.getElem?_eq_getElem (by rw [H1.out.1]; exact hlt)⟩
        obtain ⟨t, ht⟩ : ∃ t, ys[k]? = some t := ⟨_, List.getElem?_eq_getElem (by rw [H2.out.1]; exact hlt)⟩
        have d1 := hq1 k s hs
        have d2 := hq2 k t ht
        have Hs := hide hs
        have Ht := hide ht
        clear hq1 hq2 hs ht
        by_cases hst : s = t
        · have HN : Hid (∀ (j : Nat) (a b : ByteArray), j < k + 1 → xs[j]? = some a → ys[j]? = some b → a = b) := by
            intro j a b hj ha hb
            by_cases e : j = k
            · subst e; rw [Hs.out] at ha; rw [Ht.out] at hb; cases ha; cases hb; exact hst
            · exact HJ.out j a b (by omega) ha hb
          subst hst
          go_wp2_with fail
          exact ⟨⟨k + 1, by omega, by go_num, HN⟩, by simp [intOf]; omega⟩
        · have HN := hide (eqs_no Hs.out Ht.out hst)
          have e2 : (s.toList == t.toList) = false := beq_eq_false_iff_ne.2 (fun e => hst (bytes_inj e))
          clear hst
          go_wp2_with fail
          go_ret
          exact ⟨by rw [HN.out]; rfl, rfl⟩
      · have HN := hide (eqs_yes H1.out.1 H2.out.1 (fun j a b hj => HJ.out j a b (by omega)))
        go_wp2_with fail
        go_ret
        exact ⟨by rw [HN.out]; rfl, rfl⟩
  · have e1 : ((n1 : Int) != (n2 : Int)) = true := by simp; omega
    have HN : Hid (eqs xs ys = false) := by
      unfold Hid eqs
      rw [decide_eq_false_iff_not]
      intro e; subst e
      exact hn (H1.out.1.symm.trans H2.out.1)
    clear hn
    go_enter Try.func20, Try.ntmps20
    go_wp2_with fail
    go_ret
    exact ⟨by rw [HN.out]; rfl, rfl⟩

theorem zsame_any (a1 a2 : Option Addr) (n1 c1 n2 c2 : Nat) (xs ys : List ByteArray) (w : World) (h1 : IsSl Value.string w a1 n1 xs) (h2 : IsSl Value.string w a2 n2 ys) (hm : n1 ≤ 1048576) :
    Calls Try.prog 17 #[.slice a1 n1 c1, .slice a2 n2 c2] w fun e w' => e = .returned (.bool (eqs xs ys)) ∧ w = w' := by
  have HC := hide (same_any a1 a2 n1 c1 n2 c2 xs ys w h1 h2 hm)
  clear h1 h2
  go_enter Try.func17, Try.ntmps17
  go_wp2_with fail
  refine HC.out.mono ?_
  rintro e w' ⟨rfl, rfl⟩
  go_wp2_with fail
  go_ret
  exact ⟨rfl, rfl⟩

set_option maxHeartbeats 400000 in
theorem strBytes_any (a : Option Addr) (n c : Nat) (xs : List ByteArray) (w : World) (h : IsSl Value.string w a n xs) :
    Calls Try.prog 15 #[.slice a n c] w fun e w' => ∃ z : Int, e = .returned (.int .i64 z) ∧ w = w' ∧ 0 ≤ z ∧ z ≤ 1048577 := by
  have H1 := hide h
  clear h
  by_cases h1 : 65536 < n
  · go_enter Try.func15, Try.ntmps15
    go_wp2_with fail
    go_ret
    exact ⟨_, rfl, rfl, by omega, by omega⟩
  have h2 : 16 * (n : Int) ≤ 1048576 := by omega
  go_enter Try.func15, Try.ntmps15
  go_wp2_with fail
  go_loop [3, 4] (fun z i => ∃ (k : Nat) (y : Int), k ≤ n ∧ i = .int .i64 k ∧ z = .int .i64 y ∧ 0 ≤ y ∧ y ≤ 1048576) (fun _ i => n - (intOf i).toNat)
  case atStart => exact ⟨0, _, by omega, rfl, rfl, by omega, by omega⟩
  case round =>
    obtain ⟨k, y, hk, rfl, rfl, hy0, hy1⟩ := hrel
    by_cases hlt : k < n
    · obtain ⟨b1, o1, q1, _, hq1⟩ := H1.out.2 (by omega)
      subst q1
      obtain ⟨s, hs⟩ : ∃ s, xs[k]? = some s := ⟨_, List.getElem?_eq_getElem (by rw [H1.out.1]; exact hlt)⟩
      have d1 := hq1 k s hs
      clear hq1 hs
      by_cases hs1 : 1048576 < s.size
      · go_wp2_with fail
        go_ret
        exact ⟨_, rfl, rfl, by omega, by omega⟩
      by_cases hs2 : 1048576 < y + s.size
      · go_wp2_with fail
        go_ret
        exact ⟨_, rfl, rfl, by omega, by omega⟩
      · go_wp2_with fail
        exact ⟨⟨k + 1, _, by omega, by go_num, rfl, by omega, by omega⟩, by simp [intOf]; omega⟩
    · go_wp2_with fail
      go_ret
      exact ⟨_, rfl, rfl, by omega, by omega⟩

end Go.Proofs.Qxb6001484a
