import Derived.Test.Qxb6001484aW7
namespace Go.Proofs.Qxb6001484a
open Go.RowKit

theorem isSl_empty (w : World) (a : Option Addr) : IsSl Value.string w a 0 [] := ⟨rfl, fun h => absurd h (by omega)⟩
theorem eqs_refl (xs : List ByteArray) : eqs xs xs = true := by simp [eqs]
theorem eqs_symm (xs ys : List ByteArray) : eqs ys xs = eqs xs ys := by unfold eqs; rw [decide_eq_decide]; exact ⟨Eq.symm, Eq.symm⟩
theorem eqs_trans {xs ys zs : List ByteArray} (h1 : eqs xs ys = true) (h2 : eqs ys zs = true) : eqs xs zs = true := by
  unfold eqs at *
  rw [decide_eq_true_iff] at *
  exact h1.trans h2

set_option maxHeartbeats 3200000 in
set_option maxRecDepth 100000 in
theorem law6_any (a1 a2 a3 : Option Addr) (n1 c1 n2 c2 n3 c3 : Nat) (xs ys zs : List ByteArray) (w : World) (h1 : IsSl Value.string w a1 n1 xs) (h2 : IsSl Value.string w a2 n2 ys) (h3 : IsSl Value.string w a3 n3 zs) (k1 : n1 ≤ c1) (k2 : n2 ≤ c2) (k3 : n3 ≤ c3) :
    Calls Try.prog 6 #[.slice a1 n1 c1, .slice a2 n2 c2, .slice a3 n3 c3] w fun e w' => e = .returned (.bool true) ∧ Below w.heap.size w w' := by
  have H1 := hide h1
  have H2 := hide h2
  have H3 := hide h3
  clear h1 h2 h3
  go_enter Try.func6, Try.ntmps6
  go_wp2_with fail
  refine (bytes14 a1 a2 a3 n1 c1 n2 c2 n3 c3 xs ys zs w H1.out H2.out H3.out).mono ?_
  rintro e w' ⟨r, rfl, rfl⟩
  cases r
  · go_wp2_with fail
    go_ret
    exact ⟨rfl, Below.refl _ _⟩
  by_cases l1 : 65536 < n1
  · go_wp2_with fail
    go_ret
    exact ⟨rfl, Below.refl _ _⟩
  by_cases l2 : 65536 < n2
  · go_wp2_with fail
    go_ret
    exact ⟨rfl, Below.refl _ _⟩
  by_cases l3 : 65536 < n3
  · go_wp2_with fail
    go_ret
    exact ⟨rfl, Below.refl _ _⟩
  go_wp2_with fail
  refine (strBytes_any a1 n1 c1 xs w H1.out).mono ?_
  rintro e w' ⟨z1, rfl, rfl, p1, q1⟩
  go_wp2_with fail
  refine (strBytes_any a2 n2 c2 ys w H2.out).mono ?_
  rintro e w' ⟨z2, rfl, rfl, p2, q2⟩
  go_wp2_with fail
  refine (strBytes_any a3 n3 c3 zs w H3.out).mono ?_
  rintro e w' ⟨z3, rfl, rfl, p3, q3⟩
  by_cases hz : 1048576 < z1 + z2 + z3
  · go_wp2_with fail
    go_ret
    exact ⟨rfl, Below.refl _ _⟩
  go_wp2_with fail
  refine (cloneStrings_any a1 n1 c1 xs w H1.out k1 (by omega)).mono ?_
  rintro e w1 ⟨b1, d1, rfl, hb1, _, hB1⟩
  have G1 := hide (clone_isSl H1.out.1 hB1)
  have J2 := hide (H2.out.below hb1)
  have J3 := hide (H3.out.below hb1)
  have Hb1 := hide hb1
  clear hB1 hb1
  go_wp2_with fail
  refine (cloneStrings_any a2 n2 c2 ys w1 J2.out k2 (by omega)).mono ?_
  rintro e w2 ⟨b2, d2, rfl, hb2, _, hB2⟩
  have G2 := hide (clone_isSl H2.out.1 hB2)
  have G1' := hide (G1.out.below hb2)
  have J3' := hide (J3.out.below hb2)
  have Hb2 := hide (Hb1.out.trans (hb2.mono Hb1.out.size))
  clear hB2 hb2
  go_wp2_with fail
  refine (cloneStrings_any a3 n3 c3 zs w2 J3'.out k3 (by omega)).mono ?_
  rintro e w3 ⟨b3, d3, rfl, hb3, _, hB3⟩
  have F3 := hide (clone_isSl H3.out.1 hB3)
  have F1 := hide (G1'.out.below hb3)
  have F2 := hide (G2.out.below hb3)
  have Hb3 := hide (Hb2.out.trans (hb3.mono Hb2.out.size))
  clear hB3 hb3 G1 G1' G2 J2 J3 J3'
  go_wp2_with fail
  refine (zsame_any b1 b1 n1 d1 n1 d1 xs xs w3 F1.out F1.out (by omega)).mono ?_
  rintro e w' ⟨rfl, rfl⟩
  rw [eqs_refl]
  go_wp2_with fail
  refine (zsame_any b1 b2 n1 d1 n2 d2 xs ys w3 F1.out F2.out (by omega)).mono ?_
  rintro e w' ⟨rfl, rfl⟩
  go_wp2_with fail
  refine (zsame_any b2 b1 n2 d2 n1 d1 ys xs w3 F2.out F1.out (by omega)).mono ?_
  rintro e w' ⟨rfl, rfl⟩
  rw [eqs_symm xs ys]
  have fin : ∀ o1 o2, Below w.heap.size w ((w3.alloc o1).alloc o2) := fun o1 o2 => (Hb3.out.alloc Hb3.out.size _).alloc (by rw [World.size_alloc]; have := Hb3.out.size; omega) _
  have Fin := hide fin
  clear fin
  cases hxy : eqs xs ys
  · have hc : (false != false) = false := rfl
    go_wp2_with fail
    refine (zsame_any b1 b2 n1 d1 n2 d2 xs ys w3 F1.out F2.out (by omega)).mono ?_
    rintro e w' ⟨rfl, rfl⟩
    rw [hxy]
    go_wp2_with fail
    refine (zsame_any none (some ⟨w3.heap.size, 0, none⟩) 0 0 0 0 [] [] _ (isSl_empty _ _) (isSl_empty _ _) (by omega)).mono ?_
    rintro e w' ⟨rfl, rfl⟩
    rw [eqs_refl]
    go_wp2_with fail
    refine (zsame_any (some ⟨w3.heap.size + 1, 0, none⟩) none 0 0 0 0 [] [] _ (isSl_empty _ _) (isSl_empty _ _) (by omega)).mono ?_
    rintro e w' ⟨rfl, rfl⟩
    rw [eqs_refl]
    go_wp2_with fail
    go_ret
    exact ⟨rfl, Fin.out _ _⟩
  · go_wp2_with fail
    refine (zsame_any b1 b2 n1 d1 n2 d2 xs ys w3 F1.out F2.out (by omega)).mono ?_
    rintro e w' ⟨rfl, rfl⟩
    rw [hxy]
    go_wp2_with fail
    refine (zsame_any b2 b3 n2 d2 n3 d3 ys zs w3 F2.out F3.out (by omega)).mono ?_
    rintro e w' ⟨rfl, rfl⟩
    cases hyz : eqs ys zs
    · go_wp2_with fail
      refine (zsame_any none (some ⟨w3.heap.size, 0, none⟩) 0 0 0 0 [] [] _ (isSl_empty _ _) (isSl_empty _ _) (by omega)).mono ?_
      rintro e w' ⟨rfl, rfl⟩
      rw [eqs_refl]
      go_wp2_with fail
      refine (zsame_any (some ⟨w3.heap.size + 1, 0, none⟩) none 0 0 0 0 [] [] _ (isSl_empty _ _) (isSl_empty _ _) (by omega)).mono ?_
      rintro e w' ⟨rfl, rfl⟩
      rw [eqs_refl]
      go_wp2_with fail
      go_ret
      exact ⟨rfl, Fin.out _ _⟩
    · have hxz := hide (eqs_trans hxy hyz)
      go_wp2_with fail
      refine (zsame_any b1 b3 n1 d1 n3 d3 xs zs w3 F1.out F3.out (by omega)).mono ?_
      rintro e w' ⟨rfl, rfl⟩
      rw [hxz.out]
      go_wp2_with fail
      refine (zsame_any none (some ⟨w3.heap.size, 0, none⟩) 0 0 0 0 [] [] _ (isSl_empty _ _) (isSl_empty _ _) (by omega)).mono ?_
      rintro e w' ⟨rfl, rfl⟩
      rw [eqs_refl]
      go_wp2_with fail
      refine (zsame_any (some ⟨w3.heap.size + 1, 0, none⟩) none 0 0 0 0 [] [] _ (isSl_empty _ _) (isSl_empty _ _) (by omega)).mono ?_
      rintro e w' ⟨rfl, rfl⟩
      rw [eqs_refl]
      go_wp2_with fail
      go_ret
      exact ⟨rfl, Fin.out _ _⟩

end Go.Proofs.Qxb6001484a
