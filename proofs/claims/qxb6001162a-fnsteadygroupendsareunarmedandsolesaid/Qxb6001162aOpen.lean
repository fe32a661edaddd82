import Derived.Test.Qxb6001162aW14
import Derived.ProofKit
import Derived.OpenShut
import Derived.Deep.Slices
namespace Go.Proofs.Qxb6001162a
open Go.RowKit Go.Deep

theorem cells5 : Try.prog.cellsOf 5 = 1 := by kernel_rfl
theorem cells4 : Try.prog.cellsOf 4 = 1 := by kernel_rfl
theorem cells21 : Try.prog.cellsOf 21 = 1 := by kernel_rfl
theorem cells31 : Try.prog.cellsOf 31 = 1 := by kernel_rfl
theorem cells32 : Try.prog.cellsOf 32 = 4 := by kernel_rfl
theorem cells34 : Try.prog.cellsOf 34 = 10 := by kernel_rfl

theorem list10 {α : Type} (l : List α) (h : l.length = 10) : ∃ a b c d e f g h i j, l = [a, b, c, d, e, f, g, h, i, j] := by
  match l, h with
  | [a, b, c, d, e, f, g, h, i, j], _ => exact ⟨a, b, c, d, e, f, g, h, i, j, rfl⟩

theorem wf_u8 {n : Int} (h : (Lit.int .u8 n).wf = true) : 0 ≤ n ∧ n ≤ 255 := by have := bounds_u8 h; omega
theorem wf_i32 {n : Int} (h : (Lit.int .i32 n).wf = true) : -2147483648 ≤ n ∧ n ≤ 2147483647 := by have := bounds_i32 h; omega
theorem wf_u64 {n : Int} (h : (Lit.int .u64 n).wf = true) : 0 ≤ n ∧ n < 18446744073709551616 := by have := bounds_u64 h; omega

variable {H : Type} {enc : TypeId × Value → H} {w : World} {base : Nat} {spare : Nat → Bool} {held : Bool}

theorem get_u8 {fuel : Nat} {v : Value} {y : Option (DataW H × List MemPlace)} (hy : y.isSome = true) (h : DataW.trod enc Try.prog w base spare held fuel 5 [v] = y) : ∃ n, v = .int .u8 n ∧ 0 ≤ n ∧ n ≤ 255 := by
  obtain ⟨x, rfl⟩ := Option.isSome_iff_exists.1 hy
  obtain ⟨n, e, _, hw⟩ := DataW.trod_int Try.underlying5 h
  simp at e; exact ⟨n, e, wf_u8 hw⟩
theorem get_i32 {fuel : Nat} {v : Value} {y : Option (DataW H × List MemPlace)} (hy : y.isSome = true) (h : DataW.trod enc Try.prog w base spare held fuel 21 [v] = y) : ∃ n, v = .int .i32 n ∧ -2147483648 ≤ n ∧ n ≤ 2147483647 := by
  obtain ⟨x, rfl⟩ := Option.isSome_iff_exists.1 hy
  obtain ⟨n, e, _, hw⟩ := DataW.trod_int Try.underlying21 h
  simp at e; exact ⟨n, e, wf_i32 hw⟩
theorem get_u64 {fuel : Nat} {v : Value} {y : Option (DataW H × List MemPlace)} (hy : y.isSome = true) (h : DataW.trod enc Try.prog w base spare held fuel 31 [v] = y) : ∃ n, v = .int .u64 n ∧ 0 ≤ n ∧ n < 18446744073709551616 := by
  obtain ⟨x, rfl⟩ := Option.isSome_iff_exists.1 hy
  obtain ⟨n, e, _, hw⟩ := DataW.trod_int Try.underlying31 h
  simp at e; exact ⟨n, e, wf_u64 hw⟩
theorem get_bool {fuel : Nat} {v : Value} {y : Option (DataW H × List MemPlace)} (hy : y.isSome = true) (h : DataW.trod enc Try.prog w base spare held fuel 4 [v] = y) : ∃ b, v = .bool b := by
  obtain ⟨x, rfl⟩ := Option.isSome_iff_exists.1 hy
  obtain ⟨n, e, _⟩ := DataW.trod_bool Try.underlying4 h
  simp at e; exact ⟨n, e⟩

theorem get_set {fuel : Nat} {a b c d : Value} {y : Option (DataW H × List MemPlace)} (hy : y.isSome = true) (h : DataW.trod enc Try.prog w base spare held fuel 32 [a, b, c, d] = y) :
    ∃ s0 s1 s2 s3, a = .int .u64 s0 ∧ b = .int .u64 s1 ∧ c = .int .u64 s2 ∧ d = .int .u64 s3 ∧ (0 ≤ s0 ∧ s0 < 18446744073709551616) ∧ (0 ≤ s1 ∧ s1 < 18446744073709551616) ∧ (0 ≤ s2 ∧ s2 < 18446744073709551616) ∧ (0 ≤ s3 ∧ s3 < 18446744073709551616) := by
  obtain ⟨x, rfl⟩ := Option.isSome_iff_exists.1 hy
  obtain ⟨xs, m, _, _, _, hl, hx⟩ := DataW.trod_array Try.underlying32 h
  rw [cells31] at hx
  have k : ∀ i, i < 4 → (xs[i]?).isSome = true := fun i hi => by rw [List.getElem?_eq_getElem (by omega)]; rfl
  obtain ⟨s0, e0, b0⟩ := get_u64 (k 0 (by omega)) (hx 0 (by omega))
  obtain ⟨s1, e1, b1⟩ := get_u64 (k 1 (by omega)) (hx 1 (by omega))
  obtain ⟨s2, e2, b2⟩ := get_u64 (k 2 (by omega)) (hx 2 (by omega))
  obtain ⟨s3, e3, b3⟩ := get_u64 (k 3 (by omega)) (hx 3 (by omega))
  exact ⟨s0, s1, s2, s3, e0, e1, e2, e3, b0, b1, b2, b3⟩

theorem get_inst {fuel : Nat} {cs : List Value} {x : DataW H × List MemPlace} (h : DataW.trod enc Try.prog w base spare held fuel 34 cs = some x) : ∃ p : Inst, cs = p.cells ∧ p.wf ∧ p.wfs := by
  obtain ⟨xs, n, _, _, hl, hlx, hf⟩ := DataW.trod_struct Try.underlying34 h
  rw [cells34] at hl
  obtain ⟨c0, c1, c2, c3, c4, c5, c6, c7, c8, c9, rfl⟩ := list10 cs hl
  have k : ∀ i, i < 7 → (xs[i]?).isSome = true := fun i hi => by rw [List.getElem?_eq_getElem (by rw [hlx]; exact hi)]; rfl
  have g0 : DataW.trod enc Try.prog w base spare held n 5 (([c0, c1, c2, c3, c4, c5, c6, c7, c8, c9].drop 0).take (Try.prog.cellsOf 5)) = xs[0]? := hf 0 _ rfl
  rw [cells5] at g0
  have g1 : DataW.trod enc Try.prog w base spare held n 4 (([c0, c1, c2, c3, c4, c5, c6, c7, c8, c9].drop 1).take (Try.prog.cellsOf 4)) = xs[1]? := hf 1 _ rfl
  rw [cells4] at g1
  have g2 : DataW.trod enc Try.prog w base spare held n 4 (([c0, c1, c2, c3, c4, c5, c6, c7, c8, c9].drop 2).take (Try.prog.cellsOf 4)) = xs[2]? := hf 2 _ rfl
  rw [cells4] at g2
  have g3 : DataW.trod enc Try.prog w base spare held n 21 (([c0, c1, c2, c3, c4, c5, c6, c7, c8, c9].drop 3).take (Try.prog.cellsOf 21)) = xs[3]? := hf 3 _ rfl
  rw [cells21] at g3
  have g4 : DataW.trod enc Try.prog w base spare held n 21 (([c0, c1, c2, c3, c4, c5, c6, c7, c8, c9].drop 4).take (Try.prog.cellsOf 21)) = xs[4]? := hf 4 _ rfl
  rw [cells21] at g4
  have g5 : DataW.trod enc Try.prog w base spare held n 21 (([c0, c1, c2, c3, c4, c5, c6, c7, c8, c9].drop 5).take (Try.prog.cellsOf 21)) = xs[5]? := hf 5 _ rfl
  rw [cells21] at g5
  have g6 : DataW.trod enc Try.prog w base spare held n 32 (([c0, c1, c2, c3, c4, c5, c6, c7, c8, c9].drop 6).take (Try.prog.cellsOf 32)) = xs[6]? := hf 6 _ rfl
  rw [cells32] at g6
  obtain ⟨op, rfl, hop⟩ := get_u8 (k 0 (by omega)) g0
  obtain ⟨la, rfl⟩ := get_bool (k 1 (by omega)) g1
  obtain ⟨ch, rfl⟩ := get_bool (k 2 (by omega)) g2
  obtain ⟨ar, rfl, har⟩ := get_i32 (k 3 (by omega)) g3
  obtain ⟨px, rfl, hpx⟩ := get_i32 (k 4 (by omega)) g4
  obtain ⟨py, rfl, hpy⟩ := get_i32 (k 5 (by omega)) g5
  obtain ⟨s0, s1, s2, s3, rfl, rfl, rfl, rfl, b0, b1, b2, b3⟩ := get_set (k 6 (by omega)) g6
  exact ⟨⟨op, la, ch, ar, px, py, s0, s1, s2, s3⟩, rfl, ⟨hop, har, hpx, hpy⟩, b0, b1, b2, b3⟩

theorem open_prog {fuel : Nat} {a0 : Option Addr} {len cap : Nat} {x : DataW H × List MemPlace} (h : DataW.trod enc Try.prog w base spare held fuel 22 [.slice a0 len cap] = some x) : ∃ ps, IsProg w a0 len ps := by
  rcases open_slice Try.underlying22 h with ⟨hcs, _⟩ | ⟨a, len', cap', m, n, D, Pl, hcs, _, hl, _, hm, _, hx⟩
  · simp at hcs
    obtain ⟨rfl, rfl, rfl⟩ := hcs
    exact ⟨[], rfl, fun h => absurd h (by omega), by simp, by simp⟩
  · simp at hcs
    obtain ⟨rfl, rfl, rfl⟩ := hcs
    have hlm : len ≤ m := by rw [hm]; split <;> omega
    rw [cells34] at hx
    have hall : ∀ i, i < len → ∃ p : Inst, (∀ j v, p.cells[j]? = some v → w.cell? ((a.add (i * 10)).add j) = some v) ∧ p.wf ∧ p.wfs := by
      intro i hi
      obtain ⟨cs', h1, h2⟩ := hx i (by omega)
      obtain ⟨p, rfl, hw, hws⟩ := get_inst h2
      obtain ⟨_, hlen, hc⟩ := World.cells?_some h1
      refine ⟨p, fun j v hj => ?_, hw, hws⟩
      rw [hc j (by have := (List.getElem?_eq_some_iff.1 hj).1; rw [p.cells_len] at this; exact this)]
      exact hj
    by_cases h0 : len = 0
    · subst h0
      exact ⟨[], rfl, fun h => absurd h (by omega), by simp, by simp⟩
    have hspot : a.spot = none := by
      obtain ⟨p, hc, _⟩ := hall 0 (by omega)
      have := World.cell?_spot (hc 0 _ rfl)
      simpa [Addr.add] using this
    obtain ⟨b, off, spot⟩ := a
    simp only at hspot
    subst hspot
    obtain ⟨f, hf⟩ := Classical.skolem.1 (fun i : Nat => show ∃ p : Inst, i < len → (∀ j v, p.cells[j]? = some v → w.cell? (((⟨b, off, none⟩ : Addr).add (i * 10)).add j) = some v) ∧ p.wf ∧ p.wfs by
      by_cases hi : i < len
      · obtain ⟨p, hp⟩ := hall i hi; exact ⟨p, fun _ => hp⟩
      · exact ⟨⟨0, false, false, 0, 0, 0, 0, 0, 0, 0⟩, fun h => absurd h hi⟩)
    refine ⟨(List.range len).map f, by simp, fun _ => ⟨b, off, rfl, ?_⟩, ?_, ?_⟩
    · intro i p hp j v hv
      rw [List.getElem?_map] at hp
      by_cases hi : i < len
      · rw [List.getElem?_range hi] at hp
        simp at hp
        subst hp
        have := (hf i hi).1 j v hv
        rw [Addr.add_mid, Addr.add_mid] at this
        exact this
      · rw [List.getElem?_eq_none (by simp; omega)] at hp
        cases hp
    · intro p hp
      obtain ⟨i, hi, rfl⟩ := List.mem_map.1 hp
      exact (hf i (List.mem_range.1 hi)).2.1
    · intro p hp
      obtain ⟨i, hi, rfl⟩ := List.mem_map.1 hp
      exact (hf i (List.mem_range.1 hi)).2.2

end Go.Proofs.Qxb6001162a
