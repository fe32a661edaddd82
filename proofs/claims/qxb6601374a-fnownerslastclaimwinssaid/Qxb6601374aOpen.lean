import Derived.Test.Qxb6601374aW10
import Derived.ProofKit
import Derived.OpenShut
import Derived.Deep.Slices
namespace Go.Proofs.Qxb6601374a
open Go.RowKit Go.Deep

theorem cells3 : Try.prog.cellsOf 3 = 1 := by kernel_rfl
theorem cells9 : Try.prog.cellsOf 9 = 1 := by kernel_rfl
theorem cells30 : Try.prog.cellsOf 30 = 1 := by kernel_rfl
theorem cells32 : Try.prog.cellsOf 32 = 2 := by kernel_rfl
theorem cells33 : Try.prog.cellsOf 33 = 2 := by kernel_rfl

theorem list2 {α : Type} (l : List α) (h : l.length = 2) : ∃ a b, l = [a, b] := by
  match l, h with
  | [a, b], _ => exact ⟨a, b, rfl⟩

variable {H : Type} {enc : TypeId × Value → H} {w : World} {base : Nat} {spare : Nat → Bool} {held : Bool}

theorem get_int {fuel : Nat} {v : Value} {y : Option (DataW H × List MemPlace)} (hy : y.isSome = true) (h : DataW.trod enc Try.prog w base spare held fuel 3 [v] = y) : ∃ n, v = .int .i64 n := by
  obtain ⟨x, rfl⟩ := Option.isSome_iff_exists.1 hy
  obtain ⟨n, e, _⟩ := DataW.trod_int Try.underlying3 h
  simp at e; exact ⟨n, e⟩

theorem get_range {fuel : Nat} {cs : List Value} {x : DataW H × List MemPlace} (h : DataW.trod enc Try.prog w base spare held fuel 33 cs = some x) : ∃ r : Rg, cs = rc r := by
  obtain ⟨xs, m, _, _, hl, hxl, hx⟩ := DataW.trod_array Try.underlying33 h
  rw [cells33] at hl
  obtain ⟨c0, c1, rfl⟩ := list2 cs hl
  rw [cells3] at hx
  have k : ∀ i, i < 2 → (xs[i]?).isSome = true := fun i hi => by rw [List.getElem?_eq_getElem (by omega)]; rfl
  obtain ⟨r0, rfl⟩ := get_int (k 0 (by omega)) (hx 0 (by omega))
  obtain ⟨r1, rfl⟩ := get_int (k 1 (by omega)) (hx 1 (by omega))
  exact ⟨(r0, r1), rfl⟩

/-- Out of what is known of each element, the list of them all. -/
theorem gather {α : Type} (d : α) (n : Nat) (p : Nat → α → Prop) (h : ∀ i, i < n → ∃ a, p i a) : ∃ l : List α, l.length = n ∧ ∀ i a, l[i]? = some a → p i a := by
  obtain ⟨f, hf⟩ := Classical.skolem.1 (fun i : Nat => show ∃ a : α, i < n → p i a by
    by_cases hi : i < n
    · obtain ⟨a, ha⟩ := h i hi; exact ⟨a, fun _ => ha⟩
    · exact ⟨d, fun h => absurd h hi⟩)
  refine ⟨(List.range n).map f, by simp, fun i a hi => ?_⟩
  rw [List.getElem?_map] at hi
  by_cases hn : i < n
  · rw [List.getElem?_range hn] at hi
    simp at hi
    subst hi
    exact hf i hn
  · rw [List.getElem?_eq_none (by simp; omega)] at hi
    cases hi

theorem range_of_cells {b off o n : Nat} {cs : List Value} (h : w.cells? base ((⟨b, off, none⟩ : Addr).add o) n = some cs) : w.rangeAt b (off + o) cs := by
  obtain ⟨_, hlen, hc⟩ := World.cells?_some h
  intro j v hj
  have := hc j (by have := (List.getElem?_eq_some_iff.1 hj).1; omega)
  rw [Addr.add_mid, Addr.add_mid] at this
  rw [this]; exact hj

theorem spot_of_cells {a : Addr} {n : Nat} {cs : List Value} (h : w.cells? base (a.add (0 * 2)) n = some cs) (h0 : 0 < cs.length) : a.spot = none := by
  obtain ⟨_, hlen, hc⟩ := World.cells?_some h
  obtain ⟨v, hv⟩ : ∃ v, cs[0]? = some v := ⟨_, List.getElem?_eq_getElem h0⟩
  have := hc 0 (by omega)
  rw [hv] at this
  have := World.cell?_spot this
  simpa [Addr.add] using this

theorem open_rs {fuel : Nat} {v : Value} {x : DataW H × List MemPlace} (h : DataW.trod enc Try.prog w base spare held fuel 30 [v] = some x) : ∃ a len cap rs, v = .slice a len cap ∧ RsAt w 0 a len rs := by
  rcases open_slice Try.underlying30 h with ⟨hcs, _⟩ | ⟨a, len, cap, m, n, D, Pl, hcs, _, hl, _, hm, _, hx⟩
  · simp at hcs
    exact ⟨none, 0, 0, [], hcs, rfl, fun h => absurd h (by omega)⟩
  · simp at hcs
    have hlm : len ≤ m := by rw [hm]; split <;> omega
    rw [cells33] at hx
    obtain ⟨rs, hrl, hrs⟩ := gather (0, 0) len (fun i (r : Rg) => w.cells? base (a.add (i * 2)) 2 = some (rc r)) (fun i hi => by
      obtain ⟨cs', h1, h2⟩ := hx i (by omega)
      obtain ⟨r, rfl⟩ := get_range h2
      exact ⟨r, h1⟩)
    refine ⟨some a, len, cap, rs, hcs, hrl, fun h0 => ?_⟩
    obtain ⟨r, hr⟩ : ∃ r, rs[0]? = some r := ⟨_, List.getElem?_eq_getElem (by omega)⟩
    have hspot := spot_of_cells (hrs 0 r hr) (by simp [rc])
    obtain ⟨b, off, spot⟩ := a
    simp only at hspot
    subst hspot
    exact ⟨b, off, rfl, Nat.zero_le _, rangeAt_lt (range_of_cells (hrs 0 r hr)) (by simp [rc]), fun i r hr => range_of_cells (hrs i r hr)⟩

theorem get_line {fuel : Nat} {cs : List Value} {x : DataW H × List MemPlace} (h : DataW.trod enc Try.prog w base spare held fuel 32 cs = some x) : ∃ l : Line, cs = l.cells ∧ RsAt w 0 l.ad l.len l.rs := by
  obtain ⟨xs, n, _, _, hl, hlx, hf⟩ := DataW.trod_struct Try.underlying32 h
  rw [cells32] at hl
  obtain ⟨c0, c1, rfl⟩ := list2 cs hl
  have k : ∀ i, i < 2 → ∃ y, xs[i]? = some y := fun i hi => ⟨_, List.getElem?_eq_getElem (by rw [hlx]; exact hi)⟩
  have g0 : DataW.trod enc Try.prog w base spare held n 9 (([c0, c1].drop 0).take (Try.prog.cellsOf 9)) = xs[0]? := hf 0 _ rfl
  rw [cells9] at g0
  have g1 : DataW.trod enc Try.prog w base spare held n 30 (([c0, c1].drop 1).take (Try.prog.cellsOf 30)) = xs[1]? := hf 1 _ rfl
  rw [cells30] at g1
  obtain ⟨y0, e0⟩ := k 0 (by omega)
  obtain ⟨y1, e1⟩ := k 1 (by omega)
  rw [e0] at g0
  rw [e1] at g1
  obtain ⟨s, hs, _⟩ := DataW.trod_string Try.underlying9 g0
  simp at hs
  obtain ⟨a, len, cap, rs, hv, hR⟩ := open_rs (v := c1) g1
  subst hs
  subst hv
  exact ⟨⟨s, a, len, cap, rs⟩, rfl, hR⟩

theorem open_lines {fuel : Nat} {a0 : Option Addr} {len cap : Nat} {x : DataW H × List MemPlace} (h : DataW.trod enc Try.prog w base spare held fuel 22 [.slice a0 len cap] = some x) : ∃ ls, LinesAt w a0 len ls := by
  rcases open_slice Try.underlying22 h with ⟨hcs, _⟩ | ⟨a, len', cap', m, n, D, Pl, hcs, _, hl, _, hm, _, hx⟩
  · simp at hcs
    obtain ⟨rfl, rfl, rfl⟩ := hcs
    exact ⟨[], rfl, fun h => absurd h (by omega), by simp⟩
  · simp at hcs
    obtain ⟨rfl, rfl, rfl⟩ := hcs
    have hlm : len ≤ m := by rw [hm]; split <;> omega
    rw [cells32] at hx
    obtain ⟨ls, hll, hls⟩ := gather (⟨ByteArray.empty, none, 0, 0, []⟩ : Line) len (fun i (l : Line) => w.cells? base (a.add (i * 2)) 2 = some l.cells ∧ RsAt w 0 l.ad l.len l.rs) (fun i hi => by
      obtain ⟨cs', h1, h2⟩ := hx i (by omega)
      obtain ⟨l, rfl, hR⟩ := get_line h2
      exact ⟨l, h1, hR⟩)
    refine ⟨ls, hll, fun h0 => ?_, fun l hl => ?_⟩
    · obtain ⟨l, hl⟩ : ∃ l, ls[0]? = some l := ⟨_, List.getElem?_eq_getElem (by omega)⟩
      have hspot := spot_of_cells (hls 0 l hl).1 (by simp [Line.cells])
      obtain ⟨b, off, spot⟩ := a
      simp only at hspot
      subst hspot
      exact ⟨b, off, rfl, rangeAt_lt (range_of_cells (hls 0 l hl).1) (by simp [Line.cells]), fun i l hl => range_of_cells (hls i l hl).1⟩
    · obtain ⟨i, hi⟩ := List.getElem?_of_mem hl
      exact (hls i l hi).2

end Go.Proofs.Qxb6601374a
