import Derived.Test.Qxb6601374aD
import Derived.Deep.QuietTactic
import Derived.BigQuiet
namespace Go.Proofs.Qxb6601374a
open Go.RowKit

theorem below_drewN {B : Nat} {w0 w : World} (hb : Below B w0 w) (n : Nat) : Below B w0 (w.drewN n) :=
  hb.trans ⟨rfl, rfl, rfl, Nat.le_refl _, fun _ _ => rfl⟩

theorem all_snoc {α : Type} {p : α → Prop} {l : List α} {a : α} (h : ∀ x ∈ l, p x) (ha : p a) : ∀ x ∈ l ++ [a], p x := by
  intro x hx
  rcases List.mem_append.1 hx with h1 | h1
  · exact h x h1
  · cases List.mem_singleton.1 h1; exact ha

/-- It returns a truth, and the memory is as it was. -/
def BoolPost (w : World) (e : Ending) (w' : World) : Prop := ∃ b, e = .returned (.bool b) ∧ w = w'

set_option maxHeartbeats 1600000 in
theorem bytes4 (a : Option Addr) (n cap : Nat) (ls : List Line) (w : World) (h : LinesAt w a n ls) :
    Calls Try.prog 4 #[.slice a n cap] w (BoolPost w) := by
  by_cases h1 : 1048576 < n
  · clear h
    go_enter Try.func4, Try.ntmps4
    go_wp2_with fail
    go_ret
    exact ⟨_, rfl, rfl⟩
  obtain ⟨hl, hP, _⟩ := h
  have Hl := hide hl
  have HP := hide hP
  clear hl hP
  go_enter Try.func4, Try.ntmps4
  go_wp2_with fail
  go_loop [3, 4] (fun z i => ∃ k t : Nat, k ≤ n ∧ t ≤ 1048576 ∧ i = .int .i64 k ∧ z = .int .i64 t) (fun _ i => n - (intOf i).toNat)
  case atStart => exact ⟨0, n, by omega, by omega, rfl, by go_num⟩
  case round =>
    obtain ⟨k, t, hk, ht, rfl, rfl⟩ := hrel
    by_cases hlt : k < n
    · obtain ⟨b, off, rfl, _, hc⟩ := HP.out (by omega)
      obtain ⟨l, hL⟩ : ∃ l, ls[k]? = some l := ⟨_, List.getElem?_eq_getElem (by rw [Hl.out]; exact hlt)⟩
      obtain ⟨c0, c1⟩ := line_cells (hc k l hL)
      obtain ⟨id, ad, ln, cp, rs⟩ := l
      simp only at c0 c1
      clear hL hc HP
      by_cases t1 : 1048576 < id.size
      · go_wp2_with fail
        go_ret
        exact ⟨_, rfl, rfl⟩
      by_cases t2 : 1048576 < t + id.size
      · go_wp2_with fail
        go_ret
        exact ⟨_, rfl, rfl⟩
      by_cases t3 : 1048576 < ln
      · go_wp2_with fail
        go_ret
        exact ⟨_, rfl, rfl⟩
      by_cases t4 : 1048576 < t + id.size + ln
      · go_wp2_with fail
        go_ret
        exact ⟨_, rfl, rfl⟩
      go_wp2_with fail
      exact ⟨⟨k + 1, t + id.size + ln, by omega, by omega, by go_num, by go_num⟩, by simp [intOf]; omega⟩
    · go_wp2_with fail
      go_ret
      exact ⟨_, rfl, rfl⟩

/-- What 'zzOwnedTooBig' has looked at. -/
def Small (n : Nat) (ls : List Line) : Prop := n ≤ 26214 ∧ ∀ l ∈ ls, l.len ≤ 65536
def BigPost (w : World) (n : Nat) (ls : List Line) (e : Ending) (w' : World) : Prop := ∃ b, e = .returned (.bool b) ∧ Below w.heap.size w w' ∧ (b = false → Small n ls)

set_option maxHeartbeats 1600000 in
theorem big5 (a : Option Addr) (n cap : Nat) (ls : List Line) (w : World) (h : LinesAt w a n ls) :
    Calls Try.prog 5 #[.slice a n cap] w (BigPost w n ls) := by
  by_cases h1 : 26214 < n
  · clear h
    go_enter Try.func5, Try.ntmps5
    go_wp2_with fail
    go_ret
    exact ⟨_, rfl, Below.refl _ _, fun h => by cases h⟩
  obtain ⟨hl, hP, _⟩ := h
  have Hl := hide hl
  have HP := hide hP
  clear hl hP
  go_enter Try.func5, Try.ntmps5
  go_wp2_with fail
  go_loopw [3, 4] (fun z i wr => ∃ k t : Nat, k ≤ n ∧ t ≤ 1048576 ∧ i = .int .i64 k ∧ z = .int .i64 t ∧ Hid (Below w.heap.size w wr ∧ ∀ l ∈ ls.take k, l.len ≤ 65536)) (fun _ i _ => n - (intOf i).toNat)
  case atStart => exact ⟨0, n * 40, by omega, by omega, rfl, by go_num, hide ⟨Below.refl _ _, by simp⟩⟩
  case round =>
    obtain ⟨k, t, hk, ht, rfl, rfl, HB⟩ := hrel
    by_cases hlt : k < n
    · obtain ⟨b, off, rfl, hbl, hc⟩ := HP.out (by omega)
      obtain ⟨l, hL⟩ : ∃ l, ls[k]? = some l := ⟨_, List.getElem?_eq_getElem (by rw [Hl.out]; exact hlt)⟩
      obtain ⟨c0, c1⟩ := line_cells (rangeAt_of_heap (hc k l hL) (HB.out.1.block b hbl))
      obtain ⟨id, ad, ln, cp, rs⟩ := l
      simp only at c0 c1
      have HL := hide hL
      clear hL hc HP
      by_cases t1 : 1048576 < id.size
      · go_wp2_with fail
        go_ret
        exact ⟨_, rfl, HB.out.1, fun h => by cases h⟩
      by_cases t3 : 65536 < ln
      · go_wp2_with fail
        go_ret
        exact ⟨_, rfl, HB.out.1, fun h => by cases h⟩
      by_cases t4 : 1048576 < t + (id.size + 16 * ln)
      · go_wp2_with fail
        go_quiet (fail)
        go_wp2_with fail
        go_ret
        exact ⟨_, rfl, below_drewN HB.out.1 _, fun h => by cases h⟩
      go_wp2_with fail
      go_quiet (fail)
      go_wp2_with fail
      exact ⟨⟨k + 1, t + (id.size + 16 * ln), by omega, by omega, by go_num, by go_num, hide ⟨below_drewN HB.out.1 _, by rw [take_snoc HL.out]; exact all_snoc HB.out.2 (by show ln ≤ 65536; omega)⟩⟩, by simp [intOf]; omega⟩
    · obtain rfl : k = n := by omega
      go_wp2_with fail
      go_ret
      refine ⟨_, rfl, HB.out.1, fun _ => ⟨by omega, fun l hl => HB.out.2 l ?_⟩⟩
      rw [List.take_of_length_le (by rw [Hl.out]; omega)]; exact hl

end Go.Proofs.Qxb6601374a
