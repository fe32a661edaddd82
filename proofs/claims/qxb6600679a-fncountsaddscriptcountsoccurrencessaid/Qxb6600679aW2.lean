import Derived.Test.Qxb6600679aW1
namespace Go.Proofs.Qxb6600679a
open Go.RowKit

set_option maxHeartbeats 1600000 in
theorem add_any (B g : Nat) (w0 w : World) (xs : List Int) (s : Int) (hb : Below B w0 w) (hB : B ≤ g) (h : Blk w g (u64s (tally xs)) 26) (hn : xs.length ≤ 65536) :
    Calls Try.prog 7 #[.pointer (some ⟨g, 0, none⟩), .int .i64 s] w (AddPost B g w0 (xs ++ [s]) w) := by
  have c1 : w.cell? ⟨g, 1, none⟩ = some (.int .u64 (xs.count 2 : Nat)) := h.cell rfl
  have f1 := h.frozen 1
  have b1 : xs.count 2 ≤ 65536 := Nat.le_trans List.count_le_length hn
  obtain ⟨x1, hx1⟩ : ∃ x, x = xs.count 2 := ⟨_, rfl⟩
  rw [← hx1] at c1 b1
  have c2 : w.cell? ⟨g, 2, none⟩ = some (.int .u64 (xs.count 3 : Nat)) := h.cell rfl
  have f2 := h.frozen 2
  have b2 : xs.count 3 ≤ 65536 := Nat.le_trans List.count_le_length hn
  obtain ⟨x2, hx2⟩ : ∃ x, x = xs.count 3 := ⟨_, rfl⟩
  rw [← hx2] at c2 b2
  have c3 : w.cell? ⟨g, 3, none⟩ = some (.int .u64 (xs.count 4 : Nat)) := h.cell rfl
  have f3 := h.frozen 3
  have b3 : xs.count 4 ≤ 65536 := Nat.le_trans List.count_le_length hn
  obtain ⟨x3, hx3⟩ : ∃ x, x = xs.count 4 := ⟨_, rfl⟩
  rw [← hx3] at c3 b3
  have c4 : w.cell? ⟨g, 4, none⟩ = some (.int .u64 (xs.count 5 : Nat)) := h.cell rfl
  have f4 := h.frozen 4
  have b4 : xs.count 5 ≤ 65536 := Nat.le_trans List.count_le_length hn
  obtain ⟨x4, hx4⟩ : ∃ x, x = xs.count 5 := ⟨_, rfl⟩
  rw [← hx4] at c4 b4
  have c5 : w.cell? ⟨g, 5, none⟩ = some (.int .u64 (xs.count 6 : Nat)) := h.cell rfl
  have f5 := h.frozen 5
  have b5 : xs.count 6 ≤ 65536 := Nat.le_trans List.count_le_length hn
  obtain ⟨x5, hx5⟩ : ∃ x, x = xs.count 6 := ⟨_, rfl⟩
  rw [← hx5] at c5 b5
  have c6 : w.cell? ⟨g, 6, none⟩ = some (.int .u64 (xs.count 7 : Nat)) := h.cell rfl
  have f6 := h.frozen 6
  have b6 : xs.count 7 ≤ 65536 := Nat.le_trans List.count_le_length hn
  obtain ⟨x6, hx6⟩ : ∃ x, x = xs.count 7 := ⟨_, rfl⟩
  rw [← hx6] at c6 b6
  by_cases h2 : s = 2
  · subst h2
    have HN := hide (add_set (s := 2) hb hB h 1 x1 (by rw [tally_snoc, hx1]; simp [tally]))
    clear h hb hx1 hx2 hx3 hx4 hx5 hx6 hn
    go_enter Try.func7, Try.ntmps7
    go_wp2_with fail
    go_end0
    exact HN.out
  have e2 : (s == 2) = false := beq_eq_false_iff_ne.2 h2
  by_cases h3 : s = 3
  · subst h3
    have HN := hide (add_set (s := 3) hb hB h 2 x2 (by rw [tally_snoc, hx2]; simp [tally]))
    clear h hb hx1 hx2 hx3 hx4 hx5 hx6 hn
    go_enter Try.func7, Try.ntmps7
    go_wp2_with fail
    go_end0
    exact HN.out
  have e3 : (s == 3) = false := beq_eq_false_iff_ne.2 h3
  by_cases h4 : s = 4
  · subst h4
    have HN := hide (add_set (s := 4) hb hB h 3 x3 (by rw [tally_snoc, hx3]; simp [tally]))
    clear h hb hx1 hx2 hx3 hx4 hx5 hx6 hn
    go_enter Try.func7, Try.ntmps7
    go_wp2_with fail
    go_end0
    exact HN.out
  have e4 : (s == 4) = false := beq_eq_false_iff_ne.2 h4
  by_cases h5 : s = 5
  · subst h5
    have HN := hide (add_set (s := 5) hb hB h 4 x4 (by rw [tally_snoc, hx4]; simp [tally]))
    clear h hb hx1 hx2 hx3 hx4 hx5 hx6 hn
    go_enter Try.func7, Try.ntmps7
    go_wp2_with fail
    go_end0
    exact HN.out
  have e5 : (s == 5) = false := beq_eq_false_iff_ne.2 h5
  by_cases h6 : s = 6
  · subst h6
    have HN := hide (add_set (s := 6) hb hB h 5 x5 (by rw [tally_snoc, hx5]; simp [tally]))
    clear h hb hx1 hx2 hx3 hx4 hx5 hx6 hn
    go_enter Try.func7, Try.ntmps7
    go_wp2_with fail
    go_end0
    exact HN.out
  have e6 : (s == 6) = false := beq_eq_false_iff_ne.2 h6
  by_cases h7 : s = 7
  · subst h7
    have HN := hide (add_set (s := 7) hb hB h 6 x6 (by rw [tally_snoc, hx6]; simp [tally]))
    clear h hb hx1 hx2 hx3 hx4 hx5 hx6 hn
    go_enter Try.func7, Try.ntmps7
    go_wp2_with fail
    go_end0
    exact HN.out
  have e7 : (s == 7) = false := beq_eq_false_iff_ne.2 h7
  have HN : Hid (AddPost B g w0 (xs ++ [s]) w (.returned (.tuple #[])) w) := by
    refine ⟨rfl, hb, rfl, ?_⟩
    have e : tally (xs ++ [s]) = tally xs := by rw [tally_snoc]; simp [tally, h2, h3, h4, h5, h6, h7]
    rw [e]; exact h
  clear h hb hx1 hx2 hx3 hx4 hx5 hx6 hn h2 h3 h4 h5 h6 h7
  go_enter Try.func7, Try.ntmps7
  go_wp2_with fail
  go_end0
  exact HN.out

theorem zadd_any (B g : Nat) (w0 w : World) (xs : List Int) (s : Int) (hb : Below B w0 w) (hB : B ≤ g) (h : Blk w g (u64s (tally xs)) 26) (hn : xs.length ≤ 65536) :
    Calls Try.prog 6 #[.pointer (some ⟨g, 0, none⟩), .int .i64 s] w (AddPost B g w0 (xs ++ [s]) w) := by
  have HC := hide (add_any B g w0 w xs s hb hB h hn)
  clear hb h
  go_enter Try.func6, Try.ntmps6
  go_wp2_with fail
  refine HC.out.mono ?_
  rintro e w1 ⟨rfl, p1, p2, p3⟩
  have HN := hide (show AddPost B g w0 (xs ++ [s]) w (.returned (.tuple #[])) w1 from ⟨rfl, p1, p2, p3⟩)
  clear p1 p2 p3
  go_wp2_with fail
  go_end0
  exact HN.out

end Go.Proofs.Qxb6600679a
