import Derived.Test.Qxb6001162aW13
import Derived.Deep.QuietTactic
import Derived.BigQuiet
namespace Go.Proofs.Qxb6001162a
open Go.RowKit

theorem valid_nil (a : Option Addr) (cap : Nat) (slots : Int) (w : World) :
    Calls Try.prog 12 #[.slice a 0 cap, .int .i64 slots] w fun e w' => e = .returned (.bool false) ∧ w' = w := by
  go_enter Try.func12, Try.ntmps12
  go_wp2
  go_ret
  exact ⟨rfl, rfl⟩

/-- The same contracts, the old world's name kept. -/
theorem bytes19' (a : Option Addr) (len cap : Nat) (s n : Int) (w : World) (h : len ≤ 1048576) :
    Calls Try.prog 19 #[.slice a len cap, .int .i32 s, .int .i64 n] w fun e w' => e = .returned (.bool true) ∧ w = w' := (bytes19 a len cap s n w h).mono fun _ _ h => ⟨h.1, h.2.symm⟩
theorem inRange' (v : Int) (n : Nat) (w : World) (h1 : -2147483648 ≤ v) (h2 : v ≤ 2147483647) :
    Calls Try.prog 20 #[.int .i32 v, .int .i64 n] w fun e w' => e = .returned (.bool (inR v n)) ∧ w = w' := (inRange_any v n w h1 h2).mono fun _ _ h => ⟨h.1, h.2.symm⟩

/-- WHAT THE WALK IS TOLD OF THE PROGRAM THAT CAME IN: it is empty; or its instructions lie in memory, each number fitting its kind. -/
def IsProg (w : World) (a : Option Addr) (len : Nat) (ps : List Inst) : Prop :=
  ps.length = len ∧ (0 < len → ∃ b off, a = some ⟨b, off, none⟩ ∧ Insts w b off ps) ∧ (∀ p ∈ ps, p.wf) ∧ ∀ p ∈ ps, p.wfs

theorem closed_range {ps : List Inst} {slots : Int} {n : Nat} (hv : valid ps slots = true) (hn : ps.length = n) : Closed ps fun v => 0 ≤ v ∧ v < 2 * n := by
  intro v p hg hp
  have hk := ok_of_valid hv hn hp
  refine ⟨fun h => ?_, fun h => ?_, fun h => ⟨fun _ _ => ?_, fun _ => ?_⟩⟩
  · obtain ⟨⟨x0, x1⟩, y0, y1⟩ := ok_split hk h; constructor <;> constructor <;> omega
  · obtain ⟨⟨x0, x1⟩, _⟩ := ok_save hk h; constructor <;> omega
  · obtain ⟨⟨x0, x1⟩, _⟩ := ok_assert hk h; constructor <;> omega
  · obtain ⟨⟨x0, x1⟩, _⟩ := ok_assert hk h; constructor <;> omega

set_option maxHeartbeats 3200000 in
set_option maxRecDepth 100000 in
theorem law5_easy (a0 : Option Addr) (len cap : Nat) (ps : List Inst) (start slots : Int) (w : World) (hp : IsProg w a0 len ps) (hs : -2147483648 ≤ start ∧ start ≤ 2147483647)
    (h : 4096 < len ∨ slots < 0 ∨ 65536 < slots ∨ len = 0 ∨ valid ps slots = false ∨ inR start len = false) :
    Calls Try.prog 5 #[.slice a0 len cap, .int .i32 start, .int .i64 slots] w fun e w' => e = .returned (.bool true) ∧ Below w.heap.size w w' := by
  obtain ⟨hs1, hs2⟩ := hs
  by_cases h1 : 1048576 < len
  · clear h hp
    go_enter Try.func5, Try.ntmps5
    go_wp2_with (go_at_call 19; refine (bytes19_no _ _ _ _ _ _ h1).mono ?_; rintro e w' ⟨rfl, rfl⟩)
    go_ret
    exact ⟨rfl, Below.refl _ _⟩
  by_cases h2 : 4096 < len
  · clear h hp
    go_enter Try.func5, Try.ntmps5
    go_wp2_with (go_at_call 19; refine (bytes19 _ _ _ _ _ _ (by omega)).mono ?_; rintro e w' ⟨rfl, rfl⟩)
    go_ret
    exact ⟨rfl, Below.refl _ _⟩
  by_cases h3 : slots < 0
  · clear h hp
    go_enter Try.func5, Try.ntmps5
    go_wp2_with (go_at_call 19; refine (bytes19 _ _ _ _ _ _ (by omega)).mono ?_; rintro e w' ⟨rfl, rfl⟩)
    go_ret
    exact ⟨rfl, Below.refl _ _⟩
  by_cases h4 : 65536 < slots
  · clear h hp
    go_enter Try.func5, Try.ntmps5
    go_wp2_with (go_at_call 19; refine (bytes19 _ _ _ _ _ _ (by omega)).mono ?_; rintro e w' ⟨rfl, rfl⟩)
    go_ret
    exact ⟨rfl, Below.refl _ _⟩
  by_cases h5 : len = 0
  · subst h5
    clear h hp
    go_enter Try.func5, Try.ntmps5
    go_wp2_with (first | (go_at_call 19; refine (bytes19 _ _ _ _ _ _ (by omega)).mono ?_; rintro e w' ⟨rfl, rfl⟩) | (go_at_call 12; refine (valid_nil _ _ _ _).mono ?_; rintro e w' ⟨rfl, rfl⟩))
    go_ret
    exact ⟨rfl, Below.refl _ _⟩
  obtain ⟨hl, hP, hwf, _⟩ := hp
  obtain ⟨b, off, rfl, hi⟩ := hP (by omega)
  cases hv : valid ps slots
  · clear h
    have Hl := hide hl
    clear hl
    go_enter Try.func5, Try.ntmps5
    go_wp2_with (first | (go_at_call 19; refine (bytes19 _ _ _ _ _ _ (by omega)).mono ?_; rintro e w' ⟨rfl, rfl⟩) | (go_at_call 12; refine (valid_any b off len cap ps slots _ Hl.out (by omega) (by omega) hi hwf (by omega) (by omega)).mono ?_; rintro e w1 ⟨rfl, hb1⟩))
    go_ret
    exact ⟨rfl, hb1⟩
  · have hin : inR start len = false := by
      rcases h with h | h | h | h | h | h
      · omega
      · omega
      · omega
      · omega
      · rw [hv] at h; cases h
      · exact h
    clear h
    have Hl := hide hl
    clear hl
    go_enter Try.func5, Try.ntmps5
    go_wp2_with (first | (go_at_call 19; refine (bytes19 _ _ _ _ _ _ (by omega)).mono ?_; rintro e w' ⟨rfl, rfl⟩) | (go_at_call 12; refine (valid_any b off len cap ps slots _ Hl.out (by omega) (by omega) hi hwf (by omega) (by omega)).mono ?_; rintro e w1 ⟨rfl, hb1⟩) | (go_at_call 20; refine (inRange_any _ _ _ hs1 hs2).mono ?_; rintro e w' ⟨rfl, rfl⟩))
    go_ret
    exact ⟨rfl, hb1⟩

end Go.Proofs.Qxb6001162a
