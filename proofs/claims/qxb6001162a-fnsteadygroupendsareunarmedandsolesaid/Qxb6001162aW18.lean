import Derived.Test.Qxb6001162aW14
namespace Go.Proofs.Qxb6001162a
open Go.RowKit

/-- 'zzBytes_..': at most 2^20 elements. -/
theorem bytes23 (a : Option Addr) (len cap : Nat) (s n : Int) (w : World) (h : len ≤ 1048576) :
    Calls Try.prog 23 #[.slice a len cap, .int .i32 s, .int .i64 n] w fun e w' => e = .returned (.bool true) ∧ w' = w := by
  go_enter Try.func23, Try.ntmps23
  go_wp2
  go_ret
  exact ⟨rfl, rfl⟩

theorem bytes23_no (a : Option Addr) (len cap : Nat) (s n : Int) (w : World) (h : 1048576 < len) :
    Calls Try.prog 23 #[.slice a len cap, .int .i32 s, .int .i64 n] w fun e w' => e = .returned (.bool false) ∧ w' = w := by
  go_enter Try.func23, Try.ntmps23
  go_wp2
  go_ret
  exact ⟨rfl, rfl⟩

/-- The same contracts, the old world's name kept. -/
theorem bytes23' (a : Option Addr) (len cap : Nat) (s n : Int) (w : World) (h : len ≤ 1048576) :
    Calls Try.prog 23 #[.slice a len cap, .int .i32 s, .int .i64 n] w fun e w' => e = .returned (.bool true) ∧ w = w' := (bytes23 a len cap s n w h).mono fun _ _ h => ⟨h.1, h.2.symm⟩
set_option maxHeartbeats 3200000 in
set_option maxRecDepth 100000 in
theorem law7_easy (a0 : Option Addr) (len cap : Nat) (ps : List Inst) (start slots : Int) (w : World) (hp : IsProg w a0 len ps) (hs : -2147483648 ≤ start ∧ start ≤ 2147483647)
    (h : 4096 < len ∨ slots < 0 ∨ 65536 < slots ∨ len = 0 ∨ valid ps slots = false ∨ inR start len = false) :
    Calls Try.prog 7 #[.slice a0 len cap, .int .i32 start, .int .i64 slots] w fun e w' => e = .returned (.bool true) ∧ Below w.heap.size w w' := by
  obtain ⟨hs1, hs2⟩ := hs
  by_cases h1 : 1048576 < len
  · clear h hp
    go_enter Try.func7, Try.ntmps7
    go_wp2_with (go_at_call 23; refine (bytes23_no _ _ _ _ _ _ h1).mono ?_; rintro e w' ⟨rfl, rfl⟩)
    go_ret
    exact ⟨rfl, Below.refl _ _⟩
  by_cases h2 : 4096 < len
  · clear h hp
    go_enter Try.func7, Try.ntmps7
    go_wp2_with (go_at_call 23; refine (bytes23 _ _ _ _ _ _ (by omega)).mono ?_; rintro e w' ⟨rfl, rfl⟩)
    go_ret
    exact ⟨rfl, Below.refl _ _⟩
  by_cases h3 : slots < 0
  · clear h hp
    go_enter Try.func7, Try.ntmps7
    go_wp2_with (go_at_call 23; refine (bytes23 _ _ _ _ _ _ (by omega)).mono ?_; rintro e w' ⟨rfl, rfl⟩)
    go_ret
    exact ⟨rfl, Below.refl _ _⟩
  by_cases h4 : 65536 < slots
  · clear h hp
    go_enter Try.func7, Try.ntmps7
    go_wp2_with (go_at_call 23; refine (bytes23 _ _ _ _ _ _ (by omega)).mono ?_; rintro e w' ⟨rfl, rfl⟩)
    go_ret
    exact ⟨rfl, Below.refl _ _⟩
  by_cases h5 : len = 0
  · subst h5
    clear h hp
    go_enter Try.func7, Try.ntmps7
    go_wp2_with (first | (go_at_call 23; refine (bytes23 _ _ _ _ _ _ (by omega)).mono ?_; rintro e w' ⟨rfl, rfl⟩) | (go_at_call 12; refine (valid_nil _ _ _ _).mono ?_; rintro e w' ⟨rfl, rfl⟩))
    go_ret
    exact ⟨rfl, Below.refl _ _⟩
  obtain ⟨hl, hP, hwf, _⟩ := hp
  obtain ⟨b, off, rfl, hi⟩ := hP (by omega)
  cases hv : valid ps slots
  · clear h
    have Hl := hide hl
    clear hl
    go_enter Try.func7, Try.ntmps7
    go_wp2_with (first | (go_at_call 23; refine (bytes23 _ _ _ _ _ _ (by omega)).mono ?_; rintro e w' ⟨rfl, rfl⟩) | (go_at_call 12; refine (valid_any b off len cap ps slots _ Hl.out (by omega) (by omega) hi hwf (by omega) (by omega)).mono ?_; rintro e w1 ⟨rfl, hb1⟩))
    go_ret
    exact ⟨rfl, hb1⟩
  · have hin : inR start len = false := by
      rcases h with h | h | h | h | h | h
      · omega
      · omega
      · omega
      · omega
      · rw [hv] at h; cases h
      · exact h
    clear h
    have Hl := hide hl
    clear hl
    go_enter Try.func7, Try.ntmps7
    go_wp2_with (first | (go_at_call 23; refine (bytes23 _ _ _ _ _ _ (by omega)).mono ?_; rintro e w' ⟨rfl, rfl⟩) | (go_at_call 12; refine (valid_any b off len cap ps slots _ Hl.out (by omega) (by omega) hi hwf (by omega) (by omega)).mono ?_; rintro e w1 ⟨rfl, hb1⟩) | (go_at_call 20; refine (inRange_any _ _ _ hs1 hs2).mono ?_; rintro e w' ⟨rfl, rfl⟩))
    go_ret
    exact ⟨rfl, hb1⟩

end Go.Proofs.Qxb6001162a
