import Derived.Test.Qxb6001162aRows
import Derived.WalkKit
import Derived.WalkSpells
import Derived.WalkLawsBesides
namespace Go.Proofs.Qxb6001162a
open Go.RowKit

/-- 'zzBytes_..': at most 2^20 elements. -/
theorem bytes19 (a : Option Addr) (len cap : Nat) (s n : Int) (w : World) (h : len ≤ 1048576) :
    Calls Try.prog 19 #[.slice a len cap, .int .i32 s, .int .i64 n] w fun e w' => e = .returned (.bool true) ∧ w' = w := by
  go_enter Try.func19, Try.ntmps19
  go_wp2
  go_ret
  exact ⟨rfl, rfl⟩

theorem bytes19_no (a : Option Addr) (len cap : Nat) (s n : Int) (w : World) (h : 1048576 < len) :
    Calls Try.prog 19 #[.slice a len cap, .int .i32 s, .int .i64 n] w fun e w' => e = .returned (.bool false) ∧ w' = w := by
  go_enter Try.func19, Try.ntmps19
  go_wp2
  go_ret
  exact ⟨rfl, rfl⟩

def inR (v : Int) (n : Nat) : Bool := decide (0 ≤ v) && decide (v < n)

theorem inRange_any (v : Int) (n : Nat) (w : World) (h1 : -2147483648 ≤ v) (h2 : v ≤ 2147483647) :
    Calls Try.prog 20 #[.int .i32 v, .int .i64 n] w fun e w' => e = .returned (.bool (inR v n)) ∧ w' = w := by
  unfold inR
  by_cases h : 0 ≤ v
  · go_enter Try.func20, Try.ntmps20
    go_wp2
    go_ret
    exact ⟨by simp [h], rfl⟩
  · go_enter Try.func20, Try.ntmps20
    go_wp2
    go_ret
    exact ⟨by simp; omega, rfl⟩

end Go.Proofs.Qxb6001162a
