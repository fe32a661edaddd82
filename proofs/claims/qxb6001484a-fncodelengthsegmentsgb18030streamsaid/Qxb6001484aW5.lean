import Derived.Test.Qxb6001484aW4
namespace Go.Proofs.Qxb6001484a
open Go.RowKit

theorem law3_any (a0 : Option Addr) (n cap : Nat) (vs : List Int) (w : World) (h : IsSl (Value.int .u32) w a0 n vs) (hnc : n ≤ cap) (hr : ∀ v ∈ vs, 0 ≤ v ∧ v ≤ 4294967295) :
    Calls Try.prog 3 #[.slice a0 n cap] w fun e w' => e = .returned (.bool true) ∧ Below w.heap.size w w' := by
  by_cases h1 : 1048576 < n
  · clear h hr
    go_enter Try.func3, Try.ntmps3
    go_wp2_with (go_at_call 8; refine (bytes8_no _ _ _ _ h1).mono ?_; rintro e w' ⟨rfl, rfl⟩)
    go_ret
    exact ⟨rfl, Below.refl _ _⟩
  by_cases h2 : 65536 < n
  · clear h hr
    go_enter Try.func3, Try.ntmps3
    go_wp2_with (go_at_call 8; refine (bytes8 _ _ _ _ (by omega)).mono ?_; rintro e w' ⟨rfl, rfl⟩)
    go_ret
    exact ⟨rfl, Below.refl _ _⟩
  · exact law3_main a0 n cap vs w h hnc (by omega) (hide hr)

end Go.Proofs.Qxb6001484a
