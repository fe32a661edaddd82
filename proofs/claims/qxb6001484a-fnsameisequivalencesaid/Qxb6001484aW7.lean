import Derived.Test.Qxb6001484aW6
namespace Go.Proofs.Qxb6001484a
open Go.RowKit

/-- It answers, and does nothing else. -/
def AnyBool (w : World) (e : Ending) (w' : World) : Prop := ∃ r, e = .returned (.bool r) ∧ w = w'

set_option maxHeartbeats 1600000 in
theorem bytes14 (a1 a2 a3 : Option Addr) (n1 c1 n2 c2 n3 c3 : Nat) (xs ys zs : List ByteArray) (w : World) (h1 : IsSl Value.string w a1 n1 xs) (h2 : IsSl Value.string w a2 n2 ys) (h3 : IsSl Value.string w a3 n3 zs) :
    Calls Try.prog 14 #[.slice a1 n1 c1, .slice a2 n2 c2, .slice a3 n3 c3] w (AnyBool w) := by
  have H1 := hide h1
  have H2 := hide h2
  have H3 := hide h3
  clear h1 h2 h3
  by_cases hn1 : 1048576 < n1
  · go_enter Try.func14, Try.ntmps14
    go_wp2_with fail
    go_ret
    exact ⟨_, rfl, rfl⟩
  go_enter Try.func14, Try.ntmps14
  go_wp2_with fail
  go_loop [7, 8] (fun z i => ∃ (k : Nat) (y : Int), k ≤ n1 ∧ i = .int .i64 k ∧ z = .int .i64 y ∧ 0 ≤ y ∧ y ≤ 1048576) (fun _ i => n1 - (intOf i).toNat)
  case atStart => exact ⟨0, _, by omega, rfl, by first | rfl | go_num, by omega, by omega⟩
  case round =>
    obtain ⟨k, y, hk, rfl, rfl, hy0, hy1⟩ := hrel
    by_cases hlt : k < n1
    · obtain ⟨b1, o1, q1, _, hq1⟩ := H1.out.2 (by omega)
      subst q1
      obtain ⟨s, hs⟩ : ∃ s, xs[k]? = some s := ⟨_, List.getElem?_eq_getElem (by rw [H1.out.1]; exact hlt)⟩
      have d1 := hq1 k s hs
      clear hq1 hs
      by_cases hs1 : 1048576 < s.size
      · go_wp2_with fail
        go_ret
        exact ⟨_, rfl, rfl⟩
      by_cases hs2 : 1048576 < y + s.size
      · go_wp2_with fail
        go_ret
        exact ⟨_, rfl, rfl⟩
      · go_wp2_with fail
        exact ⟨⟨k + 1, _, by omega, by go_num, rfl, by omega, by omega⟩, by simp [intOf]; omega⟩
    · have hge : ¬ k < n1 := hlt
      by_cases hn1 : 1048576 < n2
      · go_wp2_with fail
        go_ret
        exact ⟨_, rfl, rfl⟩
      by_cases hn2 : 1048576 < y + (n2 : Int)
      · go_wp2_with fail
        go_ret
        exact ⟨_, rfl, rfl⟩
      go_wp2_with fail
      go_loop [7, 9] (fun z i => ∃ (k : Nat) (y : Int), k ≤ n2 ∧ i = .int .i64 k ∧ z = .int .i64 y ∧ 0 ≤ y ∧ y ≤ 1048576) (fun _ i => n2 - (intOf i).toNat)
      case atStart => exact ⟨0, _, by omega, rfl, by first | rfl | go_num, by omega, by omega⟩
      case round =>
        obtain ⟨k, y, hk, rfl, rfl, hy0, hy1⟩ := hrel
        by_cases hlt : k < n2
        · obtain ⟨b1, o1, q1, _, hq1⟩ := H2.out.2 (by omega)
          subst q1
          obtain ⟨s, hs⟩ : ∃ s, ys[k]? = some s := ⟨_, List.getElem?_eq_getElem (by rw [H2.out.1]; exact hlt)⟩
          have d1 := hq1 k s hs
          clear hq1 hs
          by_cases hs1 : 1048576 < s.size
          · go_wp2_with fail
            go_ret
            exact ⟨_, rfl, rfl⟩
          by_cases hs2 : 1048576 < y + s.size
          · go_wp2_with fail
            go_ret
            exact ⟨_, rfl, rfl⟩
          · go_wp2_with fail
            exact ⟨⟨k + 1, _, by omega, by go_num, rfl, by omega, by omega⟩, by simp [intOf]; omega⟩
        · have hge : ¬ k < n2 := hlt
          by_cases hn1 : 1048576 < n3
          · go_wp2_with fail
            go_ret
            exact ⟨_, rfl, rfl⟩
          by_cases hn2 : 1048576 < y + (n3 : Int)
          · go_wp2_with fail
            go_ret
            exact ⟨_, rfl, rfl⟩
          go_wp2_with fail
          go_loop [7, 10] (fun z i => ∃ (k : Nat) (y : Int), k ≤ n3 ∧ i = .int .i64 k ∧ z = .int .i64 y ∧ 0 ≤ y ∧ y ≤ 1048576) (fun _ i => n3 - (intOf i).toNat)
          case atStart => exact ⟨0, _, by omega, rfl, by first | rfl | go_num, by omega, by omega⟩
          case round =>
            obtain ⟨k, y, hk, rfl, rfl, hy0, hy1⟩ := hrel
            by_cases hlt : k < n3
            · obtain ⟨b1, o1, q1, _, hq1⟩ := H3.out.2 (by omega)
              subst q1
              obtain ⟨s, hs⟩ : ∃ s, zs[k]? = some s := ⟨_, List.getElem?_eq_getElem (by rw [H3.out.1]; exact hlt)⟩
              have d1 := hq1 k s hs
              clear hq1 hs
              by_cases hs1 : 1048576 < s.size
              · go_wp2_with fail
                go_ret
                exact ⟨_, rfl, rfl⟩
              by_cases hs2 : 1048576 < y + s.size
              · go_wp2_with fail
                go_ret
                exact ⟨_, rfl, rfl⟩
              · go_wp2_with fail
                exact ⟨⟨k + 1, _, by omega, by go_num, rfl, by omega, by omega⟩, by simp [intOf]; omega⟩
            · have hge : ¬ k < n3 := hlt
              go_wp2_with fail
              go_ret
              exact ⟨_, rfl, rfl⟩

end Go.Proofs.Qxb6001484a
