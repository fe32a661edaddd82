import Derived.Test.Qxb6001484aW2
namespace Go.Proofs.Qxb6001484a
open Go.RowKit

theorem zcode_any (b off n cap : Nat) (bs : List Int) (w : World) (hn : bs.length = n) (h0 : 0 < n) (hm : n ≤ 1048576) (hb : Bytes w b off bs) (hr : ∀ v ∈ bs, 0 ≤ v ∧ v ≤ 255) :
    Calls Try.prog 10 #[.slice (some ⟨b, off, none⟩) n cap] w (CodePost (codeLen bs) w) := by
  have HC := hide (codeLength_any b off n cap bs w hn h0 hm hb hr)
  clear hn hb hr
  go_enter Try.func10, Try.ntmps10
  go_wp2_with fail
  refine HC.out.mono ?_
  rintro e w' ⟨rfl, rfl⟩
  go_wp2_with fail
  go_ret
  exact ⟨rfl, rfl⟩

theorem bytes11 (a : Option Addr) (len cap : Nat) (w : World) (h : len ≤ 1048576) :
    Calls Try.prog 11 #[.slice a len cap] w fun e w' => e = .returned (.bool true) ∧ w = w' := by
  go_enter Try.func11, Try.ntmps11
  go_wp2
  go_ret
  exact ⟨rfl, rfl⟩
theorem bytes11_no (a : Option Addr) (len cap : Nat) (w : World) (h : 1048576 < len) :
    Calls Try.prog 11 #[.slice a len cap] w fun e w' => e = .returned (.bool false) ∧ w = w' := by
  go_enter Try.func11, Try.ntmps11
  go_wp2
  go_ret
  exact ⟨rfl, rfl⟩
theorem bytes8 (a : Option Addr) (len cap : Nat) (w : World) (h : len ≤ 1048576) :
    Calls Try.prog 8 #[.slice a len cap] w fun e w' => e = .returned (.bool true) ∧ w = w' := by
  go_enter Try.func8, Try.ntmps8
  go_wp2
  go_ret
  exact ⟨rfl, rfl⟩
theorem bytes8_no (a : Option Addr) (len cap : Nat) (w : World) (h : 1048576 < len) :
    Calls Try.prog 8 #[.slice a len cap] w fun e w' => e = .returned (.bool false) ∧ w = w' := by
  go_enter Try.func8, Try.ntmps8
  go_wp2
  go_ret
  exact ⟨rfl, rfl⟩

/-- The four lengths; and each code is found again in its own bytes alone. -/
theorem codeLen_cases (b0 : Int) (r : List Int) : (codeLen (b0 :: r) = 0 ∧ ¬ b0 < 128) ∨ (codeLen (b0 :: r) = 1 ∧ b0 < 128 ∧ codeLen ((b0 :: r).take 1) = 1) ∨
    (codeLen (b0 :: r) = 2 ∧ ¬ b0 < 128 ∧ 2 ≤ (b0 :: r).length ∧ codeLen ((b0 :: r).take 2) = 2) ∨ (codeLen (b0 :: r) = 4 ∧ ¬ b0 < 128 ∧ 4 ≤ (b0 :: r).length ∧ codeLen ((b0 :: r).take 4) = 4) := by
  by_cases t0 : b0 < 128
  · right; left; simp [codeLen, t0]
  by_cases t1 : b0 = 128 ∨ b0 = 255
  · left; simp [codeLen, t0, t1]
  match r with
  | [] => left; simp [codeLen, t0, t1]
  | b1 :: r1 =>
    by_cases t3 : 64 ≤ b1 ∧ b1 ≤ 254 ∧ ¬ b1 = 127
    · right; right; left; simp [codeLen, t0, t1, t3]
    match r1 with
    | [] => left; simp [codeLen, t0, t1, t3]
    | [_] => left; simp [codeLen, t0, t1, t3]
    | b2 :: b3 :: r3 =>
      by_cases t4 : (48 ≤ b1 ∧ b1 ≤ 57) ∧ (129 ≤ b2 ∧ b2 ≤ 254) ∧ 48 ≤ b3 ∧ b3 ≤ 57
      · right; right; right; simp [codeLen, t0, t1, t3, t4]
      · left; simp [codeLen, t0, t1, t3, t4]

theorem bytes_of_blk {w : World} {g t : Nat} {bs : List Int} (h : Blk w g (bs.map (Value.int .u8)) t) : Bytes w g 0 bs := fun i v hv => by
  rw [Nat.zero_add]; exact h.cell (by rw [List.getElem?_map, hv]; rfl)

theorem Bytes.take {w : World} {b off : Nat} {bs : List Int} (h : Bytes w b off bs) (k : Nat) : Bytes w b off (bs.take k) := fun i v hv => by
  rw [List.getElem?_take] at hv
  split at hv
  · exact h i v hv
  · cases hv

set_option maxHeartbeats 1600000 in
theorem law4_any (a0 : Option Addr) (n cap : Nat) (bs : List Int) (w : World) (h : IsSl (Value.int .u8) w a0 n bs) (hnc : n ≤ cap) (hr : ∀ v ∈ bs, 0 ≤ v ∧ v ≤ 255) :
    Calls Try.prog 4 #[.slice a0 n cap] w fun e w' => e = .returned (.bool true) ∧ Below w.heap.size w w' := by
  by_cases h1 : 1048576 < n
  · clear h hr
    go_enter Try.func4, Try.ntmps4
    go_wp2_with (go_at_call 11; refine (bytes11_no _ _ _ _ h1).mono ?_; rintro e w' ⟨rfl, rfl⟩)
    go_ret
    exact ⟨rfl, Below.refl _ _⟩
  by_cases h0 : n = 0
  · subst h0
    clear h hr
    go_enter Try.func4, Try.ntmps4
    go_wp2_with (go_at_call 11; refine (bytes11 _ _ _ _ (by omega)).mono ?_; rintro e w' ⟨rfl, rfl⟩)
    go_ret
    exact ⟨rfl, Below.refl _ _⟩
  have hne : ((n : Int) == 0) = false := beq_eq_false_iff_ne.2 (by omega)
  have HC := hide (cloneBytes_any a0 n cap bs w h hnc (by omega))
  have hl := h.1
  match bs, hl with
  | [], hl => simp at hl; omega
  | b0 :: r, hl =>
    have Hl := hide hl
    have Hr := hide hr
    have hb0 := hr b0 (by simp)
    have hK := codeLen_cases b0 r
    clear hl h hr
    go_enter Try.func4, Try.ntmps4
    go_wp2_with (go_at_call 11; refine (bytes11 _ _ _ _ (by omega)).mono ?_; rintro e w' ⟨rfl, rfl⟩)
    refine HC.out.mono ?_
    rintro e w1 ⟨a, c, rfl, hb1, hc1, hB⟩
    obtain ⟨rfl, hB2⟩ := hB (by omega)
    have hby := bytes_of_blk hB2
    have c0 : w1.cell? ⟨w.heap.size, 0, none⟩ = some (.int .u8 b0) := hby 0 b0 rfl
    have Hb1 := hide hb1
    have HZ := hide (zcode_any w.heap.size 0 n c (b0 :: r) w1 Hl.out (by omega) (by omega) hby Hr.out)
    have HY := hide (fun k (hk : 0 < k) (hk2 : k ≤ n) => zcode_any w.heap.size 0 k c ((b0 :: r).take k) w1 (by rw [List.length_take, Hl.out]; omega) hk (by omega) (hby.take k) (fun v hv => Hr.out v (List.mem_of_mem_take hv)))
    clear hB hB2 hby hb1 HC
    have hln := Hl.out
    rcases hK with ⟨k1, k2⟩ | ⟨k1, k2, k3⟩ | ⟨k1, k2, k3, k4⟩ | ⟨k1, k2, k3, k4⟩
    · have HK := hide k1
      clear k1 hln
      go_wp2_with fail
      refine HZ.out.mono ?_
      rintro e w' ⟨rfl, rfl⟩
      rw [HK.out]
      go_wp2_with fail
      go_ret
      exact ⟨rfl, Hb1.out⟩
    · have HK := hide (And.intro k1 k3)
      clear k1 k3 hln
      go_wp2_with fail
      refine HZ.out.mono ?_
      rintro e w' ⟨rfl, rfl⟩
      rw [HK.out.1]
      go_wp2_with fail
      refine (HY.out 1 (by omega) (by omega)).mono ?_
      rintro e w' ⟨rfl, rfl⟩
      rw [HK.out.2]
      go_wp2_with fail
      go_ret
      exact ⟨rfl, Hb1.out⟩
    · have HK := hide (And.intro k1 k4)
      have hn2 : 2 ≤ n := by omega
      clear k1 k4 hln k3
      go_wp2_with fail
      refine HZ.out.mono ?_
      rintro e w' ⟨rfl, rfl⟩
      rw [HK.out.1]
      go_wp2_with fail
      refine (HY.out 2 (by omega) (by omega)).mono ?_
      rintro e w' ⟨rfl, rfl⟩
      rw [HK.out.2]
      go_wp2_with fail
      go_ret
      exact ⟨rfl, Hb1.out⟩
    · have HK := hide (And.intro k1 k4)
      have hn4 : 4 ≤ n := by omega
      clear k1 k4 hln k3
      go_wp2_with fail
      refine HZ.out.mono ?_
      rintro e w' ⟨rfl, rfl⟩
      rw [HK.out.1]
      go_wp2_with fail
      refine (HY.out 4 (by omega) (by omega)).mono ?_
      rintro e w' ⟨rfl, rfl⟩
      rw [HK.out.2]
      go_wp2_with fail
      go_ret
      exact ⟨rfl, Hb1.out⟩

end Go.Proofs.Qxb6001484a
