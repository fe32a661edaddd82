import Derived.Test.Qxb6001484aCp
namespace Go.Proofs.Qxb6001484a
open Go.RowKit

set_option maxHeartbeats 400000 in
theorem cloneBytes_any (a : Option Addr) (n cap : Nat) (xs : List Int) (w : World) (h : IsSl (Value.int .u8) w a n xs) (hnc : n ≤ cap) (hm : n ≤ 1048576) :
    Calls Try.prog 12 #[.slice a n cap] w (ClonePost (Value.int .u8) 5 xs n w) := by
  have hnil := fun (w : World) (a : Option Addr) (n c n' c' : Nat) => Lib.run_eql_slice_nil (P := Try.prog) w 25 5 a n c n' c' Try.underlying25
  have hmk := fun (w : World) => make_row 25 5 (.int .u8 0) 1 Try.underlying25 info5 (by omega) w n n n n rfl rfl (Nat.le_refl _) (by omega)
  obtain ⟨hl, hP⟩ := h
  have Hl := hide hl
  clear hl
  cases a with
  | none =>
    have hn0 : n = 0 := by
      by_cases h : 0 < n
      · obtain ⟨_, _, e, _⟩ := hP h; cases e
      · omega
    clear hP
    go_enter Try.func12, Try.ntmps12
    go_wp2_with fail
    go_ret
    refine ⟨none, 0, ?_, Below.refl _ _, by omega, fun h => absurd h (by omega)⟩
    rw [hn0]; rfl
  | some ad =>
    have HP := hide hP
    clear hP
    go_enter Try.func12, Try.ntmps12
    go_wp2_with fail
    go_loopw [4] (fun i wr => ∃ k : Nat, k ≤ n ∧ i = .int .i64 k ∧ CpRel (fun a => [(Value.int .u8) a]) 1 5 xs n w k wr) (fun i _ => n - (intOf i).toNat)
    case atStart => exact ⟨0, by omega, rfl, CpRel.start _ _ _ xs n w _ (by rw [zeros_size, Nat.mul_one])⟩
    case round =>
      obtain ⟨k, hk, rfl, hC⟩ := hrel
      by_cases hlt : k < n
      · obtain ⟨b, off, hab, hbl, hQ⟩ := HP.out (by omega)
        cases hab
        obtain ⟨p, hp⟩ : ∃ p, xs[k]? = some p := ⟨_, List.getElem?_eq_getElem (by rw [Hl.out]; exact hlt)⟩
        have hcp := hQ k p hp
        have hc1 : wr.cell? ⟨b, off + k, none⟩ = some ((Value.int .u8) p) := by rw [hC.1.cell (p := ⟨b, off + k, none⟩) hbl]; exact hcp
        obtain ⟨o, ho, hf⟩ := clone_there hC Hl.out hlt
        have HN := hide (clone_step hC hp hlt)
        clear hC hQ hp hcp
        go_wp2_with fail
        exact ⟨⟨k + 1, by omega, by go_num, HN.out⟩, by simp [intOf]; omega⟩
      · obtain rfl : k = n := by omega
        have HN := hide (clone_end hC Hl.out)
        clear hC
        go_wp2_with fail
        go_ret
        exact HN.out

set_option maxHeartbeats 400000 in
theorem cloneWords_any (a : Option Addr) (n cap : Nat) (xs : List Int) (w : World) (h : IsSl (Value.int .u32) w a n xs) (hnc : n ≤ cap) (hm : n ≤ 1048576) :
    Calls Try.prog 9 #[.slice a n cap] w (ClonePost (Value.int .u32) 27 xs n w) := by
  have hnil := fun (w : World) (a : Option Addr) (n c n' c' : Nat) => Lib.run_eql_slice_nil (P := Try.prog) w 22 27 a n c n' c' Try.underlying22
  have hmk := fun (w : World) => make_row 22 27 (.int .u32 0) 4 Try.underlying22 info27 (by omega) w n n n n rfl rfl (Nat.le_refl _) (by omega)
  obtain ⟨hl, hP⟩ := h
  have Hl := hide hl
  clear hl
  cases a with
  | none =>
    have hn0 : n = 0 := by
      by_cases h : 0 < n
      · obtain ⟨_, _, e, _⟩ := hP h; cases e
      · omega
    clear hP
    go_enter Try.func9, Try.ntmps9
    go_wp2_with fail
    go_ret
    refine ⟨none, 0, ?_, Below.refl _ _, by omega, fun h => absurd h (by omega)⟩
    rw [hn0]; rfl
  | some ad =>
    have HP := hide hP
    clear hP
    go_enter Try.func9, Try.ntmps9
    go_wp2_with fail
    go_loopw [4] (fun i wr => ∃ k : Nat, k ≤ n ∧ i = .int .i64 k ∧ CpRel (fun a => [(Value.int .u32) a]) 1 27 xs n w k wr) (fun i _ => n - (intOf i).toNat)
    case atStart => exact ⟨0, by omega, rfl, CpRel.start _ _ _ xs n w _ (by rw [zeros_size, Nat.mul_one])⟩
    case round =>
      obtain ⟨k, hk, rfl, hC⟩ := hrel
      by_cases hlt : k < n
      · obtain ⟨b, off, hab, hbl, hQ⟩ := HP.out (by omega)
        cases hab
        obtain ⟨p, hp⟩ : ∃ p, xs[k]? = some p := ⟨_, List.getElem?_eq_getElem (by rw [Hl.out]; exact hlt)⟩
        have hcp := hQ k p hp
        have hc1 : wr.cell? ⟨b, off + k, none⟩ = some ((Value.int .u32) p) := by rw [hC.1.cell (p := ⟨b, off + k, none⟩) hbl]; exact hcp
        obtain ⟨o, ho, hf⟩ := clone_there hC Hl.out hlt
        have HN := hide (clone_step hC hp hlt)
        clear hC hQ hp hcp
        go_wp2_with fail
        exact ⟨⟨k + 1, by omega, by go_num, HN.out⟩, by simp [intOf]; omega⟩
      · obtain rfl : k = n := by omega
        have HN := hide (clone_end hC Hl.out)
        clear hC
        go_wp2_with fail
        go_ret
        exact HN.out

set_option maxHeartbeats 400000 in
theorem cloneStrings_any (a : Option Addr) (n cap : Nat) (xs : List ByteArray) (w : World) (h : IsSl Value.string w a n xs) (hnc : n ≤ cap) (hm : n ≤ 1048576) :
    Calls Try.prog 16 #[.slice a n cap] w (ClonePost Value.string 9 xs n w) := by
  have hnil := fun (w : World) (a : Option Addr) (n c n' c' : Nat) => Lib.run_eql_slice_nil (P := Try.prog) w 33 9 a n c n' c' Try.underlying33
  have hmk := fun (w : World) => make_row 33 9 (.string ByteArray.empty) 16 Try.underlying33 info9 (by omega) w n n n n rfl rfl (Nat.le_refl _) (by omega)
  obtain ⟨hl, hP⟩ := h
  have Hl := hide hl
  clear hl
  cases a with
  | none =>
    have hn0 : n = 0 := by
      by_cases h : 0 < n
      · obtain ⟨_, _, e, _⟩ := hP h; cases e
      · omega
    clear hP
    go_enter Try.func16, Try.ntmps16
    go_wp2_with fail
    go_ret
    refine ⟨none, 0, ?_, Below.refl _ _, by omega, fun h => absurd h (by omega)⟩
    rw [hn0]; rfl
  | some ad =>
    have HP := hide hP
    clear hP
    go_enter Try.func16, Try.ntmps16
    go_wp2_with fail
    go_loopw [4] (fun i wr => ∃ k : Nat, k ≤ n ∧ i = .int .i64 k ∧ CpRel (fun a => [Value.string a]) 1 9 xs n w k wr) (fun i _ => n - (intOf i).toNat)
    case atStart => exact ⟨0, by omega, rfl, CpRel.start _ _ _ xs n w _ (by rw [zeros_size, Nat.mul_one])⟩
    case round =>
      obtain ⟨k, hk, rfl, hC⟩ := hrel
      by_cases hlt : k < n
      · obtain ⟨b, off, hab, hbl, hQ⟩ := HP.out (by omega)
        cases hab
        obtain ⟨p, hp⟩ : ∃ p, xs[k]? = some p := ⟨_, List.getElem?_eq_getElem (by rw [Hl.out]; exact hlt)⟩
        have hcp := hQ k p hp
        have hc1 : wr.cell? ⟨b, off + k, none⟩ = some (Value.string p) := by rw [hC.1.cell (p := ⟨b, off + k, none⟩) hbl]; exact hcp
        obtain ⟨o, ho, hf⟩ := clone_there hC Hl.out hlt
        have HN := hide (clone_step hC hp hlt)
        clear hC hQ hp hcp
        go_wp2_with fail
        exact ⟨⟨k + 1, by omega, by go_num, HN.out⟩, by simp [intOf]; omega⟩
      · obtain rfl : k = n := by omega
        have HN := hide (clone_end hC Hl.out)
        clear hC
        go_wp2_with fail
        go_ret
        exact HN.out

end Go.Proofs.Qxb6001484a
