import Derived.Test.Qxb6601374aW1
namespace Go.Proofs.Qxb6601374a
open Go.RowKit

/-- No range that is not empty leaves the slots. -/
def InDom (r : Rg) : Prop := r.1 ≤ r.2 → 0 ≤ r.1 ∧ r.2 < 16384
def Dom (rs : List Rg) : Prop := ∀ r ∈ rs, InDom r
def DomPost (w : World) (ls : List Line) (e : Ending) (w' : World) : Prop := ∃ b, e = .returned (.bool b) ∧ Below w.heap.size w w' ∧ (b = true → ∀ l ∈ ls, Dom l.rs)

set_option maxHeartbeats 1600000 in
theorem dom6 (a : Option Addr) (n cap : Nat) (ls : List Line) (w : World) (h : LinesAt w a n ls) (hs : Small n ls) :
    Calls Try.prog 6 #[.slice a n cap] w (DomPost w ls) := by
  obtain ⟨hl, hP, hR⟩ := h
  obtain ⟨hn, hsm⟩ := hs
  have Hl := hide hl
  have HP := hide hP
  have HR := hide hR
  have HS := hide hsm
  clear hl hP hR hsm
  go_enter Try.func6, Try.ntmps6
  go_wp2_with fail
  go_loopw [3] (fun i wr => ∃ k : Nat, k ≤ n ∧ i = .int .i64 k ∧ Hid (Below w.heap.size w wr ∧ ∀ l ∈ ls.take k, Dom l.rs)) (fun i _ => n - (intOf i).toNat)
  case atStart => exact ⟨0, by omega, rfl, hide ⟨Below.refl _ _, by simp⟩⟩
  case round =>
    obtain ⟨k, hk, rfl, HB⟩ := hrel
    by_cases hlt : k < n
    · obtain ⟨b, off, rfl, hbl, hc⟩ := HP.out (by omega)
      obtain ⟨l, hL⟩ : ∃ l, ls[k]? = some l := ⟨_, List.getElem?_eq_getElem (by rw [Hl.out]; exact hlt)⟩
      have hr0 := HR.out l (List.mem_of_getElem? hL)
      have hs0 := HS.out l (List.mem_of_getElem? hL)
      obtain ⟨id, ad, ln, cp, rs⟩ := l
      obtain ⟨c0, c1⟩ := line_cells (rangeAt_of_heap (hc k _ hL) (HB.out.1.block b hbl))
      simp only at c0 c1 hr0 hs0
      have HL := hide hL
      have Hr0 := hide hr0
      clear hL hc HP hr0
      go_wp2_with fail
      go_loopw [5] (fun i w2 => ∃ j : Nat, j ≤ ln ∧ i = .int .i64 j ∧ Hid (Below w.heap.size w w2 ∧ Dom (rs.take j))) (fun i _ => ln - (intOf i).toNat)
      case atStart => exact ⟨0, by omega, rfl, hide ⟨HB.out.1, by simp [Dom]⟩⟩
      case round =>
        obtain ⟨j, hj, rfl, HC⟩ := hrel
        by_cases hjn : j < ln
        · obtain ⟨b2, off2, rfl, hb2, hc2⟩ := Hr0.out.cells (by omega)
          obtain ⟨r, hr⟩ : ∃ r, rs[j]? = some r := ⟨_, List.getElem?_eq_getElem (by rw [Hr0.out.1]; exact hjn)⟩
          obtain ⟨d0, d1⟩ := rc_cells (rangeAt_of_heap (hc2 j r hr) (HC.out.1.block b2 hb2))
          obtain ⟨r0, r1⟩ := r
          simp only at d0 d1
          have Ht := hide (take_snoc hr)
          clear hr hc2
          have hjj : (0 : Int) ≤ (j : Int) := by omega
          have hjj2 : (j : Int) < (ln : Int) := by omega
          by_cases t1 : r0 ≤ r1
          · by_cases t2 : r0 < 0
            · go_wp2_with fail
              go_quiet (fail)
              go_wp2_with fail
              go_ret
              exact ⟨_, rfl, below_drewN HC.out.1 _, fun h => by cases h⟩
            by_cases t3 : 16384 ≤ r1
            · go_wp2_with fail
              go_quiet (fail)
              go_wp2_with fail
              go_ret
              exact ⟨_, rfl, below_drewN HC.out.1 _, fun h => by cases h⟩
            go_wp2_with fail
            go_quiet (fail)
            go_wp2_with fail
            exact ⟨⟨j + 1, by omega, by go_num, hide ⟨below_drewN HC.out.1 _, by rw [Ht.out]; exact all_snoc HC.out.2 (fun _ => ⟨by show 0 ≤ r0; omega, by show r1 < 16384; omega⟩)⟩⟩, by simp [intOf]; omega⟩
          · have e1 : decide (r0 ≤ r1) = false := decide_eq_false t1
            have HT := hide t1
            clear t1
            go_wp2_with fail
            go_quiet (fail)
            go_wp2_with fail
            exact ⟨⟨j + 1, by omega, by go_num, hide ⟨below_drewN HC.out.1 _, by rw [Ht.out]; exact all_snoc HC.out.2 (fun h => absurd h (Int.not_le.2 HT.out))⟩⟩, by simp [intOf]; omega⟩
        · obtain rfl : j = ln := by omega
          go_wp2_with fail
          exact ⟨⟨k + 1, by omega, by go_num, hide ⟨HC.out.1, by
            rw [take_snoc HL.out]
            refine all_snoc HB.out.2 ?_
            have := HC.out.2
            rw [List.take_of_length_le (by rw [Hr0.out.1]; omega)] at this
            exact this⟩⟩, by simp [intOf]; omega⟩
    · obtain rfl : k = n := by omega
      go_wp2_with fail
      go_ret
      refine ⟨_, rfl, HB.out.1, fun _ l hl => HB.out.2 l ?_⟩
      rw [List.take_of_length_le (by rw [Hl.out]; omega)]; exact hl

end Go.Proofs.Qxb6601374a
