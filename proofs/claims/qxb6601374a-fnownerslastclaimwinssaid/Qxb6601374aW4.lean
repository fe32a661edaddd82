import Derived.Test.Qxb6601374aW3
namespace Go.Proofs.Qxb6601374a
open Go.RowKit

theorem rc_there {n : Nat} {w wr : World} {k : Nat} {rs : List Rg} {t : TypeId} (h : CpRel rc 2 t rs n w k wr) (hn : rs.length = n) (hk : k < n) (r : Rg) : wr.there w.heap.size (k * 2) (rc r).toArray.size := h.there rc_len hn hk
theorem rc_size33 (r : Rg) : (Try.prog.info? 33).map (·.size) = some (rc r).length := size33
theorem rc_size33' (r : Rg) : (Try.prog.info? 33).map (·.size) = some (rc r).toArray.size := size33

set_option maxHeartbeats 3200000 in
set_option maxRecDepth 100000 in
theorem clone7 (a : Option Addr) (n cap : Nat) (ls : List Line) (w : World) (h : LinesAt w a n ls) (hs : Small n ls) :
    Calls Try.prog 7 #[.slice a n cap] w (LinesPost w n ls) := by
  have hmk1 := fun (w : World) => make_row 22 32 zline 2 40 Try.underlying22 info32 (by omega) w n (by have := hs.1; omega)
  have hnil := fun (w : World) (a : Option Addr) (n c n' c' : Nat) => Lib.run_eql_slice_nil (P := Try.prog) w 22 32 a n c n' c' Try.underlying22
  have hnq := fun (w : World) (a : Option Addr) (n c n' c' : Nat) => run_neq_slice_nil_any (P := Try.prog) w 30 33 a n c n' c' Try.underlying30
  obtain ⟨hl, hP, hR⟩ := h
  obtain ⟨hn, hsm⟩ := hs
  have Hl := hide hl
  have HP := hide hP
  have HR := hide hR
  have HS := hide hsm
  clear hl hP hR hsm
  cases a with
  | none =>
    have hn0 : n ≤ 0 := by
      by_cases h0 : 0 < n
      · obtain ⟨_, _, e, _⟩ := HP.out h0; cases e
      · omega
    go_enter Try.func7, Try.ntmps7
    go_wp2_with fail
    go_ret
    obtain rfl : n = 0 := by omega
    obtain rfl : ls = [] := List.eq_nil_of_length_eq_zero Hl.out
    exact ⟨none, 0, [], rfl, ⟨rfl, fun h => absurd h (by omega), by simp⟩, rfl, Below.refl _ _⟩
  | some x =>
    go_enter Try.func7, Try.ntmps7
    go_wp2_with fail
    go_loopw [4] (fun i wr => ∃ k : Nat, k ≤ n ∧ i = .int .i64 k ∧ Hid (∃ ms, COut ls n w k ms wr)) (fun i _ => n - (intOf i).toNat)
    case atStart => exact ⟨0, by omega, rfl, hide ⟨[], COut.start ls n w⟩⟩
    case round =>
      obtain ⟨k, hk, rfl, HO⟩ := hrel
      obtain ⟨ms, hO⟩ := HO.out
      clear HO
      rename World => w1
      by_cases hlt : k < n
      · obtain ⟨b, off, e, hbl, hc⟩ := HP.out (by omega)
        cases e
        obtain ⟨l, hL⟩ : ∃ l, ls[k]? = some l := ⟨_, List.getElem?_eq_getElem (by rw [Hl.out]; exact hlt)⟩
        have hr0 := HR.out l (List.mem_of_getElem? hL)
        have hs0 := HS.out l (List.mem_of_getElem? hL)
        have hrl := rangeAt_of_heap (hc k _ hL) (hO.below.block b hbl)
        have hblr : b < w1.heap.size := by have := hO.below.size; omega
        have hr1 := hr0.below hO.below
        obtain ⟨id, ad, ln, cp, rs⟩ := l
        obtain ⟨c0, c1⟩ := line_cells hrl
        simp only at c0 c1 hr0 hr1 hs0
        cases ad with
        | none =>
          have hln : ln ≤ 0 := by
            by_cases h0 : 0 < ln
            · obtain ⟨_, _, e, _⟩ := hr0.2 h0; cases e
            · omega
          have hrs : rs = [] := List.eq_nil_of_length_eq_zero (by have := hr0.1; omega)
          have ht := hO.there hlt (Below.refl _ _)
          have HN := hide (hO.step (m := ⟨id, none, 0, 0, []⟩) hL (by rw [hrs]; rfl) hlt (Below.refl _ _) ⟨rfl, fun h => absurd h (by show ¬ 0 < 0; omega)⟩)
          clear hO hL hrl hc HP hr0 hr1 hrs
          go_wp2_with (with_reducible refine at_store 32 ?_; refine Hid.out ?_)
          unfold Hid
          refine wpList_store_mid rfl 32 (.tmp 57) (.tmp 56) rfl w.heap.size (k * 2) (Line.cells ⟨id, none, 0, 0, []⟩).toArray rfl rfl ht size32 (all_oneCell_toArray (Line.cells_one _)) ?_
          go_wp2_with fail
          exact ⟨⟨k + 1, by omega, by go_num, hide ⟨_, HN.out⟩⟩, by simp [intOf]; omega⟩
        | some ad =>
          have hmk2 := fun (w : World) => make_row 30 33 zrange 2 16 Try.underlying30 info33 (by omega) w ln (by omega)
          have HO := hide hO
          have HL := hide hL
          have Hrl := hide hrl
          have Hr1 := hide hr1
          clear hO hL hrl hc HP hr0 hr1
          go_wp2_with fail
          go_loopw [6] (fun i w2 => ∃ j : Nat, j ≤ ln ∧ i = .int .i64 j ∧ CpRel rc 2 33 rs ln w1 j w2) (fun i _ => ln - (intOf i).toNat)
          case atStart => exact ⟨0, by omega, rfl, CpRel.start rc 2 33 rs ln w1 (zrow zrange (ln * 2)) (zrow_size _ _)⟩
          case round =>
            obtain ⟨j, hj, rfl, hC⟩ := hrel
            by_cases hjn : j < ln
            · obtain ⟨b2, off2, e, hb2, hc2⟩ := Hr1.out.cells (by omega)
              cases e
              obtain ⟨r, hr⟩ : ∃ r, rs[j]? = some r := ⟨_, List.getElem?_eq_getElem (by rw [Hr1.out.1]; exact hjn)⟩
              obtain ⟨_, d1⟩ := line_cells (rangeAt_of_heap Hrl.out (hC.1.block b hblr))
              have hr2 := rangeAt_of_heap (hc2 j r hr) (hC.1.block b2 hb2)
              have ht := rc_there hC Hr1.out.1 hjn r
              have HN := hide (hC.step rc_len hr hjn)
              simp only at d1
              clear hC hr hc2 c0 c1
              go_wp2_with (first | (with_reducible refine at_load 33 ?_; refine wpList_load_mid rfl 33 (.tmp 45) rfl b2 (off2 + j * 2) rfl (rc r) _ hr2 Try.underlying33 rfl (rc_size33 r) ?_) | (with_reducible refine at_store 33 ?_; refine wpList_store_mid rfl 33 (.tmp 47) (.tmp 46) rfl w1.heap.size (j * 2) (rc r).toArray rfl rfl ht (rc_size33' r) (all_oneCell_toArray (rc_one r)) ?_))
              exact ⟨⟨j + 1, by omega, by go_num, HN.out⟩, by simp [intOf]; omega⟩
            · obtain rfl : j = ln := by omega
              have hd := hC.done Hr1.out.1
              have ht := HO.out.there hlt hC.1
              obtain ⟨d0, _⟩ := line_cells (rangeAt_of_heap Hrl.out (hC.1.block b hblr))
              have hq := rs_of_blk hd (w.heap.size + 1) (by have := HO.out.lt; omega)
              rw [Hr1.out.1] at hq
              have HN := hide (HO.out.step (m := ⟨id, some ⟨w1.heap.size, 0, none⟩, j, j, rs⟩) HL.out rfl hlt hC.1 hq)
              simp only at d0
              clear hC hd hq c0 c1
              go_wp2_with (with_reducible refine at_store 32 ?_; refine Hid.out ?_)
              unfold Hid
              refine wpList_store_mid rfl 32 (.tmp 57) (.tmp 56) rfl w.heap.size (k * 2) (Line.cells ⟨id, some ⟨w1.heap.size, 0, none⟩, j, j, rs⟩).toArray rfl rfl ht size32 (all_oneCell_toArray (Line.cells_one _)) ?_
              go_wp2_with fail
              exact ⟨⟨k + 1, by omega, by go_num, hide ⟨_, HN.out⟩⟩, by simp [intOf]; omega⟩
      · obtain rfl : k = n := by omega
        have HD := hide (hO.done Hl.out)
        clear hO
        go_wp2_with fail
        go_ret
        exact HD.out

end Go.Proofs.Qxb6601374a
