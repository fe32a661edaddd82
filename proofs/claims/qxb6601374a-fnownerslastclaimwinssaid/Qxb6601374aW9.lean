import Derived.Test.Qxb6601374aW8
namespace Go.Proofs.Qxb6601374a
open Go.RowKit

theorem OwnPost.from {w wr : World} {cs : List Core} {e : Ending} {w' : World} (h : OwnPost wr cs e w') (hb : Below w.heap.size w wr) : OwnPost w cs e w' := by
  obtain ⟨g, F, h1, h2, h3, h4⟩ := h
  exact ⟨g, F, h1, h2, h3, hb.trans (h4.mono hb.size)⟩

set_option maxHeartbeats 3200000 in
set_option maxRecDepth 100000 in
theorem zowners9 (gi go n : Nat) (ls : List Line) (w : World) (h : Split w gi go ls) (hl : ls.length = n) (hn : n ≤ 26214) (hsm : ∀ m ∈ ls, m.len ≤ 65536) (hd : ∀ m ∈ ls, Dom m.rs) :
    Calls Try.prog 9 #[.slice (some ⟨gi, 0, none⟩) n n, .slice (some ⟨go, 0, none⟩) n n] w (OwnPost w (ls.map Line.core)) := by
  have hmk1 := fun (w : World) => make_row 34 40 znode 9 152 Try.underlying34 info40 (by omega) w n (by omega)
  have Hl := hide hl
  have HN := hide h
  have HS := hide hsm
  have HD := hide hd
  clear hl h hsm hd
  go_enter Try.func9, Try.ntmps9
  go_wp2_with fail
  go_loopw [15] (fun i wr => ∃ k : Nat, k ≤ n ∧ i = .int .i64 k ∧ Hid (∃ ms, NOut ls n w k ms wr)) (fun i _ => n - (intOf i).toNat)
  case atStart => exact ⟨0, by omega, rfl, hide ⟨[], NOut.start ls n w⟩⟩
  case round =>
    obtain ⟨k, hk, rfl, HO⟩ := hrel
    obtain ⟨ms, hO⟩ := HO.out
    clear HO
    rename World => w1
    by_cases hlt : k < n
    · obtain ⟨l, hL⟩ : ∃ l, ls[k]? = some l := ⟨_, List.getElem?_eq_getElem (by rw [Hl.out]; exact hlt)⟩
      have hs0 := HS.out l (List.mem_of_getElem? hL)
      have hr1 := (HN.out.rows l (List.mem_of_getElem? hL)).below hO.below
      have HI := hide (HN.out.below hO.below)
      obtain ⟨id, ad, ln, cp, rs⟩ := l
      have c1 : w1.cell? ⟨go, k, none⟩ = some (.slice ad ln cp) := HI.out.own.cell (by rw [List.getElem?_map, hL]; rfl)
      simp only at hs0
      have HO := hide hO
      have HL := hide hL
      have Hr1 := hide hr1
      clear hO hL hr1
      go_wp2_with fail
      go_loopw [7, 27] (fun v i w2 => ∃ j : Nat, j ≤ ln ∧ i = .int .i64 j ∧ Hid (Row2 w2 w1.heap.size v (rs.take j) ∧ Below w1.heap.size w1 w2)) (fun _ i _ => ln - (intOf i).toNat)
      case atStart => exact ⟨0, by omega, rfl, hide ⟨World.ownsRow_nil _ _ _ _, Below.refl _ _⟩⟩
      case round =>
        obtain ⟨j, hj, rfl, HR⟩ := hrel
        rename World => w3
        clear c1
        by_cases hjn : j < ln
        · obtain ⟨b2, off2, e, hb2, hc2⟩ := Hr1.out.cells (by exact Nat.lt_of_le_of_lt (Nat.zero_le _) hjn)
          subst e
          obtain ⟨r, hr⟩ : ∃ r, rs[j]? = some r := ⟨_, List.getElem?_eq_getElem (by have := Hr1.out.1; omega)⟩
          have hr2 := rangeAt_of_heap (hc2 j r hr) (HR.out.2.block b2 hb2)
          have Ht := hide (take_snoc hr)
          clear hr hc2
          go_wp2_with (first | (with_reducible refine at_load 33 ?_; refine wpList_load_mid rfl 33 (.tmp 29) rfl b2 (off2 + j * 2) rfl (rc r) _ hr2 Try.underlying33 rfl (rc_size33 r) ?_) | (with_reducible refine at_store 33 ?_; refine Hid.out ?_))
          unfold Hid
          refine wpList_store_blk rfl 33 (.tmp 9) (.tmp 30) rfl w3.heap.size _ 33 (Blk.new' _ _ _) (rc r) rfl rfl rfl (rc_size33 r) (rc_one r) ?_
          intro w4 H4
          have hb4 := H4.out.2.1 w3.heap.size w3 ((Below.refl _ _).alloc (Nat.le_refl _) _) (Nat.le_refl _)
          have HR4 := hide (HR.out.1.below hb4)
          have HW4 := hide (HR.out.2.trans (hb4.mono HR.out.2.size))
          have HC4 := hide H4.out.1
          obtain ⟨r0, r1⟩ := r
          have q0 : w4.cell? ⟨w3.heap.size, 0, none⟩ = some (.int .i64 r0) := HC4.out.cell rfl
          have q1 : w4.cell? ⟨w3.heap.size, 1, none⟩ = some (.int .i64 r1) := HC4.out.cell rfl
          clear H4 hb4 hr2
          go_wp2_with (with_reducible refine at_append (.tmp 31) (.tmp 37) ?_; refine Hid.out ?_)
          unfold Hid
          have hal := HW4.out.alloc HW4.out.size (.cells #[.int .i64 r0, .int .i64 r1] 37)
          refine wp_push2 rfl (.tmp 31) (.tmp 37) rfl w1.heap.size _ (rs.take j) (by rfl) (HR4.out.below ((Below.refl _ _).alloc (Nat.le_refl _) _)) w4.heap.size (r0, r1) (by rfl) (Blk.new _ (rc (r0, r1)) 37) (by rw [List.length_take]; omega) w1.heap.size w1 hal (Nat.le_refl _) hal.size ?_
          intro v5 w5 H5
          rw [← Ht.out] at H5
          clear HR4 HW4 HC4 q0 q1 hal HR
          go_wp2_with fail
          exact ⟨⟨j + 1, by omega, by go_num, H5⟩, by simp [intOf]; omega⟩
        · have hR3 := HR.out.1
          rw [List.take_of_length_le (by have := Hr1.out.1; omega)] at hR3
          obtain ⟨ad3, cap3, hv3, hr3⟩ := hR3.rs
          have hlen3 : rs.length = ln := Hr1.out.1
          rw [hlen3] at hv3 hr3
          subst hv3
          have c0 : w3.cell? ⟨gi, k, none⟩ = some (.string id) := (HI.out.ids.below HR.out.2 HI.out.ids.lt).cell (by rw [List.getElem?_map, HL.out]; rfl)
          have ht := HO.out.there hlt HR.out.2
          have HN3 := hide (HO.out.step (m := ⟨id, ad3, ln, cap3, rs⟩) HL.out rfl hlt HR.out.2 (hr3.mono (by have := HO.out.lt; omega)))
          clear hR3 hr3 hlen3 HR
          go_wp2_with (with_reducible refine at_store 40 ?_; refine Hid.out ?_)
          unfold Hid
          refine wpList_store_mid rfl 40 (.tmp 48) (.tmp 47) rfl w.heap.size (k * 9) (Line.ncells ⟨id, ad3, ln, cap3, rs⟩).toArray rfl rfl ht size40 (all_oneCell_toArray (Line.ncells_one _)) ?_
          go_wp2_with fail
          exact ⟨⟨k + 1, by omega, by go_num, hide ⟨_, HN3.out⟩⟩, by simp [intOf]; omega⟩
    · obtain rfl : k = n := by omega
      have hcore : ms.map Line.core = ls.map Line.core := by rw [hO.core, List.take_of_length_le (by rw [List.length_map, Hl.out]; exact Nat.le_refl _)]
      have HC := hide (owners10 w.heap.size k k ms (ls.map Line.core) w1 hO.done hO.len hcore.symm hn
        (fun m hm => by obtain ⟨l, hl, e⟩ := of_cores hcore hm; have h1 := (hO.rows m hm).1; have h2 := (HN.out.rows l hl).1; have h3 := HS.out l hl; rw [e] at h1; omega)
        (fun m hm => by obtain ⟨l, hl, e⟩ := of_cores hcore hm; rw [e]; exact HD.out l hl))
      have HB := hide hO.below
      clear hO hcore
      go_wp2_with fail
      refine HC.out.mono ?_
      intro e w5 hP
      have hP2 := OwnPost.from hP HB.out
      obtain ⟨g, F, rfl, r⟩ := hP2
      have HR := hide r
      clear r hP HC
      go_wp2_with fail
      go_ret
      exact ⟨g, F, rfl, HR.out⟩

end Go.Proofs.Qxb6601374a
