import Derived.Test.Qxb6001162aW14
namespace Go.Proofs.Qxb6001162a
open Go.RowKit

set_option maxHeartbeats 3200000 in
set_option maxRecDepth 100000 in
theorem law5_main (b off n cap m : Nat) (ps : List Inst) (start slots : Int) (w : World) (hl : Hid (ps.length = n)) (hi : Insts w b off ps) (hwf : Hid (∀ p ∈ ps, p.wf)) (hws : Hid (∀ p ∈ ps, p.wfs))
    (hn0 : 0 < n) (hn1 : n ≤ 4096) (hs0 : 0 ≤ slots) (hs1 : slots ≤ 65536) (hm : Hid ((m : Int) = slots / 2)) (hv : valid ps slots = true) (hin : inR start n = true) :
    Calls Try.prog 5 #[.slice (some ⟨b, off, none⟩) n cap, .int .i32 start, .int .i64 slots] w fun e w' => e = .returned (.bool true) ∧ Below w.heap.size w w' := by
  obtain ⟨st0, st1⟩ := inR_bounds hin
  have hm1 : m ≤ 32768 := by have := hm.out; omega
  have Hv := hide hv
  go_enter Try.func5, Try.ntmps5
  go_wp2_with (first | (go_at_call 19; refine (bytes19' _ _ _ _ _ _ (by omega)).mono ?_; rintro e w' ⟨rfl, rfl⟩) | (go_at_call 12; refine (valid_any b off n cap ps slots _ hl.out (by omega) (by omega) hi hwf.out (by omega) (by omega)).mono ?_; rintro e w1 ⟨rfl, hb1⟩) | (go_at_call 20; refine (inRange' _ _ _ (by omega) (by omega)).mono ?_; rintro e w' ⟨rfl, rfl⟩))
  have hblt := hi.lt (by rw [hl.out]; omega)
  have hi1 : Insts w1 b off ps := fun i p hp => rangeAt_of_heap (hi i p hp) (hb1.block b hblt)
  refine (clone_any b off n cap ps w1 hl.out hn0 hn1 hi1).mono ?_
  rintro e w2 ⟨rfl, hb2, hz2, hB2⟩
  have Hb2 := hide (hb1.trans (hb2.mono hb1.size))
  clear hi hi1 hb1 hb2
  go_wp2_with fail
  refine (build_any w1.heap.size 0 n n ps start slots w2 hl.out hn0 hn1 (insts_of_blk hB2)).mono ?_
  rintro e w3 ⟨x, g, sb, rfl, hb3, hE3⟩
  have Hb3 := hide (Hb2.out.trans (hb3.mono Hb2.out.size))
  have HB3 := hide (hB2.below hb3 hB2.lt)
  have Hc : Hid (SCtx w3.heap.size x g sb ps start slots (fun v => 0 ≤ v ∧ v < 2 * n) n m w3) :=
    hide ⟨hE3, Nat.le_refl _, hl.out, hm.out, Hv.out, hwf.out, ⟨by omega, by omega⟩, fun v h => h, closed_range Hv.out hl.out⟩
  have hz3 : w1.heap.size < w3.heap.size := by have := hb3.size; omega
  clear hb3 hE3 hB2
  go_wp2_with fail
  refine (zFirst_any w3.heap.size x g sb ps start slots (fun v => 0 ≤ v ∧ v < 2 * n) n m w3 Hc.out hws hn0 hn1 hs0 hs1).mono ?_
  rintro e w4 ⟨gb, ge, ways, ends, rfl, hle, heo, hb4, _, hBe, hgw, _⟩
  have Hb4 := hide (Hb3.out.trans (hb4.mono Hb3.out.size))
  have HI := hide (insts_of_blk (HB3.out.below hb4 (by omega)))
  have Hle := hide hle
  have Heo := hide heo
  have HBe := hide hBe
  have Hgw := hide hgw
  clear hb4 hle heo hBe hgw
  generalize (if (ways.any fun v => opAt ps v == 0) = true then Value.pointer none else Value.pointer (some ⟨gb, 0, none⟩)) = bv
  have hme : ((m : Int) != slots / 2) = false := by simp [hm.out]
  go_wp2_with fail
  go_loop [10] (fun i => ∃ k : Nat, k ≤ m ∧ i = .int .i64 k) (fun i => m - (intOf i).toNat)
  case atStart => exact ⟨0, by omega, rfl⟩
  case round =>
    obtain ⟨k, hk, rfl⟩ := hrel
    by_cases hlt : k < m
    · obtain ⟨v, hv⟩ : ∃ v, ends[k]? = some v := ⟨_, List.getElem?_eq_getElem (by rw [Hle.out]; exact hlt)⟩
      have hcv := HBe.out.cell (j := k) (v := .int .i32 v) (by unfold i32s; rw [List.getElem?_map, hv]; rfl)
      rcases Heo.out k v hv with rfl | ⟨hvw, p, hp, hop, har⟩
      · clear hv
        go_wp2_with fail
        exact ⟨⟨k + 1, by omega, by go_num⟩, by simp [intOf]; omega⟩
      · obtain ⟨hv0, hv1⟩ := Hgw.out v hvw
        have hr := HI.out _ _ hp
        obtain ⟨op, la, ch, ar, px, py, s0, s1, s2, s3⟩ := p
        simp only at hop har
        subst hop
        subst har
        obtain ⟨c0, _, _, c3, _⟩ := inst_cells hr
        rw [Nat.zero_add] at c0 c3
        have hin2 : inR (v / 2) n = true := by simp [inR]; omega
        have e1 : (v == -1) = false := beq_eq_false_iff_ne.2 (by omega)
        have e2 : ((2 * (k : Int) + 1) != 2 * (k : Int) + 1) = false := by simp
        clear hr hv hvw hp
        go_wp2_with (go_at_call 20; refine (inRange' _ _ _ (by omega) (by omega)).mono ?_; rintro e w' ⟨rfl, rfl⟩)
        exact ⟨⟨k + 1, by omega, by go_num⟩, by simp [intOf]; omega⟩
    · go_wp2_with fail
      go_ret
      exact ⟨rfl, Hb4.out⟩

theorem law5_any (a0 : Option Addr) (len cap : Nat) (ps : List Inst) (start slots : Int) (w : World) (hp : IsProg w a0 len ps) (hs : -2147483648 ≤ start ∧ start ≤ 2147483647) :
    Calls Try.prog 5 #[.slice a0 len cap, .int .i32 start, .int .i64 slots] w fun e w' => e = .returned (.bool true) ∧ Below w.heap.size w w' := by
  by_cases h : 4096 < len ∨ slots < 0 ∨ 65536 < slots ∨ len = 0 ∨ valid ps slots = false ∨ inR start len = false
  · exact law5_easy a0 len cap ps start slots w hp hs h
  · simp only [not_or, Bool.not_eq_false] at h
    obtain ⟨h1, h2, h3, h4, h5, h6⟩ := h
    obtain ⟨hl, hP, hwf, hws⟩ := hp
    obtain ⟨b, off, rfl, hi⟩ := hP (by omega)
    exact law5_main b off len cap (slots / 2).toNat ps start slots w (hide hl) hi (hide hwf) (hide hws) (by omega) (by omega) (by omega) (by omega) (hide (by omega)) h5 h6

end Go.Proofs.Qxb6001162a
