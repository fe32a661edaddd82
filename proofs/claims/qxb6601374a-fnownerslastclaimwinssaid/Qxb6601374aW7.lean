import Derived.Test.Qxb6601374aW6
namespace Go.Proofs.Qxb6601374a
open Go.RowKit

/-- The slots that the line holds so far: her first 'j' ranges, and the next one up to 't'. -/
def Part (cs : List Core) (k : Nat) (id : ByteArray) (rs : List Rg) (F : Nat → ByteArray) : Prop := ∀ s : Nat, s < 16384 → F s = if hits (id, rs) s = true then id else owner (cs.take k) s
def Part2 (cs : List Core) (k : Nat) (id : ByteArray) (rs : List Rg) (r0 t : Int) (F : Nat → ByteArray) : Prop := ∀ s : Nat, s < 16384 → F s = if hits (id, rs) s = true ∨ (r0 ≤ (s : Int) ∧ (s : Int) < t) then id else owner (cs.take k) s

theorem part_line {cs : List Core} {k : Nat} {id : ByteArray} {rs : List Rg} {F : Nat → ByteArray} (h : Part cs k id rs F) (hk : cs[k]? = some (id, rs)) : ∀ s : Nat, s < 16384 → F s = owner (cs.take (k + 1)) s := by
  intro s hs; rw [h s hs, take_snoc hk, owner_snoc]
theorem part_start {cs : List Core} {k : Nat} (id : ByteArray) {F : Nat → ByteArray} (h : ∀ s : Nat, s < 16384 → F s = owner (cs.take k) s) : Part cs k id [] F := by
  intro s hs; rw [h s hs]; rfl
theorem part2_start {cs : List Core} {k : Nat} {id : ByteArray} {rs : List Rg} {F : Nat → ByteArray} (h : Part cs k id rs F) (r0 : Int) : Part2 cs k id rs r0 r0 F := by
  intro s hs; rw [h s hs]
  have : ¬ (r0 ≤ (s : Int) ∧ (s : Int) < r0) := by omega
  simp only [this, or_false]
theorem part2_step {cs : List Core} {k : Nat} {id : ByteArray} {rs : List Rg} {r0 : Int} {t : Nat} {F : Nat → ByteArray} (h : Part2 cs k id rs r0 t F) (hr : r0 ≤ t) : Part2 cs k id rs r0 ((t : Int) + 1) (fun s => if s = t then id else F s) := by
  intro s hs
  show (if s = t then id else F s) = _
  by_cases e : s = t
  · subst e
    rw [if_pos rfl, if_pos (.inr ⟨hr, by omega⟩)]
  · rw [if_neg e, h s hs]
    have : (r0 ≤ (s : Int) ∧ (s : Int) < (t : Int) + 1) ↔ (r0 ≤ (s : Int) ∧ (s : Int) < t) := by omega
    simp only [this]
theorem part2_done {cs : List Core} {k : Nat} {id : ByteArray} {rs : List Rg} {r : Rg} {t : Int} {F : Nat → ByteArray} (h : Part2 cs k id rs r.1 t F) (ht : (r.1 ≤ r.2 ∧ t = r.2 + 1) ∨ (r.2 < r.1 ∧ t = r.1)) : Part cs k id (rs ++ [r]) F := by
  intro s hs
  rw [h s hs, hits_snoc]
  have : (r.1 ≤ (s : Int) ∧ (s : Int) < t) ↔ (r.1 ≤ (s : Int) ∧ (s : Int) ≤ r.2) := by omega
  simp only [this, Bool.or_eq_true, decide_eq_true_eq]

set_option maxHeartbeats 3200000 in
set_option maxRecDepth 100000 in
theorem owners10 (g n cap : Nat) (ms : List Line) (cs : List Core) (w : World) (h : Nodes w g ms) (hl : ms.length = n) (hcs : cs = ms.map Line.core) (hn : n ≤ 26214) (hsm : ∀ m ∈ ms, m.len ≤ 65536) (hd : ∀ m ∈ ms, Dom m.rs) :
    Calls Try.prog 10 #[.slice (some ⟨g, 0, none⟩) n cap] w (OwnPost w cs) := by
  have hmk1 := make_slots
  have Hl := hide hl
  have HN := hide h
  have HS := hide hsm
  have HD := hide hd
  have Hcs := hide hcs
  clear hl h hsm hd hcs
  go_enter Try.func10, Try.ntmps10
  go_wp2_with fail
  go_loopw [12] (fun i wr => ∃ k : Nat, k ≤ n ∧ i = .int .i64 k ∧ Hid (∃ F, OMem w F wr ∧ ∀ s : Nat, s < 16384 → F s = owner (cs.take k) s)) (fun i _ => n - (intOf i).toNat)
  case atStart => exact ⟨0, by omega, rfl, hide ⟨_, ⟨(Below.refl _ _).alloc (Nat.le_refl _) _, slots_start w⟩, fun _ _ => rfl⟩⟩
  case round =>
    obtain ⟨k, hk, rfl, HO⟩ := hrel
    rename World => w1
    by_cases hlt : k < n
    · obtain ⟨m, hm⟩ : ∃ m, ms[k]? = some m := ⟨_, List.getElem?_eq_getElem (by rw [Hl.out]; exact hlt)⟩
      have hs0 := HS.out m (List.mem_of_getElem? hm)
      have hd0 := HD.out m (List.mem_of_getElem? hm)
      obtain ⟨F, hM, hF⟩ := HO.out
      have hr := rangeAt_of_heap (HN.out.blk k m hm) (hM.below.block g HN.out.lt)
      have hr0 := HN.out.rows m (List.mem_of_getElem? hm)
      have hck : cs[k]? = some m.core := by rw [Hcs.out, List.getElem?_map, hm]; rfl
      have Hck := hide hck
      have HM := hide hM
      have HF := hide hF
      have Hr0 := hide hr0
      have HD0 := hide hd0
      clear hm HO hM hF hr0 hck hd0
      go_wp2_with (first | (with_reducible refine at_load 40 ?_; refine wpList_load_mid rfl 40 (.tmp 14) rfl g (k * 9) rfl m.ncells _ hr Try.underlying40 rfl m.size40 ?_) | (with_reducible refine at_store 40 ?_; refine Hid.out ?_))
      unfold Hid
      refine wpList_store_blk rfl 40 (.tmp 5) (.tmp 15) rfl w1.heap.size _ 40 (Blk.new' _ _ _) m.ncells rfl rfl rfl m.size40 m.ncells_one ?_
      intro w2 H2
      have hlw : w.heap.size < w1.heap.size := HM.out.slots.lt
      have HM2 := hide (HM.out.more (H2.out.2.1 w1.heap.size w1 ((Below.refl _ _).alloc (Nat.le_refl _) _) (Nat.le_refl _)))
      have HB2 := hide H2.out.1
      obtain ⟨id, ad, ln, cp, rs⟩ := m
      have e7 : w2.cell? ⟨w1.heap.size, 7, none⟩ = some (.slice ad ln cp) := HB2.out.cell rfl
      simp only at hs0
      clear H2 HM hr
      go_wp2_with fail
      go_loopw [19] (fun i wr => ∃ j : Nat, j ≤ ln ∧ i = .int .i64 j ∧ Hid (∃ F, OMem w F wr ∧ Blk wr w1.heap.size (Line.ncells ⟨id, ad, ln, cp, rs⟩) 40 ∧ Part cs k id (rs.take j) F)) (fun i _ => ln - (intOf i).toNat)
      case atStart => exact ⟨0, by omega, rfl, hide ⟨F, HM2.out, HB2.out, part_start id HF.out⟩⟩
      case round =>
        obtain ⟨j, hj, rfl, HP⟩ := hrel
        rename World => w3
        clear e7 HM2 HB2 HF
        by_cases hjn : j < ln
        · obtain ⟨b2, off2, e, hb2, hc2⟩ := Hr0.out.cells (by exact Nat.lt_of_le_of_lt (Nat.zero_le _) hjn)
          subst e
          obtain ⟨r, hr⟩ : ∃ r, rs[j]? = some r := ⟨_, List.getElem?_eq_getElem (by have := Hr0.out.1; omega)⟩
          obtain ⟨F3, hM3, hB3, hP3⟩ := HP.out
          have hr2 := rangeAt_of_heap (hc2 j r hr) (hM3.below.block b2 hb2)
          have hdr := HD0.out r (List.mem_of_getElem? hr)
          have HM3 := hide hM3
          have HB3 := hide hB3
          have HP3 := hide hP3
          have Ht := hide (take_snoc hr)
          clear hM3 hB3 hP3 HP hr hc2
          go_wp2_with (first | (with_reducible refine at_load 37 ?_; refine wpList_load_mid rfl 37 (.tmp 21) rfl b2 (off2 + j * 2) rfl (rc r) _ hr2 Try.underlying37 rfl (rc_size37 r) ?_) | (with_reducible refine at_store 37 ?_; refine Hid.out ?_))
          unfold Hid
          refine wpList_store_blk rfl 37 (.tmp 7) (.tmp 22) rfl w3.heap.size _ 37 (Blk.new' _ _ _) (rc r) rfl rfl rfl (rc_size37 r) (rc_one r) ?_
          intro w4 H4
          have hb4 := H4.out.2.1 w3.heap.size w3 ((Below.refl _ _).alloc (Nat.le_refl _) _) (Nat.le_refl _)
          have HM4 := hide (HM3.out.more hb4)
          have HB4 := hide (HB3.out.below hb4 HB3.out.lt)
          have HC4 := hide H4.out.1
          have hl3 : w.heap.size < w3.heap.size := HM3.out.slots.lt
          obtain ⟨r0, r1⟩ := r
          have q0 : w4.cell? ⟨w3.heap.size, 0, none⟩ = some (.int .i64 r0) := HC4.out.cell rfl
          have HDr := hide hdr
          clear H4 hb4 HM3 HB3 hr2 hdr
          go_wp2_with fail
          go_loopw [8] (fun i wr => ∃ t : Int, r0 ≤ t ∧ ((r0 ≤ r1 ∧ t ≤ r1 + 1) ∨ (r1 < r0 ∧ t = r0)) ∧ i = .int .i64 t ∧ Hid (∃ F, OMem w F wr ∧ Blk wr w1.heap.size (Line.ncells ⟨id, some ⟨b2, off2, none⟩, ln, cp, rs⟩) 40 ∧ Blk wr w3.heap.size (rc (r0, r1)) 37 ∧ Part2 cs k id (rs.take j) r0 t F)) (fun i _ => (r1 + 1 - intOf i).toNat)
          case atStart => exact ⟨r0, by omega, by omega, rfl, hide ⟨F3, HM4.out, HB4.out, HC4.out, part2_start HP3.out r0⟩⟩
          case round =>
            obtain ⟨t, ht0, ht1, rfl, HQ⟩ := hrel
            obtain ⟨F5, hM5, hB5, hC5, hP5⟩ := HQ.out
            clear HQ HM4 HB4 HC4 HP3 q0
            have q1 : wr.cell? ⟨w3.heap.size, 1, none⟩ = some (.int .i64 r1) := hC5.cell rfl
            have q2 : wr.cell? ⟨w1.heap.size, 0, none⟩ = some (.string id) := hB5.cell rfl
            by_cases htl : t ≤ r1
            · have hdd := HDr.out (by show r0 ≤ r1; omega)
              obtain ⟨hd0, hd1⟩ := hdd
              simp only at hd0 hd1
              obtain ⟨tn, rfl⟩ : ∃ tn : Nat, t = (tn : Int) := ⟨t.toNat, by omega⟩
              obtain ⟨q3, q4⟩ := hM5.slots.cell (s := tn) (by omega)
              have HN5 := hide (show ∃ F, OMem w F (wr.setCell ⟨w.heap.size, tn, none⟩ (.string id)) ∧ Blk (wr.setCell ⟨w.heap.size, tn, none⟩ (.string id)) w1.heap.size (Line.ncells ⟨id, some ⟨b2, off2, none⟩, ln, cp, rs⟩) 40 ∧ Blk (wr.setCell ⟨w.heap.size, tn, none⟩ (.string id)) w3.heap.size (rc (r0, r1)) 37 ∧ Part2 cs k id (rs.take j) r0 ((tn : Int) + 1) F from
                ⟨_, hM5.set tn id, hB5.setCell_ne _ _ (by show w1.heap.size ≠ w.heap.size; omega), hC5.setCell_ne _ _ (by show w3.heap.size ≠ w.heap.size; omega), part2_step hP5 ht0⟩)
              clear hM5 hB5 hC5 hP5
              go_wp2_with fail
              exact ⟨⟨(tn : Int) + 1, by omega, by omega, by go_num, HN5.out⟩, by simp [intOf]; omega⟩
            · have HN5 := hide (show ∃ F, OMem w F wr ∧ Blk wr w1.heap.size (Line.ncells ⟨id, some ⟨b2, off2, none⟩, ln, cp, rs⟩) 40 ∧ Part cs k id (rs.take (j + 1)) F from
                ⟨F5, hM5, hB5, by rw [Ht.out]; exact part2_done hP5 (by show (r0 ≤ r1 ∧ t = r1 + 1) ∨ (r1 < r0 ∧ t = r0); omega)⟩)
              clear hM5 hB5 hC5 hP5
              go_wp2_with fail
              exact ⟨⟨j + 1, by omega, by go_num, HN5.out⟩, by simp [intOf]; omega⟩
        · obtain ⟨F3, hM3, hB3, hP3⟩ := HP.out
          rw [List.take_of_length_le (by have := Hr0.out.1; omega)] at hP3
          have HN3 := hide (show ∃ F, OMem w F w3 ∧ ∀ s : Nat, s < 16384 → F s = owner (cs.take (k + 1)) s from ⟨F3, hM3, part_line hP3 Hck.out⟩)
          clear hM3 hB3 hP3 HP
          go_wp2_with fail
          exact ⟨⟨k + 1, by omega, by go_num, HN3.out⟩, by simp [intOf]; omega⟩
    · obtain rfl : k = n := by omega
      go_wp2_with fail
      go_ret
      obtain ⟨F, hM, hF⟩ := HO.out
      refine ⟨_, F, rfl, hM.slots, fun s hs => ?_, hM.below⟩
      rw [hF s hs, List.take_of_length_le (by rw [Hcs.out, List.length_map, Hl.out]; exact Nat.le_refl _)]

end Go.Proofs.Qxb6601374a
