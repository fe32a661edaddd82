import Derived.Test.Qxb6001162aW20
import Derived.Test.Qxb6001162aW18
namespace Go.Proofs.Qxb6001162a
open Go.RowKit

theorem vary15 (B x g : Nat) (sb : Nat → Nat) (ps : List Inst) (start slots : Int) (G : Int → Prop) (n m : Nat) (w : World) (c : SCtx B x g sb ps start slots G n m w) (hn0 : 0 < n) (hn1 : n ≤ 4096) (hs0 : 0 ≤ slots) (hs1 : slots ≤ 65536) :
    Calls Try.prog 15 #[.pointer (some ⟨x, 0, none⟩)] w (VaryPost ps B w) := by
  go_enter Try.func15, Try.ntmps15
  go_wp2_with fail
  refine (vary_any B x g sb ps start slots G n m w c hn0 hn1 hs0 hs1).mono ?_
  rintro e w1 ⟨r, rfl, hb, hr⟩
  have HN := hide (And.intro hb hr)
  clear hb hr
  go_wp2_with fail
  go_ret
  exact ⟨r, rfl, HN.out.1, HN.out.2⟩

/-- The law's own count. -/
structure KMem (ps : List Inst) (m : Nat) (w4 : World) (k : Nat) (wr : World) : Prop where
  below : Below w4.heap.size w4 wr
  size : wr.heap.size = w4.heap.size + 1
  cnt : ∃ l : List Nat, Counts (ps.take k) m l ∧ Blk wr w4.heap.size (natCells l) 3

theorem KMem.start (ps : List Inst) (m : Nat) (w4 : World) : KMem ps m w4 0 (w4.alloc (.cells (zeros3 m) 3)) :=
  ⟨(Below.refl _ _).alloc (Nat.le_refl _) _, by rw [World.size_alloc], _, Counts.start m, by have h := Blk.new' w4 (zeros3 m) 3; rwa [zeros3_list] at h⟩

theorem KMem.pass {ps : List Inst} {m : Nat} {w4 : World} {k : Nat} {wr : World} (h : KMem ps m w4 k wr) {p : Inst} (hp : ps[k]? = some p) (h4 : ¬ (p.op = 4 ∧ p.arg % 2 = 1)) : KMem ps m w4 (k + 1) wr := by
  obtain ⟨l, a, b⟩ := h.cnt
  exact ⟨h.below, h.size, l, by rw [take_snoc hp]; exact a.same p h4, b⟩

theorem KMem.count {ps : List Inst} {m : Nat} {w4 : World} {k : Nat} {wr : World} (h : KMem ps m w4 k wr) {p : Inst} (hp : ps[k]? = some p) (h4 : p.op = 4) (ho : p.arg % 2 = 1) {l : List Nat} (hl : Counts (ps.take k) m l) (hb : Blk wr w4.heap.size (natCells l) 3)
    {g z : Nat} (hg : p.arg / 2 = (g : Int)) (hx : l[g]? = some z) : KMem ps m w4 (k + 1) (wr.setCell ⟨w4.heap.size, g, none⟩ (.int .i64 ((z : Int) + 1))) := by
  refine ⟨h.below.setCell (Nat.le_refl _) _, by rw [World.size_setCell]; exact h.size, l.set g (z + 1), by rw [take_snoc hp]; exact hl.more p h4 ho hg hx, ?_⟩
  have := hb.setCell g (.int .i64 ((z : Int) + 1))
  unfold natCells at *
  rw [List.map_set]; exact this

theorem cntEnd_le (ps : List Inst) (g : Nat) : cntEnd ps g ≤ ps.length := List.countP_le_length

theorem KMem.insts {ps : List Inst} {m : Nat} {w4 : World} {k : Nat} {wr : World} (h : KMem ps m w4 k wr) {b : Nat} {qs : List Inst} (hi : Insts w4 b 0 qs) (hb : b < w4.heap.size) : Insts wr b 0 qs :=
  fun i p hp => rangeAt_of_heap (hi i p hp) (h.below.block b hb)

set_option maxHeartbeats 3200000 in
set_option maxRecDepth 100000 in
theorem law7_main (b off n cap m : Nat) (ps : List Inst) (start slots : Int) (w : World) (hl : Hid (ps.length = n)) (hi : Insts w b off ps) (hwf : Hid (∀ p ∈ ps, p.wf)) (hws : Hid (∀ p ∈ ps, p.wfs))
    (hn0 : 0 < n) (hn1 : n ≤ 4096) (hs0 : 0 ≤ slots) (hs1 : slots ≤ 65536) (hm : Hid ((m : Int) = slots / 2)) (hv : valid ps slots = true) (hin : inR start n = true) :
    Calls Try.prog 7 #[.slice (some ⟨b, off, none⟩) n cap, .int .i32 start, .int .i64 slots] w fun e w' => e = .returned (.bool true) ∧ Below w.heap.size w w' := by
  obtain ⟨st0, st1⟩ := inR_bounds hin
  have hm1 : m ≤ 32768 := by have := hm.out; omega
  have Hv := hide hv
  go_enter Try.func7, Try.ntmps7
  go_wp2_with (first | (go_at_call 23; refine (bytes23' _ _ _ _ _ _ (by omega)).mono ?_; rintro e w' ⟨rfl, rfl⟩) | (go_at_call 12; refine (valid_any b off n cap ps slots _ hl.out (by omega) (by omega) hi hwf.out (by omega) (by omega)).mono ?_; rintro e w1 ⟨rfl, hb1⟩) | (go_at_call 20; refine (inRange' _ _ _ (by omega) (by omega)).mono ?_; rintro e w' ⟨rfl, rfl⟩))
  have hblt := hi.lt (by rw [hl.out]; omega)
  have hi1 : Insts w1 b off ps := fun i p hp => rangeAt_of_heap (hi i p hp) (hb1.block b hblt)
  refine (clone_any b off n cap ps w1 hl.out hn0 hn1 hi1).mono ?_
  rintro e w2 ⟨rfl, hb2, hz2, hB2⟩
  have Hb2 := hide (hb1.trans (hb2.mono hb1.size))
  clear hi hi1 hb1 hb2
  go_wp2_with fail
  refine (build_any w1.heap.size 0 n n ps start slots w2 hl.out hn0 hn1 (insts_of_blk hB2)).mono ?_
  rintro e w3 ⟨x, g, sb, rfl, hb3, hE3⟩
  have Hb3 := hide (Hb2.out.trans (hb3.mono Hb2.out.size))
  have HB3 := hide (hB2.below hb3 hB2.lt)
  have Hc0 : Hid (SCtx w3.heap.size x g sb ps start slots (fun v => 0 ≤ v ∧ v < 2 * n) n m w3) :=
    hide ⟨hE3, Nat.le_refl _, hl.out, hm.out, Hv.out, hwf.out, ⟨by omega, by omega⟩, fun v h => h, closed_range Hv.out hl.out⟩
  have hz3 : w1.heap.size < w3.heap.size := by have := hb3.size; omega
  clear hb3 hE3 hB2
  go_wp2_with fail
  refine (vary15 w3.heap.size x g sb ps start slots _ n m w3 Hc0.out hn0 hn1 hs0 hs1).mono ?_
  rintro e w5 ⟨r, rfl, hb5, hst⟩
  have Hb5 := hide (Hb3.out.trans (hb5.mono Hb3.out.size))
  cases r
  rotate_left
  · clear hst hb5
    go_wp2_with fail
    go_ret
    exact ⟨rfl, Hb5.out⟩
  obtain ⟨hc1, R, hR1, hR2⟩ := hst rfl
  have HB5 := hide (HB3.out.below hb5 (by omega))
  have Hc : Hid (SCtx w3.heap.size x g sb ps start slots (G7 R n) n m w5) :=
    hide ⟨Hc0.out.hE.below hb5, hb5.size, hl.out, hm.out, Hv.out, hwf.out, ⟨⟨by omega, by omega⟩, fun h => by omega⟩, fun v h => h.1, G7_closed Hv.out hl.out hR1 hR2⟩
  have hz5 : w3.heap.size ≤ w5.heap.size := hb5.size
  have Hend := hide (fun (ends ways : List Int) (he : EndsOk ps ends ways) (hg : ∀ u ∈ ways, G7 R n u) (g : Nat) (u : Int) (hu : ends[g]? = some u) => steady_end hc1 hR2 he hg hu)
  clear hst hc1 hR1 hR2 hb5
  go_wp2_with fail
  refine (zFirst_any w3.heap.size x g sb ps start slots (G7 R n) n m w5 Hc.out hws hn0 hn1 hs0 hs1).mono ?_
  rintro e w4 ⟨gb, ge, ways, ends, rfl, hle, heo, hb4, _, hBe, hgw, _⟩
  have Hb4 := hide (Hb5.out.trans (hb4.mono Hb3.out.size))
  have HI := hide (insts_of_blk (HB5.out.below hb4 (by omega)))
  have hg0 : w1.heap.size < w4.heap.size := by have := hb4.size; omega
  have hgel := hBe.lt
  have Hle := hide hle
  have HBe := hide hBe
  have HE := hide (Hend.out ends ways heo hgw)
  clear hb4 hle heo hBe hgw Hend
  generalize (if (ways.any fun v => opAt ps v == 0) = true then Value.pointer none else Value.pointer (some ⟨gb, 0, none⟩)) = bv
  have hme : ((m : Int) != slots / 2) = false := by simp [hm.out]
  have hmk1 := fun (w : World) => make_counts w (slots / 2) m hm.out.symm (by omega)
  go_wp2_with fail
  go_loopw [11] (fun i wr => ∃ k : Nat, k ≤ n ∧ i = .int .i64 k ∧ KMem ps m w4 k wr) (fun i _ => n - (intOf i).toNat)
  case atStart => exact ⟨0, by omega, rfl, KMem.start ps m w4⟩
  case round =>
    obtain ⟨k, hk, rfl, hK⟩ := hrel
    by_cases hlt : k < n
    · obtain ⟨p, hp⟩ : ∃ p, ps[k]? = some p := ⟨_, List.getElem?_eq_getElem (by rw [hl.out]; exact hlt)⟩
      have hr := hK.insts HI.out hg0 k p hp
      rw [Nat.zero_add] at hr
      have Hk := hide (ok_of_valid Hv.out hl.out hp)
      have Hw := hide (hwf.out p (List.mem_of_getElem? hp))
      have Hp := hide hp
      have HK := hide hK
      clear hp hK
      obtain ⟨op, la, ch, ar, px, py, s0, s1, s2, s3⟩ := p
      obtain ⟨c0, _, _, c3, _⟩ := inst_cells hr
      clear hr
      obtain ⟨_, ⟨w3', w4'⟩, _⟩ := Hw.out
      simp only at w3' w4'
      by_cases h4 : op = 4
      · have e4 : (op == 4) = true := beq_iff_eq.2 h4
        obtain ⟨_, a0, a1⟩ := ok_save Hk.out (.inl h4)
        simp only at a0 a1
        have ea2 : bits .and .i32 ar 1 = ar % 2 := i32_and_one ar a0 (by omega)
        have a2 : ar / 2 < (m : Int) := by rw [hm.out]; exact a1
        have a3 : 0 ≤ ar / 2 := by omega
        have H4 := hide h4
        clear h4
        by_cases hodd : ar % 2 = 1
        · have eo : (ar % 2 == 1) = true := beq_iff_eq.2 hodd
          obtain ⟨l, hC, hb⟩ := HK.out.cnt
          obtain ⟨z, hz⟩ : ∃ z, l[(ar / 2).toNat]? = some z := ⟨_, List.getElem?_eq_getElem (by rw [hC.1]; omega)⟩
          have hz1 : z ≤ 4096 := by rw [hC.2 _ _ hz]; have := cntEnd_le (ps.take k) (ar / 2).toNat; rw [List.length_take] at this; omega
          have hcz := hb.cell (j := (ar / 2).toNat) (v := .int .i64 (z : Int)) (by unfold natCells; rw [List.getElem?_map, hz]; rfl)
          have hcf := hb.frozen (ar / 2).toNat
          have HN := hide (HK.out.count Hp.out H4.out hodd hC hb (g := (ar / 2).toNat) (by show ar / 2 = _; omega) hz)
          have n1 : ¬ w4.heap.size = w1.heap.size := by omega
          have n2 : ¬ w1.heap.size = w4.heap.size := by omega
          clear hC hb hz hodd
          go_wp2_with fail
          exact ⟨⟨k + 1, by omega, by go_num, HN.out⟩, by simp [intOf]; omega⟩
        · have eo : (ar % 2 == 1) = false := beq_eq_false_iff_ne.2 hodd
          have HN := hide (HK.out.pass Hp.out (fun h => hodd h.2))
          clear hodd
          go_wp2_with fail
          exact ⟨⟨k + 1, by omega, by go_num, HN.out⟩, by simp [intOf]; omega⟩
      · have e4 : (op == 4) = false := beq_eq_false_iff_ne.2 h4
        have HN := hide (HK.out.pass Hp.out (fun h => h4 h.1))
        clear h4
        go_wp2_with fail
        exact ⟨⟨k + 1, by omega, by go_num, HN.out⟩, by simp [intOf]; omega⟩
    · obtain ⟨l, hC, hb⟩ := hK.cnt
      rw [List.take_of_length_le (by rw [hl.out]; omega)] at hC
      have HBf := hide (HBe.out.below hK.below hgel)
      have HF := hide (Hb4.out.trans (hK.below.mono Hb4.out.size))
      have Hb := hide hb
      have HC := hide hC
      clear hK hC hb
      go_wp2_with fail
      go_loop [12] (fun i => ∃ k : Nat, k ≤ m ∧ i = .int .i64 k) (fun i => m - (intOf i).toNat)
      case atStart => exact ⟨0, by omega, rfl⟩
      case round =>
        obtain ⟨j, hj, rfl⟩ := hrel
        by_cases hjm : j < m
        · obtain ⟨v, hv⟩ : ∃ v, ends[j]? = some v := ⟨_, List.getElem?_eq_getElem (by rw [Hle.out]; exact hjm)⟩
          have hcv := HBf.out.cell (j := j) (v := .int .i32 v) (by unfold i32s; rw [List.getElem?_map, hv]; rfl)
          rcases HE.out j v hv with rfl | ⟨hv0, hv1, hv2, hv3⟩
          · clear hv
            go_wp2_with fail
            exact ⟨⟨j + 1, by omega, by go_num⟩, by simp [intOf]; omega⟩
          · obtain ⟨z, hz⟩ : ∃ z, l[j]? = some z := ⟨_, List.getElem?_eq_getElem (by rw [HC.out.1]; exact hjm)⟩
            have hz1 : z = 1 := by rw [HC.out.2 _ _ hz]; exact hv3
            subst hz1
            have hcz : wr.cell? ⟨w4.heap.size, j, none⟩ = some (.int .i64 1) := Hb.out.cell (j := j) (v := .int .i64 1) (by unfold natCells; rw [List.getElem?_map, hz]; rfl)
            have ea : bits .and .i32 v 1 = v % 2 := i32_and_one v hv0 (by omega)
            have ev : (v % 2 != 0) = false := by simp [hv2]
            have e1 : (v == -1) = false := beq_eq_false_iff_ne.2 (by omega)
            clear hv hz hv2 hv3
            go_wp2_with fail
            exact ⟨⟨j + 1, by omega, by go_num⟩, by simp [intOf]; omega⟩
        · go_wp2_with fail
          go_ret
          exact ⟨rfl, HF.out⟩

theorem law7_any (a0 : Option Addr) (len cap : Nat) (ps : List Inst) (start slots : Int) (w : World) (hp : IsProg w a0 len ps) (hs : -2147483648 ≤ start ∧ start ≤ 2147483647) :
    Calls Try.prog 7 #[.slice a0 len cap, .int .i32 start, .int .i64 slots] w fun e w' => e = .returned (.bool true) ∧ Below w.heap.size w w' := by
  by_cases h : 4096 < len ∨ slots < 0 ∨ 65536 < slots ∨ len = 0 ∨ valid ps slots = false ∨ inR start len = false
  · exact law7_easy a0 len cap ps start slots w hp hs h
  · simp only [not_or, Bool.not_eq_false] at h
    obtain ⟨h1, h2, h3, h4, h5, h6⟩ := h
    obtain ⟨hl, hP, hwf, hws⟩ := hp
    obtain ⟨b, off, rfl, hi⟩ := hP (by omega)
    exact law7_main b off len cap (slots / 2).toNat ps start slots w (hide hl) hi (hide hwf) (hide hws) (by omega) (by omega) (by omega) (by omega) (hide (by omega)) h5 h6

end Go.Proofs.Qxb6001162a
