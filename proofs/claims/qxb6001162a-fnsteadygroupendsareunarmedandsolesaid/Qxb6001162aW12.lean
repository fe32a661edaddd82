import Derived.Test.Qxb6001162aW11
import Derived.BigRegion
namespace Go.Proofs.Qxb6001162a
open Go.RowKit

def mixW (b s : List Nat) (j : Nat) : List Nat := (orW b s).take j ++ b.drop j

theorem mixW_get {b s : List Nat} {j : Nat} (hb : b.length = 4) (hs : s.length = 4) (hj : j < 4) : (mixW b s j)[j]? = b[j]? := by
  unfold mixW
  rw [List.getElem?_append_right (by rw [List.length_take, orW_length hb hs]; omega), List.length_take, orW_length hb hs, Nat.min_eq_left (by omega), List.getElem?_drop]
  congr 1; omega

theorem mixW_step {b s : List Nat} {j x y : Nat} (hb : b.length = 4) (hs : s.length = 4) (hx : b[j]? = some x) (hy : s[j]? = some y) : (mixW b s j).set j (x ||| y) = mixW b s (j + 1) := by
  obtain ⟨hj, rfl⟩ := List.getElem?_eq_some_iff.1 hx
  obtain ⟨hj2, rfl⟩ := List.getElem?_eq_some_iff.1 hy
  have hl := orW_length hb hs
  unfold mixW
  rw [List.drop_eq_getElem_cons hj, List.take_succ_eq_append_getElem (by omega)]
  have e : (orW b s)[j]'(by omega) = b[j] ||| s[j] := by unfold orW; rw [List.getElem_zipWith]
  rw [e, List.set_append_right _ _ (by rw [List.length_take]; omega)]
  have e2 : j - (List.take j (orW b s)).length = 0 := by rw [List.length_take]; omega
  rw [e2, List.set_cons_zero, List.append_assoc]; rfl

theorem mixW_zero (b s : List Nat) : mixW b s 0 = b := by simp [mixW]
theorem mixW_four {b s : List Nat} (hb : b.length = 4) (hs : s.length = 4) : mixW b s 4 = orW b s := by
  unfold mixW
  rw [List.take_of_length_le (by rw [orW_length hb hs]; omega), List.drop_eq_nil_of_le (by omega), List.append_nil]

theorem FRel.byte {ps : List Inst} {m B : Nat} {w : World} {wv : Value} {gb : Nat} {ways : List Int} {k : Nat} {empty : Bool} {wr : World} (hemp : empty = (ways.take k).any fun v => opAt ps v == 0) {v : Int} (hv : ways[k]? = some v) {p : Inst} (hp : ps[(v / 2).toNat]? = some p)
    (h1 : p.op = 1) {ends : List Int} (hl : ends.length = m) (he : EndsOk ps ends (ways.take k)) (hM : FMem B w wv gb ways (mixW (orAll ps (ways.take k)) p.sets 4) ends wr) : FRel ps m B w wv gb ways (k + 1) empty wr where
  mem := by
    refine ⟨ends, hl, by rw [take_snoc hv]; exact he.more v, ?_⟩
    rw [take_snoc hv, orAll_snoc]
    unfold orStep
    rw [hp]
    rw [mixW_four (orAll_length _ _) rfl] at hM
    simpa [h1] using hM
  emp := by
    rw [hemp, take_snoc hv, List.any_append]
    simp [opAt, hp, h1]

theorem FRel.save {ps : List Inst} {m B : Nat} {w : World} {wv : Value} {gb : Nat} {ways : List Int} {k : Nat} {empty : Bool} {wr : World} (hemp : empty = (ways.take k).any fun v => opAt ps v == 0) {v : Int} (hv : ways[k]? = some v) {p : Inst} (hp : ps[(v / 2).toNat]? = some p)
    (h4 : p.op = 4) (hB : B ≤ w.heap.size) {ends : List Int} (hl : ends.length = m) (he : EndsOk ps ends (ways.take k)) (hM : FMem B w wv gb ways (orAll ps (ways.take k)) ends wr) {g : Nat} (hg : p.arg = 2 * g + 1) :
    FRel ps m B w wv gb ways (k + 1) empty (wr.setCell ⟨gb + 1, g, none⟩ (.int .i32 v)) where
  mem := by
    refine ⟨ends.set g v, by rw [List.length_set]; exact hl, by rw [take_snoc hv]; exact he.put v hp h4 hg, ?_⟩
    rw [take_snoc hv, orAll_snoc]
    unfold orStep
    rw [hp]
    have h1 : ¬ p.op = 1 := by omega
    simpa [h1] using hM.setEnd hB g v
  emp := by
    rw [hemp, take_snoc hv, List.any_append]
    simp [opAt, hp, h4]

theorem icells_cells2 {w : World} {b o s : Nat} {op : Int} {la ch : Bool} {ar x y s0 s1 s2 s3 : Int} (h : w.rangeAt b o (Inst.icells ⟨op, la, ch, ar, x, y, s0, s1, s2, s3⟩ s)) :
    w.cell? ⟨b, o, none⟩ = some (.int .u8 op) ∧ w.cell? ⟨b, o + 3, none⟩ = some (.int .i32 ar) ∧ w.cell? ⟨b, o + 6, none⟩ = some (.pointer (some ⟨s, 0, none⟩)) :=
  ⟨h 0 _ rfl, h 3 _ rfl, h 6 _ rfl⟩

/-- Loop 1: the ends are laid to -1. -/
theorem neg_done {ends : List Int} {m k : Nat} (hl : ends.length = m) (h : ∀ j u, j < k → ends[j]? = some u → u = -1) (hk : m ≤ k) (ps : List Inst) : EndsOk ps ends [] :=
  EndsOk.start fun j u hu => h j u (by have := (List.getElem?_eq_some_iff.1 hu).1; omega) hu

theorem neg_step {ends : List Int} {k : Nat} (h : ∀ (j : Nat) (u : Int), j < k → ends[j]? = some u → u = -1) : ∀ (j : Nat) (u : Int), j < k + 1 → (ends.set k (-1))[j]? = some u → u = -1 := by
  intro j u hj hu
  by_cases e : j = k
  · subst e
    rw [List.getElem?_set, if_pos rfl] at hu
    split at hu
    · simp at hu; omega
    · cases hu
  · rw [List.getElem?_set_ne (Ne.symm e)] at hu
    exact h j u (by omega) hu

theorem first_end {G : Int → Prop} {ps : List Inst} {m B : Nat} {w0 : Int} {w : World} {wv : Value} {gb : Nat} {ways : List Int} {k : Nat} {empty : Bool} {wr : World} (h : FRel ps m B w wv gb ways k empty wr) (hk : ways.length ≤ k) (hg : ∀ u ∈ ways, G u) (h0 : w0 ∈ ways) (bv : Value)
    (hb : bv = if empty = true then .pointer none else .pointer (some ⟨gb, 0, none⟩)) : FirstPost G ps m B w0 w (.returned (.tuple #[bv, .slice (some ⟨gb + 1, 0, none⟩) m m])) wr := by
  obtain ⟨ends, hl, he, hM⟩ := h.mem
  have hemp := h.emp
  rw [List.take_of_length_le hk] at he hM hemp
  exact ⟨wv, gb, ways, ends, by rw [hb, hemp], hl, he, hM, hg, h0⟩

set_option maxHeartbeats 3200000 in
set_option maxRecDepth 100000 in
theorem firstState_any (B x g : Nat) (sb : Nat → Nat) (ps : List Inst) (start slots : Int) (G : Int → Prop) (n m : Nat) (w : World) (c : SCtx B x g sb ps start slots G n m w) (hws : Hid (∀ p ∈ ps, p.wfs)) (hn0 : 0 < n) (hn1 : n ≤ 4096) (hs0 : 0 ≤ slots) (hs1 : slots ≤ 65536) :
    Calls Try.prog 32 #[.pointer (some ⟨x, 0, none⟩)] w (FirstPost G ps m B (start * 2) w) := by
  have hB := c.hB
  have hxB := c.hE.eB
  have hmB : m ≤ 32768 := by have := c.hm; omega
  have hmk1 := fun (w : World) => make_ends w (slots / 2) m c.hm.symm (by omega)
  go_enter Try.func32, Try.ntmps32
  go_wp2_with fail
  refine (startClosure_any B x g sb ps start slots G n m w c hn0 hn1 hs0 hs1).mono ?_
  rintro e w1 ⟨v1, v2, wv, ways, rfl, hb1, hsz1, hrow1, hgw, hw0, hlw⟩
  have hE1 := c.hE.below hb1
  have hx2 : w1.cell? ⟨x, 2, none⟩ = some (.int .i64 slots) := hE1.blk.cell rfl
  have hx2' : ∀ o, (w1.alloc o).cell? ⟨x, 2, none⟩ = some (.int .i64 slots) := fun o => by rw [World.cell?_alloc_lt _ _ _ (by show x < w1.heap.size; omega)]; exact hx2
  have HM0 := hide (FMem.start hb1 hsz1 hrow1 hB m)
  obtain ⟨gw, capw, hv, hgw1, hgw2⟩ := hrow1.form (List.ne_nil_of_mem hw0)
  subst hv
  have HG := hide hgw
  have HW0 := hide hw0
  clear hE1 hx2 hrow1 hgw hw0 hb1
  go_wp2_with fail
  go_loopw [29] (fun i wr => ∃ k : Nat, k ≤ m ∧ i = .int .i64 k ∧ ∃ ends : List Int, ends.length = m ∧ (∀ (j : Nat) (u : Int), j < k → ends[j]? = some u → u = -1) ∧ FMem B w (.slice (some ⟨gw, 0, none⟩) ways.length capw) w1.heap.size ways [0, 0, 0, 0] ends wr) (fun i _ => m - (intOf i).toNat)
  case atStart => exact ⟨0, by omega, rfl, _, by simp, fun j u hj => absurd hj (by omega), HM0.out⟩
  case round =>
    obtain ⟨k, hk, rfl, ends, hl, hneg, hM⟩ := hrel
    by_cases hlt : k < m
    · have hN := hM.setEnd hB k (-1)
      have hcf := hM.endB.frozen k
      have hcc := hM.endB.cell (j := k) (v := .int .i32 (ends[k]'(by omega))) (by unfold i32s; rw [List.getElem?_map, List.getElem?_eq_getElem (by omega)]; rfl)
      generalize (ends[k]'(by omega)) = u0 at hcc
      have HN := hide (And.intro (neg_step hneg) hN)
      have Hl := hide hl
      clear hM hN hneg hl
      go_wp2_with fail
      exact ⟨⟨k + 1, by omega, by go_num, _, by rw [List.length_set]; exact Hl.out, HN.out.1, HN.out.2⟩, by simp [intOf]; omega⟩
    · have HS : Hid (FRel ps m B w (.slice (some ⟨gw, 0, none⟩) ways.length capw) w1.heap.size ways 0 false wr) := hide ⟨⟨ends, hl, neg_done hl hneg (by omega) ps, hM⟩, rfl⟩
      clear hM hneg hl
      go_wp2_with fail
      go_loopw [8, 38] (fun eb i wz => ∃ (k : Nat) (empty : Bool), k ≤ ways.length ∧ i = .int .i64 k ∧ eb = .bool empty ∧ FRel ps m B w (.slice (some ⟨gw, 0, none⟩) ways.length capw) w1.heap.size ways k empty wz) (fun _ i _ => ways.length - (intOf i).toNat)
      case atStart => exact ⟨0, false, by omega, rfl, rfl, HS.out⟩
      case round =>
        obtain ⟨k2, empty, hk2, rfl, rfl, hF⟩ := hrel
        clear HS HM0
        by_cases hlt2 : k2 < ways.length
        · obtain ⟨v, hv⟩ : ∃ v, ways[k2]? = some v := ⟨_, List.getElem?_eq_getElem hlt2⟩
          obtain ⟨hv0, hv1⟩ := c.hGr v (HG.out v (List.mem_of_getElem? hv))
          obtain ⟨ends2, hl2, he2, hM2⟩ := hF.mem
          have hcv := hM2.row.cell hv
          have hE2 := c.hE.below hM2.below
          have hx0 : wr.cell? ⟨x, 0, none⟩ = some (.slice (some ⟨g, 0, none⟩) n n) := by rw [← c.hn]; exact hE2.blk.cell rfl
          obtain ⟨p, hp⟩ : ∃ p, ps[(v / 2).toNat]? = some p := ⟨_, List.getElem?_eq_getElem (by rw [c.hn]; omega)⟩
          have Hk := hide (ok_of_valid c.hval c.hn hp)
          have Hw := hide (c.hwf p (List.mem_of_getElem? hp))
          have Hws := hide (hws.out p (List.mem_of_getElem? hp))
          have hin := hE2.inst _ _ hp
          have hset := hE2.set _ _ hp
          have HF := hide hF
          have Hv := hide hv
          have HE2 := hide hE2
          clear hF hv hE2
          obtain ⟨op, la, ch, ar, px, py, s0, s1, s2, s3⟩ := p
          have Hp := hide hp
          clear hp
          obtain ⟨c0, c3, c6⟩ := icells_cells2 hin
          clear hin
          by_cases h0 : op = 0
          · have e0 : (op == 0) = true := beq_iff_eq.2 h0
            have HN := hide (HF.out.atMatch Hv.out Hp.out h0)
            clear h0 hM2 hset
            go_wp2_with fail
            exact ⟨⟨k2 + 1, true, by omega, by go_num, rfl, HN.out⟩, by simp [intOf]; omega⟩
          have e0 : (op == 0) = false := beq_eq_false_iff_ne.2 h0
          by_cases h1 : op = 1
          · have e1 : (op == 1) = true := beq_iff_eq.2 h1
            have H1 := hide h1
            clear h1 h0
            have HM2 := hide hM2
            have Hset := hide hset
            clear hM2 hset
            go_wp2_with fail
            go_loopw [57] (fun i wz => ∃ j : Nat, j ≤ 4 ∧ i = .int .i64 j ∧ FMem B w (.slice (some ⟨gw, 0, none⟩) ways.length capw) w1.heap.size ways (mixW (orAll ps (ways.take k2)) (Inst.sets ⟨op, la, ch, ar, px, py, s0, s1, s2, s3⟩) j) ends2 wz) (fun i _ => 4 - (intOf i).toNat)
            case atStart => exact ⟨0, by omega, rfl, by rw [mixW_zero]; exact HM2.out⟩
            case round =>
              obtain ⟨j, hj, rfl, hMj⟩ := hrel
              have hbl := orAll_length ps (ways.take k2)
              by_cases hj4 : j < 4
              · obtain ⟨bx, hbx⟩ : ∃ bx, (orAll ps (ways.take k2))[j]? = some bx := ⟨_, List.getElem?_eq_getElem (by omega)⟩
                obtain ⟨sy, hsy⟩ : ∃ sy, (Inst.sets ⟨op, la, ch, ar, px, py, s0, s1, s2, s3⟩)[j]? = some sy := ⟨_, List.getElem?_eq_getElem (by show j < 4; omega)⟩
                have hE3 := c.hE.below hMj.below
                have d6 := (icells_cells2 (hE3.inst _ _ Hp.out)).2.2
                have hset3 := hE3.set _ _ Hp.out
                rw [Inst.set_words _ Hws.out] at hset3
                have dset := hset3 j (.int .u64 (sy : Int)) (by unfold wordCells; rw [List.getElem?_map, hsy]; rfl)
                rw [Nat.zero_add] at dset
                have dbeg := hMj.begB.cell (j := j) (v := .int .u64 (bx : Int)) (by unfold wordCells; rw [List.getElem?_map, mixW_get hbl rfl hj4, hbx]; rfl)
                have dfr := hMj.begB.frozen j
                have eo : bits .or .u64 (bx : Int) (sy : Int) = ((bx ||| sy : Nat) : Int) := u64_or_nat bx sy (orAll_lt hws.out _ _ (List.mem_of_getElem? hbx)) (Inst.sets_lt _ Hws.out _ (List.mem_of_getElem? hsy))
                have hN := (hMj.setBeg hB j (bx ||| sy)).drew
                rw [mixW_step hbl rfl hbx hsy] at hN
                have HN := hide hN
                have hsbB := c.hE.sB _ _ Hp.out
                have hgB := c.hE.gB
                have hlo := hMj.lo
                have n1 : ¬ w1.heap.size = g := by omega
                have n2 : ¬ g = w1.heap.size := by omega
                have n3 : ¬ w1.heap.size = sb (v / 2).toNat := by omega
                have n4 : ¬ sb (v / 2).toNat = w1.heap.size := by omega
                have j0 : (0 : Int) ≤ (j : Int) := by omega
                have j1 : (j : Int) < 4 := by omega
                clear hE3 hset3 hN hMj hbx hsy hbl
                go_wp2_with fail
                go_region
                go_wp2_with fail
                exact ⟨⟨j + 1, by omega, by go_num, HN.out⟩, by simp [intOf]; omega⟩
              · obtain rfl : j = 4 := by omega
                have HN := hide (FRel.byte HF.out.emp Hv.out Hp.out H1.out hl2 he2 hMj)
                clear hMj hbl
                go_wp2_with fail
                exact ⟨⟨k2 + 1, empty, by omega, by go_num, rfl, HN.out⟩, by simp [intOf]; omega⟩
          have e1 : (op == 1) = false := beq_eq_false_iff_ne.2 h1
          by_cases h4 : op = 4
          · have e4 : (op == 4) = true := beq_iff_eq.2 h4
            obtain ⟨_, a0, a1⟩ := ok_save Hk.out (.inl h4)
            obtain ⟨_, ⟨_, a4⟩, _⟩ := Hw.out
            simp only at a0 a1 a4
            have HSk := hide (HF.out.pass Hv.out Hp.out h0 h1)
            have H4 := hide h4
            have ea2 : bits .and .i32 ar 1 = ar % 2 := i32_and_one ar a0 (by omega)
            have a2 : ar / 2 < (m : Int) := by rw [c.hm]; exact a1
            have a3 : 0 ≤ ar / 2 := by omega
            clear h0 h1 h4 hset
            by_cases hodd : ar % 2 = 1
            · have eo : (ar % 2 == 1) = true := beq_iff_eq.2 hodd
              have HN := hide (FRel.save HF.out.emp Hv.out Hp.out H4.out hB hl2 he2 hM2 (g := (ar / 2).toNat) (by show ar = _; omega))
              obtain ⟨u, hu⟩ : ∃ u, ends2[(ar / 2).toNat]? = some u := ⟨_, List.getElem?_eq_getElem (by omega)⟩
              have hcu := hM2.endB.cell (j := (ar / 2).toNat) (v := .int .i32 u) (by unfold i32s; rw [List.getElem?_map, hu]; rfl)
              have hcf := hM2.endB.frozen (ar / 2).toNat
              have hu2 : u = -1 ∨ (0 ≤ u ∧ u < 2 * n) := by
                rcases he2 _ _ hu with a | ⟨a, _⟩
                · exact .inl a
                · exact .inr (c.hGr u (HG.out u (List.mem_of_mem_take a)))
              clear hodd hu hM2 he2
              rcases hu2 with rfl | ⟨hu0, hu1⟩
              · go_wp2_with fail
                exact ⟨⟨k2 + 1, empty, by omega, by go_num, rfl, HN.out⟩, by simp [intOf]; omega⟩
              · go_wp2_with fail
                refine (before_any v u _ hv0 (by omega) hu0 (by omega)).mono ?_
                rintro e w2 ⟨r, rfl, rfl⟩
                cases r
                · go_wp2_with fail
                  exact ⟨⟨k2 + 1, empty, by omega, by go_num, rfl, HSk.out⟩, by simp [intOf]; omega⟩
                · go_wp2_with fail
                  exact ⟨⟨k2 + 1, empty, by omega, by go_num, rfl, HN.out⟩, by simp [intOf]; omega⟩
            · have eo : (ar % 2 == 1) = false := beq_eq_false_iff_ne.2 hodd
              clear hodd hM2 he2
              go_wp2_with fail
              exact ⟨⟨k2 + 1, empty, by omega, by go_num, rfl, HSk.out⟩, by simp [intOf]; omega⟩
          have e4 : (op == 4) = false := beq_eq_false_iff_ne.2 h4
          have HN := hide (HF.out.pass Hv.out Hp.out h0 h1)
          clear h0 h1 h4 hM2 hset
          go_wp2_with fail
          exact ⟨⟨k2 + 1, empty, by omega, by go_num, rfl, HN.out⟩, by simp [intOf]; omega⟩
        · cases empty
          · have HE := hide hF
            clear hF
            go_wp2_with fail
            go_ret2
            exact first_end HE.out (by omega) HG.out HW0.out _ rfl
          · have HE := hide hF
            clear hF
            go_wp2_with fail
            go_ret2
            exact first_end HE.out (by omega) HG.out HW0.out _ rfl

end Go.Proofs.Qxb6001162a
