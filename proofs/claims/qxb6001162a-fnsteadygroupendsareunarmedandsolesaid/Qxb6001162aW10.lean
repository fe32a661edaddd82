import Derived.Test.Qxb6001162aW9
namespace Go.Proofs.Qxb6001162a
open Go.RowKit

theorem StRel.start {n m B : Nat} {w : World} (hB : B ≤ w.heap.size) : StRel n m B w ((w.alloc (.cells (falses m) 4)).alloc (.cells (falses (2 * n)) 4)) where
  below := ((Below.refl _ _).alloc hB _).alloc (by rw [World.size_alloc]; omega) _
  size := by rw [World.size_alloc, World.size_alloc]; omega
  seenB := by
    have h := Blk.new' (w.alloc (.cells (falses m) 4)) (falses (2 * n)) 4
    rw [falses_list, World.size_alloc] at h
    exact h
  endB := by
    have h := Blk.new' w (falses m) 4
    rw [falses_list] at h
    exact ⟨_, by simp, h.alloc _⟩

theorem make_bools (w : World) (k : Int) (n : Nat) (hk : k = (n : Int)) (hn : n ≤ 1000000) :
    (Instr.makeSlice 43 (.int .i64 k) (.int .i64 k)).run Try.prog w = .ok (.slice (some ⟨w.heap.size, 0, none⟩) n n) (w.alloc (.cells (falses n) 4)) := by
  subst hk
  obtain ⟨i0, hi, hz0, hz1, hz2⟩ := info_parts info4
  have := run_make (P := Try.prog) w 43 4 i0 (.bool false) Try.underlying43 hi hz0 .i64 .i64 n n (by omega) (by omega) (by rw [hz2]; omega) (by omega)
  rw [this, hz1, Nat.mul_one]; rfl

/-- Behind 'reach', a group has come to its end: the marks are to be struck. -/
theorem strike_start {G : Int → Prop} {n m : Nat} {ended0 : List Bool} {w0 : Int} {B : Nat} {w wr w' : World} {v : Value} {gs cap : Nat} {ways : List Int} {seen ended : List Bool} (h : StRel n m B w wr)
    (hR : RRel G n m (List.replicate (2 * n) false) ended0 w0 B (w.heap.size + 1) w.heap.size wr v gs cap ways [] seen ended true w') : StrikeRel n m B w v ways (fal ended0) 0 w' where
  below := h.below.trans hR.mem.below
  size := by have := h.size; have := hR.mem.size; omega
  row := hR.mem.wrow.mono h.size
  seenB := ⟨seen, hR.pure.lseen, hR.mem.seenB, fun i hi => by
    rcases hR.pure.marks i hi with a | a
    · rw [List.getElem?_replicate] at a; split at a <;> cases a
    · simpa using a⟩
  endB := ⟨ended, hR.pure.lended, hR.mem.endB, hR.pure.grown rfl⟩

theorem strike_step {n m B : Nat} {w : World} {v : Value} {ways : List Int} {E k : Nat} {wr : World} (h : StrikeRel n m B w v ways E k wr) (hB : B ≤ w.heap.size) {u : Int} (hu : ways[k]? = some u) (hu0 : 0 ≤ u) :
    StrikeRel n m B w v ways E (k + 1) (wr.setCell ⟨w.heap.size + 1, u.toNat, none⟩ (.bool false)) where
  below := h.below.setCell (by show B ≤ w.heap.size + 1; omega) _
  size := by rw [World.size_setCell]; exact h.size
  row := h.row.setCell (by show w.heap.size + 1 < _; omega) _
  seenB := by
    obtain ⟨seen, hl, hb, hm⟩ := h.seenB
    refine ⟨seen.set u.toNat false, by rw [List.length_set]; exact hl, by have := hb.setCell u.toNat (.bool false); rwa [← List.map_set] at this, ?_⟩
    intro i hi
    have hne : i ≠ u.toNat := by
      intro e; subst e
      rw [List.getElem?_set] at hi
      split at hi
      · split at hi <;> cases hi
      · rename_i h2; exact h2 rfl
    rw [List.getElem?_set_ne (Ne.symm hne)] at hi
    have h3 := hm i hi
    obtain ⟨hk, rfl⟩ := List.getElem?_eq_some_iff.1 hu
    rw [List.drop_eq_getElem_cons hk] at h3
    rcases List.mem_cons.1 h3 with h3 | h3
    · omega
    · exact h3
  endB := by
    obtain ⟨ended, hl, hb, he⟩ := h.endB
    exact ⟨ended, hl, hb.setCell_ne _ _ (by show w.heap.size ≠ w.heap.size + 1; omega), he⟩

theorem strike_done {n m B : Nat} {w : World} {v : Value} {ways : List Int} {E k : Nat} {wr : World} (h : StrikeRel n m B w v ways E k wr) (hk : ways.length ≤ k) : StRel n m B w wr ∧ cntF wr w.heap.size < E := by
  obtain ⟨seen, hl, hb, hm⟩ := h.seenB
  obtain ⟨ended, hl2, hb2, he⟩ := h.endB
  have e := all_false hl (fun i hi => by have := hm i hi; rw [List.drop_eq_nil_of_le hk] at this; cases this)
  subst e
  exact ⟨⟨h.below, h.size, hb, ended, hl2, hb2⟩, by rw [cntF_blk hb2]; exact he⟩

theorem start_end {G : Int → Prop} {n m : Nat} {ended0 : List Bool} {w0 : Int} {B : Nat} {w wr w' : World} {v : Value} {gs cap : Nat} {ways : List Int} {seen ended : List Bool} (h : StRel n m B w wr) (hw : 0 ≤ w0 ∧ w0 < 2 * n)
    (hR : RRel G n m (List.replicate (2 * n) false) ended0 w0 B (w.heap.size + 1) w.heap.size wr v gs cap ways [] seen ended false w') (v1 v2 : Value) : StartPost G n B w0 w (.returned (.tuple #[v1, v2, v])) w' := by
  refine ⟨v1, v2, v, ways, rfl, h.below.trans hR.mem.below, by have := h.size; have := hR.mem.size; omega, hR.mem.wrow.mono (by have := h.size; omega), hR.pure.gways, ?_, ?_⟩
  · rcases hR.pure.first with ⟨a, _⟩ | a
    · cases a
    · exact a (by rw [List.getElem?_replicate, if_pos (by omega)])
  · have := hR.pure.bways; rw [fal_replicate] at this; omega

set_option maxHeartbeats 1600000 in
set_option maxRecDepth 100000 in
theorem startClosure_any (B x g : Nat) (sb : Nat → Nat) (ps : List Inst) (start slots : Int) (G : Int → Prop) (n m : Nat) (w : World) (c : SCtx B x g sb ps start slots G n m w) (hn0 : 0 < n) (hn1 : n ≤ 4096) (hs0 : 0 ≤ slots) (hs1 : slots ≤ 65536) :
    Calls Try.prog 34 #[.pointer (some ⟨x, 0, none⟩), .int .u8 255] w (StartPost G n B (start * 2) w) := by
  have hB := c.hB
  have hxB := c.hE.eB
  have hst := c.hGr _ c.hG0
  have hst0 : 0 ≤ start := by omega
  have hst1 : start < 4096 := by omega
  have Hst := hide hst
  have hx0 : w.cell? ⟨x, 0, none⟩ = some (.slice (some ⟨g, 0, none⟩) n n) := by rw [← c.hn]; exact c.hE.blk.cell rfl
  have hx2 : w.cell? ⟨x, 2, none⟩ = some (.int .i64 slots) := c.hE.blk.cell rfl
  have hx0' : ∀ o, (w.alloc o).cell? ⟨x, 0, none⟩ = some (.slice (some ⟨g, 0, none⟩) n n) := fun o => by rw [World.cell?_alloc_lt _ _ _ (by show x < w.heap.size; omega)]; exact hx0
  have hmk1 := fun (w : World) => make_bools w (slots / 2) m c.hm.symm (by have := c.hm; omega)
  have hmk2 := fun (w : World) => make_bools w (2 * (n : Int)) (2 * n) (by omega) (by omega)
  clear hst
  go_enter Try.func34, Try.ntmps34
  go_wp2_with fail
  go_loopw [4, 5] (fun a b wr => a = .slice (some ⟨w.heap.size, 0, none⟩) m m ∧ b = .slice (some ⟨w.heap.size + 1, 0, none⟩) (2 * n) (2 * n) ∧ StRel n m B w wr) (fun _ _ wr => cntF wr w.heap.size)
  case atStart => exact ⟨rfl, rfl, StRel.start hB⟩
  case round =>
    obtain ⟨rfl, rfl, hrel⟩ := hrel
    obtain ⟨ended0, cr⟩ := c.reach hrel
    have hE1 := c.hE.below hrel.below
    have hy1 : wr.cell? ⟨x, 1, none⟩ = some (.int .i32 start) := hE1.blk.cell rfl
    have HS := hide hrel
    have HC := hide (cntF_blk cr.hE0)
    clear hrel hE1
    go_wp2_with fail
    refine (reach_any B x g sb ps start slots G n m (w.heap.size + 1) w.heap.size _ ended0 (start * 2) wr cr hn0 hn1).mono ?_
    rintro e w1 ⟨v, gs, cap, ways, seen, ended, grew, rfl, hR⟩
    cases grew
    · have HE := hide (start_end HS.out Hst.out hR)
      clear hR hy1
      go_wp2_with fail
      go_ret3
      exact HE.out _ _
    · have hK := strike_start HS.out hR
      have hG := hide hR.pure.gways
      have hw0 : ways ≠ [] := by
        intro e; subst e
        rcases hR.pure.first with ⟨a, _⟩ | a
        · cases a
        · have := a (by rw [List.getElem?_replicate, if_pos (by have := Hst.out; omega)]); cases this
      have hlw : ways.length ≤ 8192 := by have := hR.pure.bways; rw [fal_replicate] at this; omega
      obtain ⟨gw, capw, hv, hgw1, hgw2⟩ := hK.row.form hw0
      subst hv
      clear hR hy1 hw0
      have HK := hide hK
      clear hK
      go_wp2_with fail
      go_loopw [43] (fun i wz => ∃ k : Nat, k ≤ ways.length ∧ i = .int .i64 k ∧ StrikeRel n m B w (.slice (some ⟨gw, 0, none⟩) ways.length capw) ways (fal ended0) k wz) (fun i _ => ways.length - (intOf i).toNat)
      case atStart => exact ⟨0, by omega, rfl, HK.out⟩
      case round =>
        obtain ⟨k, hk, rfl, hS⟩ := hrel
        by_cases hlt : k < ways.length
        · obtain ⟨u, hu⟩ : ∃ u, ways[k]? = some u := ⟨_, List.getElem?_eq_getElem hlt⟩
          obtain ⟨hu0, hu1⟩ := c.hGr u (hG.out u (List.mem_of_getElem? hu))
          have hcu := hS.row.cell hu
          have HN := hide (strike_step hS hB hu hu0)
          obtain ⟨seen2, hsl, hsb, _⟩ := hS.seenB
          have hsf := hsb.frozen u.toNat
          have hlt2 : u.toNat < seen2.length := by omega
          have hsc := hsb.cell (j := u.toNat) (v := .bool seen2[u.toNat]) (by rw [List.getElem?_map, List.getElem?_eq_getElem hlt2]; rfl)
          generalize seen2[u.toNat] = sb0 at hsc
          clear hS hsb hsl hlt2 hu
          go_wp2_with fail
          exact ⟨⟨k + 1, by omega, by go_num, HN.out⟩, by simp [intOf]; omega⟩
        · have HD := hide (strike_done hS (by omega))
          clear hS
          go_wp2_with fail
          exact ⟨⟨rfl, rfl, HD.out.1⟩, by rw [HC.out]; exact HD.out.2⟩

end Go.Proofs.Qxb6001162a
