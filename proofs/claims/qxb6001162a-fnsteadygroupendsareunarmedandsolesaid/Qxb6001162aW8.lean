import Derived.Test.Qxb6001162aW7
import Derived.Deep.RegionHeld3
import Derived.Deep.DrawnRows
namespace Go.Proofs.Qxb6001162a
open Go.RowKit

theorem icells_cells {w : World} {b o s : Nat} {op : Int} {la ch : Bool} {ar x y s0 s1 s2 s3 : Int} (h : w.rangeAt b o (Inst.icells ⟨op, la, ch, ar, x, y, s0, s1, s2, s3⟩ s)) :
    w.cell? ⟨b, o, none⟩ = some (.int .u8 op) ∧ w.cell? ⟨b, o + 1, none⟩ = some (.bool la) ∧ w.cell? ⟨b, o + 3, none⟩ = some (.int .i32 ar) ∧
    w.cell? ⟨b, o + 4, none⟩ = some (.int .i32 x) ∧ w.cell? ⟨b, o + 5, none⟩ = some (.int .i32 y) :=
  ⟨h 0 _ rfl, h 1 _ rfl, h 3 _ rfl, h 4 _ rfl, h 5 _ rfl⟩

theorem inR_bounds {v : Int} {n : Nat} (h : inR v n = true) : 0 ≤ v ∧ v < n := by simpa [inR] using h

theorem ok_of_valid {ps : List Inst} {slots : Int} {n i : Nat} {p : Inst} (hv : valid ps slots = true) (hn : ps.length = n) (hp : ps[i]? = some p) : p.ok n slots = true := by
  subst hn
  exact List.all_eq_true.1 hv p (List.mem_of_getElem? hp)

theorem ok_split {n : Nat} {slots : Int} {p : Inst} (h : p.ok n slots = true) (h2 : p.op = 2) : (0 ≤ p.x ∧ p.x < n) ∧ 0 ≤ p.y ∧ p.y < n := by
  simp [Inst.ok, h2] at h
  exact ⟨inR_bounds h.1, inR_bounds h.2⟩
theorem ok_assert {n : Nat} {slots : Int} {p : Inst} (h : p.ok n slots = true) (h3 : p.op = 3) : (0 ≤ p.x ∧ p.x < n) ∧ 0 ≤ p.arg := by
  simp [Inst.ok, h3] at h
  exact ⟨inR_bounds h.1, h.2⟩
theorem ok_save {n : Nat} {slots : Int} {p : Inst} (h : p.ok n slots = true) (h4 : p.op = 4 ∨ p.op = 5) : (0 ≤ p.x ∧ p.x < n) ∧ 0 ≤ p.arg ∧ p.arg / 2 < slots / 2 := by
  have n2 : ¬ p.op = 2 := by omega
  have n3 : ¬ p.op = 3 := by omega
  simp [Inst.ok, n2, n3, h4] at h
  exact ⟨inR_bounds h.1.1, h.1.2, h.2⟩

theorem RMem.pushStack' {B bs be : Nat} {w : World} {wv : Value} {gs cap : Nat} {ways stack : List Int} {seen ended : List Bool} {wr : World} (h : RMem B bs be w wv gs cap ways stack seen ended wr) (hB : B ≤ w.heap.size) (hbs : bs < w.heap.size) (hbe : be < w.heap.size)
    {w1 : World} {g1 cap1 l1 l0 c0 : Nat} {news : List Int} (hl : l1 = (stack ++ news).length) (hrow : Row w1 w.heap.size (.slice (some ⟨g1, 0, none⟩) l1 cap1) (stack ++ news)) (hgrow : wr.grownBy w1 (Value.slice (some ⟨gs, 0, none⟩) l0 c0).ownBlock)
    (hat : (Value.slice (some ⟨gs, 0, none⟩) l0 c0).ownBlock = some g1 ∨ g1 = wr.heap.size) : RMem B bs be w wv g1 cap1 ways (stack ++ news) seen ended w1 :=
  h.pushStack hB hbs hbe hl hrow hgrow (by
    rcases hat with e | e
    · exact .inl (by cases e; rfl)
    · exact .inr e)

theorem round_push {G : Int → Prop} {n m : Nat} {seen0 ended0 : List Bool} {w0 : Int} {B bs be : Nat} {w : World} {ways st : List Int} {v : Int} {seen ended : List Bool} {grew : Bool}
    (hP : PInv G n m seen0 ended0 w0 ways (st ++ [v]) seen ended grew) (hv : 0 ≤ v) (hs : seen[v.toNat]? = some false) (news : List Int) (hn : ∀ u ∈ news, G u) (hl : news.length ≤ 2)
    (ended' : List Bool) (he1 : ended'.length = m) (he2 : fal ended' ≤ fal ended0) (grew' : Bool) (hg : grew' = true → fal ended' < fal ended0)
    {wv : Value} {g2 cap2 : Nat} {wr wz : World} (hM : RMem B bs be w wv g2 cap2 (ways ++ [v]) (st ++ news) (seen.set v.toNat true) ended' wz) (L : Nat) (hL : L = (st ++ news).length) (hcnt : cntF wr bs = fal seen) (a : Option Addr) (c0 : Nat) :
    ReachLoop G n m seen0 ended0 w0 B bs be w wv (.bool grew') (.slice (some ⟨g2, 0, none⟩) L cap2) wz ∧
      3 * cntF wz bs + lenOf (.slice (some ⟨g2, 0, none⟩) L cap2) < 3 * cntF wr bs + lenOf (.slice a (st.length + 1) c0) := by
  subst hL
  refine ⟨⟨g2, cap2, _, _, _, _, _, rfl, rfl, hM, hP.push hv hs news hn hl ended' he1 he2 grew' hg⟩, ?_⟩
  have h1 := cntF_blk hM.seenB
  have h2 := fal_set_true seen _ hs
  simp only [lenOf, List.length_append]
  omega

theorem round_seen {G : Int → Prop} {n m : Nat} {seen0 ended0 : List Bool} {w0 : Int} {B bs be : Nat} {w : World} {ways st : List Int} {v : Int} {seen ended : List Bool} {grew : Bool} {wv : Value} {gs cap : Nat} {wr : World}
    (hR : RRel G n m seen0 ended0 w0 B bs be w wv gs cap ways (st ++ [v]) seen ended grew wr) (hs : seen[v.toNat]? = some true) (a : Option Addr) (c0 : Nat) :
    ReachLoop G n m seen0 ended0 w0 B bs be w wv (.bool grew) (.slice (some ⟨gs, 0, none⟩) st.length cap) wr ∧
      3 * cntF wr bs + lenOf (.slice (some ⟨gs, 0, none⟩) st.length cap) < 3 * cntF wr bs + lenOf (.slice a (st.length + 1) c0) :=
  ⟨⟨gs, cap, _, _, _, _, _, rfl, rfl, hR.mem.pop, hR.pure.popSeen hs⟩, by simp only [lenOf]; omega⟩

theorem reach_start {B x g : Nat} {sb : Nat → Nat} {ps : List Inst} {start slots : Int} {G : Int → Prop} {n m bs be : Nat} {seen0 ended0 : List Bool} {w0 : Int} {w : World}
    (c : RCtx B x g sb ps start slots G n m bs be seen0 ended0 w0 w) :
    ReachLoop G n m seen0 ended0 w0 B bs be w (.slice none 0 0) (.bool false) (.slice (some ⟨w.heap.size, 0, none⟩) 1 1) (w.alloc (.cells #[.int .i32 w0] 21)) := by
  refine ⟨w.heap.size, 1, [], [w0], seen0, ended0, false, rfl, rfl, ⟨?_, ?_, ?_, ?_, ?_, ?_, ?_⟩, PInv.start c.hls c.hle c.hG0⟩
  · exact (Below.refl _ _).alloc c.hB _
  · rw [World.size_alloc]; omega
  · exact World.ownsRow_nil _ _ _ _
  · refine ⟨by simp, .inr ⟨w.heap.size, 1, #[.int .i32 w0], rfl, Nat.le_refl _, ?_, by simp, by unfold maxLen; omega, rfl, rfl⟩⟩
    exact Blk.new w [.int .i32 w0] 21
  · intro e; cases e
  · exact c.hS0.alloc _
  · exact c.hE0.alloc _

theorem step_push {ops : Array Oper} {o : Oper} {a : Act} {w : World} {K : Act → World → Prop} {Q : Exit → Act → World → Prop} {E : Prop} (hgd : o.guard = none) (s x : Operand) (ho : o.op = .call { callee := .builtin .append, args := #[s, x], argTypes := #[38, 38] })
    (base : Nat) (v : Value) (xs : List Int) (hs : a.eval s = v) (hrow : Row w base v xs) (hb m : Nat) (news : List Int) (hx : a.eval x = .slice (some ⟨hb, 0, none⟩) m m) (hm : news.length = m) (hm0 : 0 < m)
    (hnews : Blk w hb (news.map (Value.int .i32)) 21) (hlen : xs.length + m ≤ 1000000) (hbase : base ≤ w.heap.size)
    (h : ∀ g cap w', Row w' base (.slice (some ⟨g, 0, none⟩) (xs.length + m) cap) (xs ++ news) → w.grownBy w' v.ownBlock → (v.ownBlock = some g ∨ g = w.heap.size) → K (a.put o.dst (.slice (some ⟨g, 0, none⟩) (xs.length + m) cap)) w') :
    if Region.wanted o (yielded ops a.tmps) = true then Oper.wp Try.prog o a w K Q else E := by
  obtain ⟨i0, hi, hz0, hz1, hz2⟩ := info_parts info21
  subst hm
  refine step_append_lies _ hgd s x 38 ho base 21 i0 (.int .i32 0) 1 4 Try.underlying38 hi hz0 hz1 hz2 rfl (by omega) v xs.length (xs.map (Value.int .i32)) hs hrow ⟨hb, 0, none⟩ news.length news.length (news.map (Value.int .i32)) hx (by simp) ?_ ?_ hm0
    (by unfold maxLen; omega) (by omega) hbase _ rfl ?_
  · intro j u hj
    rw [Addr.add_mid, Nat.zero_add]; exact hnews.cell hj
  · intro u hu; simp at hu; obtain ⟨z, _, rfl⟩ := hu; rfl
  · intro g cap w' h1 h2 h3 _
    refine h g cap w' ?_ h2 h3
    unfold Row; rw [List.length_append, List.map_append]; exact h1

theorem one_mem {G : Int → Prop} {a : Int} (h : G a) : ∀ u ∈ [a], G u := by simpa using h
theorem two_mem {G : Int → Prop} {a b : Int} (h : G a) (h' : G b) : ∀ u ∈ [a, b], G u := by simp [h, h']
theorem no_mem {G : Int → Prop} : ∀ u ∈ ([] : List Int), G u := by simp

/-- THE END of 'reach'. -/
theorem reach_end {G : Int → Prop} {n m : Nat} {seen0 ended0 : List Bool} {w0 : Int} {B bs be : Nat} {w : World} {ways : List Int} {seen ended : List Bool} {grew : Bool} {wv : Value} {gs cap : Nat} {wr : World}
    (hR : RRel G n m seen0 ended0 w0 B bs be w wv gs cap ways [] seen ended grew wr) : ReachPost G n m seen0 ended0 w0 B bs be w (.returned (.tuple #[wv, .bool grew])) wr :=
  ⟨wv, gs, cap, ways, seen, ended, grew, rfl, hR⟩

attribute [local go_sem ↓] Go.wp_at_zero Go.wp_at_succ
set_option maxHeartbeats 6400000 in
set_option maxRecDepth 100000 in
theorem reach_any (B x g : Nat) (sb : Nat → Nat) (ps : List Inst) (start slots : Int) (G : Int → Prop) (n m bs be : Nat) (seen0 ended0 : List Bool) (w0 : Int) (w : World)
    (c : RCtx B x g sb ps start slots G n m bs be seen0 ended0 w0 w) (hn0 : 0 < n) (hn1 : n ≤ 4096) :
    Calls Try.prog 33 #[.pointer (some ⟨x, 0, none⟩), .slice (some ⟨bs, 0, none⟩) (2 * n) (2 * n), .int .i32 w0, .int .u8 255, .slice (some ⟨be, 0, none⟩) m m, .int .i32 (-1)] w
      (ReachPost G n m seen0 ended0 w0 B bs be w) := by
  have hB := c.hB
  have hbsL := c.hS0.lt
  have hbeL := c.hE0.lt
  have hgB := c.hE.gB
  have hbg1 : ¬ be = g := by have := c.hbe; omega
  have hbg2 : ¬ g = be := by have := c.hbe; omega
  go_enter Try.func33, Try.ntmps33
  go_wp2_with fail
  go_loopw [12, 13, 14] (ReachLoop G n m seen0 ended0 w0 B bs be w) (fun _ _ sv wr => 3 * cntF wr bs + lenOf sv)
  case atStart => exact reach_start c
  case round =>
    obtain ⟨gs, cap, ways, stack, seen, ended, grew, rfl, rfl, hR⟩ := hrel
    rcases nil_or_snoc stack with rfl | ⟨st, v, rfl⟩
    · have HR := hide hR
      clear hR
      rw [List.length_nil]
      go_wp2_with fail
      go_ret2
      exact reach_end HR.out
    · have hv := c.hGr v (hR.pure.gstack v (by simp))
      have hcell := row_cell hR.mem.srow
      have hcap := (row_cap hR.mem.srow).1
      have hl : st.length ≤ 16384 := by have := hR.pure.bstack; have := (fal_le seen); have := hR.pure.lseen; simp at *; omega
      have hlw : ways.length ≤ 8192 := by have := hR.pure.bways; have := (fal_le seen0); have := c.hls; omega
      have hsv : (seen[v.toNat]?) = some true ∨ (seen[v.toNat]?) = some false := by
        have hlt : v.toNat < seen.length := by rw [hR.pure.lseen]; omega
        rw [List.getElem?_eq_getElem hlt]; cases seen[v.toNat] <;> simp
      rw [List.length_append, List.length_singleton] at hcap ⊢
      obtain ⟨hv0, hv1⟩ := hv
      rcases hsv with hsv | hsv
      · have hsc : wr.cell? ⟨bs, v.toNat, none⟩ = some (.bool true) := hR.mem.seenB.cell (by simp [hsv])
        have Hsv := hide hsv
        have HR := hide hR
        clear hR hsv
        go_wp2_with fail
        exact round_seen HR.out Hsv.out _ _
      · have hsc : wr.cell? ⟨bs, v.toNat, none⟩ = some (.bool false) := hR.mem.seenB.cell (by simp [hsv])
        have hsf : wr.frozen? ⟨bs, v.toNat, none⟩ = false := hR.mem.seenB.frozen _
        have Hsv := hide hsv
        clear hsv
        have HM := hide ((hR.mem.pop.mark c.hbs hbsL c.hne v.toNat).alloc hB (.cells #[.int .i32 v] 21))
        have HP := hide hR.pure
        have Hc := hide (cntF_blk hR.mem.seenB)
        have HG := hide (hR.pure.gstack v (by simp))
        clear hR
        obtain ⟨p, hp⟩ : ∃ p, ps[(v / 2).toNat]? = some p := ⟨_, List.getElem?_eq_getElem (by rw [c.hn]; omega)⟩
        have Hw := hide (c.hwf p (List.mem_of_getElem? hp))
        have Hk := hide (ok_of_valid c.hval c.hn hp)
        have HC := hide (c.hGc v p HG.out hp)
        obtain ⟨op, la, ch, ar, px, py, s0, s1, s2, s3⟩ := p
        have Hp := hide hp
        clear hp
        have ea : bits .and .i32 v 1 = v % 2 := i32_and_one v hv0 (by omega)
        have hv2 : 0 ≤ v % 2 := by omega
        have hv3 : v % 2 ≤ 1 := by omega
        go_wp2_with ((with_reducible refine at_append (.tmp 42) (.tmp 44) ?_; refine Hid.out ?_))
        unfold Hid
        refine wp_push rfl (.tmp 42) (.tmp 44) rfl w.heap.size u12 ways (by rfl) HM.out.wrow wr.heap.size 1 [v] (by rfl) rfl (by omega) ?_ (by omega) (by have := HM.out.size; omega) ?_
        · have hz := Blk.new (wr.setCell ⟨bs, v.toNat, none⟩ (.bool true)) [.int .i32 v] 21
          rw [World.size_setCell] at hz
          exact hz
        intro g1 cap1 w1 hrow1 hgrow1 hat1
        have hM1 := HM.out.pushWays hB hbsL hbeL hrow1 hgrow1 hat1
        clear HM hrow1 hgrow1 hat1 hcell hsc hsf
        have hE1 := c.hE.below hM1.below
        have hx0 : w1.cell? ⟨x, 0, none⟩ = some (.slice (some ⟨g, 0, none⟩) n n) := by rw [← c.hn]; exact hE1.blk.cell rfl
        obtain ⟨c0, c1, c3, c4, c5⟩ := icells_cells (hE1.inst _ _ Hp.out)
        have hsz1 := hM1.size
        have hgs1 := (row_cap hM1.srow).2
        have HM := hide hM1
        clear hM1 hE1
        obtain ⟨⟨w1a, w2⟩, ⟨w3, w4⟩, ⟨w5, w6⟩, w7, w8⟩ := Hw.out
        simp only at w1a w2 w3 w4 w5 w6 w7 w8
        by_cases h2 : op = 2
        · have e2 : (op == 2) = true := beq_iff_eq.2 h2
          obtain ⟨⟨x0, x1⟩, y0, y1⟩ := ok_split Hk.out h2
          simp only at x0 x1 y0 y1
          have HG2 := hide (HC.out.1 h2)
          clear h2
          have eox : bits .or .i32 (px * 2) (v % 2) = 2 * px + v % 2 := i32_or_bit px (v % 2) x0 (by omega) hv2 hv3
          have eoy : bits .or .i32 (py * 2) (v % 2) = 2 * py + v % 2 := i32_or_bit py (v % 2) y0 (by omega) hv2 hv3
          have ewx : IntKind.i32.wrap (px * 2) = px * 2 := by rw [IntKind.wrap_i32]; omega
          have ewy : IntKind.i32.wrap (py * 2) = py * 2 := by rw [IntKind.wrap_i32]; omega
          have HM2 := hide (HM.out.alloc hB (.cells #[.int .i32 (2 * py + v % 2), .int .i32 (2 * px + v % 2)] 21)).drew
          have hv4 : (v / 2) < (n : Int) := by omega
          have hv5 : 0 ≤ v / 2 := by omega
          go_wp2_with fail
          go_region_held3 (fun w' => w'.cell? ⟨g, (v / 2).toNat * 7 + 4, none⟩ = some (.int .i32 px) ∧ w'.cell? ⟨g, (v / 2).toNat * 7 + 5, none⟩ = some (.int .i32 py))
            (first | go_keep | (go_split_ands; refine ⟨?_, ?_⟩ <;> (rw [hgrow2.cell_far _ (by simp; omega) (by intro e; simp [Value.ownBlock] at e; omega)]; assumption)))
            ((refine step_push (by rfl) _ _ (by rfl) w.heap.size (.slice (some ⟨gs, 0, none⟩) st.length cap) st (by rfl) HM2.out.srow w1.heap.size 2 [2 * py + v % 2, 2 * px + v % 2] (by rfl) rfl (by omega) (Blk.drew (Blk.new w1 [.int .i32 (2 * py + v % 2), .int .i32 (2 * px + v % 2)] 21)) (by omega) (by have := HM2.out.size; omega) ?_; intro g2 cap2 w2' hrow2 hgrow2 hat2))
          have HM3 := hide (HM2.out.pushStack' hB hbsL hbeL (by simp) hrow2 hgrow2 hat2)
          clear HM2 hrow2 hgrow2 hat2 HM
          go_wp2_with fail
          exact round_push HP.out hv0 Hsv.out [2 * py + v % 2, 2 * px + v % 2] (two_mem HG2.out.1 HG2.out.2) (by simp) ended HP.out.lended HP.out.fended grew HP.out.grown HM3.out _ (by simp) Hc.out _ _
        have e2 : (op == 2) = false := beq_eq_false_iff_ne.2 h2
        have H2 := hide h2
        clear h2
        by_cases h4 : op = 4
        · have e4 : (op == 4) = true := beq_iff_eq.2 h4
          obtain ⟨⟨x0, x1⟩, a0, a1⟩ := ok_save Hk.out (.inl h4)
          simp only at x0 x1 a0 a1
          have HG2 := hide (HC.out.2.1 (.inl h4))
          clear h4
          have eox : bits .or .i32 (px * 2) (v % 2) = 2 * px + v % 2 := i32_or_bit px (v % 2) x0 (by omega) hv2 hv3
          have ea2 : bits .and .i32 ar 1 = ar % 2 := i32_and_one ar a0 (by omega)
          have a2 : ar / 2 < (m : Int) := by rw [c.hm]; exact a1
          have a3 : 0 ≤ ar / 2 := by omega
          have hlt : (ar / 2).toNat < ended.length := by rw [HP.out.lended]; omega
          have hec := HM.out.endB.cell (j := (ar / 2).toNat) (v := .bool ended[(ar / 2).toNat]) (by rw [List.getElem?_map, List.getElem?_eq_getElem hlt]; rfl)
          have hef := HM.out.endB.frozen (ar / 2).toNat
          by_cases hodd : ar % 2 = 1
          · have eo : (ar % 2 == 1) = true := beq_iff_eq.2 hodd
            cases heb : ended[(ar / 2).toNat]
            · rw [heb] at hec
              have hes : ended[(ar / 2).toNat]? = some false := by rw [List.getElem?_eq_getElem hlt, heb]
              have Hes := hide hes
              clear hes heb hlt hodd
              have hz1 : (w1.setCell ⟨be, (ar / 2).toNat, none⟩ (.bool true)).heap.size = w1.heap.size := World.size_setCell _ _ _
              go_wp2_with ((with_reducible refine at_append (.tmp 104) (.tmp 112) ?_; refine Hid.out ?_))
              unfold Hid
              have HM2 := hide ((HM.out.markEnd c.hbe hbeL c.hne (ar / 2).toNat).alloc hB (.cells #[.int .i32 (2 * px + v % 2)] 21))
              refine wp_push rfl (.tmp 104) (.tmp 112) rfl w.heap.size (.slice (some ⟨gs, 0, none⟩) st.length cap) st (by rfl) HM2.out.srow w1.heap.size 1 [2 * px + v % 2] (by rfl) rfl (by omega) (by have hz := Blk.new (w1.setCell ⟨be, (ar / 2).toNat, none⟩ (.bool true)) [.int .i32 (2 * px + v % 2)] 21; rw [World.size_setCell] at hz; exact hz) (by omega) (by have := HM2.out.size; omega) ?_
              intro g2 cap2 w2' hrow2 hgrow2 hat2
              have HM3 := hide (HM2.out.pushStack' hB hbsL hbeL (by simp) hrow2 hgrow2 hat2)
              clear HM2 hrow2 hgrow2 hat2 HM
              go_wp2_with fail
              exact round_push HP.out hv0 Hsv.out [2 * px + v % 2] (one_mem (HG2.out)) (by simp) (ended.set (ar / 2).toNat true) (by rw [List.length_set]; exact HP.out.lended) (by have := fal_set_true _ _ Hes.out; have := HP.out.fended; omega) true (fun _ => by have := fal_set_true _ _ Hes.out; have := HP.out.fended; omega) HM3.out _ (by simp) Hc.out _ _
            · rw [heb] at hec
              clear heb hlt hodd
              go_wp2_with ((with_reducible refine at_append (.tmp 104) (.tmp 112) ?_; refine Hid.out ?_))
              unfold Hid
              have HM2 := hide (HM.out.alloc hB (.cells #[.int .i32 (2 * px + v % 2)] 21))
              refine wp_push rfl (.tmp 104) (.tmp 112) rfl w.heap.size (.slice (some ⟨gs, 0, none⟩) st.length cap) st (by rfl) HM2.out.srow w1.heap.size 1 [2 * px + v % 2] (by rfl) rfl (by omega) (Blk.new w1 [.int .i32 (2 * px + v % 2)] 21) (by omega) (by have := HM2.out.size; omega) ?_
              intro g2 cap2 w2' hrow2 hgrow2 hat2
              have HM3 := hide (HM2.out.pushStack' hB hbsL hbeL (by simp) hrow2 hgrow2 hat2)
              clear HM2 hrow2 hgrow2 hat2 HM
              go_wp2_with fail
              exact round_push HP.out hv0 Hsv.out [2 * px + v % 2] (one_mem (HG2.out)) (by simp) ended HP.out.lended HP.out.fended grew HP.out.grown HM3.out _ (by simp) Hc.out _ _
          · have eo : (ar % 2 == 1) = false := beq_eq_false_iff_ne.2 hodd
            clear hodd hec hef hlt
            go_wp2_with ((with_reducible refine at_append (.tmp 104) (.tmp 112) ?_; refine Hid.out ?_))
            unfold Hid
            have HM2 := hide (HM.out.alloc hB (.cells #[.int .i32 (2 * px + v % 2)] 21))
            refine wp_push rfl (.tmp 104) (.tmp 112) rfl w.heap.size (.slice (some ⟨gs, 0, none⟩) st.length cap) st (by rfl) HM2.out.srow w1.heap.size 1 [2 * px + v % 2] (by rfl) rfl (by omega) (Blk.new w1 [.int .i32 (2 * px + v % 2)] 21) (by omega) (by have := HM2.out.size; omega) ?_
            intro g2 cap2 w2' hrow2 hgrow2 hat2
            have HM3 := hide (HM2.out.pushStack' hB hbsL hbeL (by simp) hrow2 hgrow2 hat2)
            clear HM2 hrow2 hgrow2 hat2 HM
            go_wp2_with fail
            exact round_push HP.out hv0 Hsv.out [2 * px + v % 2] (one_mem (HG2.out)) (by simp) ended HP.out.lended HP.out.fended grew HP.out.grown HM3.out _ (by simp) Hc.out _ _
        have e4 : (op == 4) = false := beq_eq_false_iff_ne.2 h4
        clear h4
        by_cases h5 : op = 5
        · have e5 : (op == 5) = true := beq_iff_eq.2 h5
          obtain ⟨⟨x0, x1⟩, a0, a1⟩ := ok_save Hk.out (.inr h5)
          simp only at x0 x1 a0 a1
          have HG2 := hide (HC.out.2.1 (.inr h5))
          clear h5
          have eox : bits .or .i32 (px * 2) (v % 2) = 2 * px + v % 2 := i32_or_bit px (v % 2) x0 (by omega) hv2 hv3
          have a2 : ar / 2 < (m : Int) := by rw [c.hm]; exact a1
          have a3 : 0 ≤ ar / 2 := by omega
          have hlt : (ar / 2).toNat < ended.length := by rw [HP.out.lended]; omega
          have hec := HM.out.endB.cell (j := (ar / 2).toNat) (v := .bool ended[(ar / 2).toNat]) (by rw [List.getElem?_map, List.getElem?_eq_getElem hlt]; rfl)
          cases heb : ended[(ar / 2).toNat]
          · rw [heb] at hec
            clear heb hlt
            go_wp2_with fail
            exact round_push HP.out hv0 Hsv.out [] no_mem (by simp) ended HP.out.lended HP.out.fended grew HP.out.grown (by rw [List.append_nil]; exact HM.out) _ (by simp) Hc.out _ _
          · rw [heb] at hec
            clear heb hlt
            go_wp2_with ((with_reducible refine at_append (.tmp 124) (.tmp 132) ?_; refine Hid.out ?_))
            unfold Hid
            have HM2 := hide (HM.out.alloc hB (.cells #[.int .i32 (2 * px + v % 2)] 21))
            refine wp_push rfl (.tmp 124) (.tmp 132) rfl w.heap.size (.slice (some ⟨gs, 0, none⟩) st.length cap) st (by rfl) HM2.out.srow w1.heap.size 1 [2 * px + v % 2] (by rfl) rfl (by omega) (Blk.new w1 [.int .i32 (2 * px + v % 2)] 21) (by omega) (by have := HM2.out.size; omega) ?_
            intro g2 cap2 w2' hrow2 hgrow2 hat2
            have HM3 := hide (HM2.out.pushStack' hB hbsL hbeL (by simp) hrow2 hgrow2 hat2)
            clear HM2 hrow2 hgrow2 hat2 HM
            go_wp2_with fail
            exact round_push HP.out hv0 Hsv.out [2 * px + v % 2] (one_mem (HG2.out)) (by simp) ended HP.out.lended HP.out.fended grew HP.out.grown HM3.out _ (by simp) Hc.out _ _
        have e5 : (op == 5) = false := beq_eq_false_iff_ne.2 h5
        clear h5
        by_cases h3 : op = 3
        · have e3 : (op == 3) = true := beq_iff_eq.2 h3
          obtain ⟨⟨x0, x1⟩, a0⟩ := ok_assert Hk.out h3
          simp only at x0 x1 a0
          have HG2 := hide (HC.out.2.2 h3)
          clear h3
          have eo1 : bits .or .i32 (px * 2) 1 = 2 * px + 1 := i32_or_bit px 1 x0 (by omega) (by omega) (by omega)
          by_cases hla : la = true ∧ v % 2 = 0
          · obtain ⟨hla1, hla2⟩ := hla
            subst hla1
            have ev : (v % 2 == 0) = true := beq_iff_eq.2 hla2
            have HG3 := hide (HG2.out.1 rfl hla2)
            clear hla2
            go_wp2_with ((with_reducible refine at_append (.tmp 144) (.tmp 150) ?_; refine Hid.out ?_))
            unfold Hid
            have HM2 := hide (HM.out.alloc hB (.cells #[.int .i32 (px * 2)] 21))
            refine wp_push rfl (.tmp 144) (.tmp 150) rfl w.heap.size (.slice (some ⟨gs, 0, none⟩) st.length cap) st (by rfl) HM2.out.srow w1.heap.size 1 [px * 2] (by rfl) rfl (by omega) (Blk.new w1 [.int .i32 (px * 2)] 21) (by omega) (by have := HM2.out.size; omega) ?_
            intro g2 cap2 w2' hrow2 hgrow2 hat2
            have HM3 := hide (HM2.out.pushStack' hB hbsL hbeL (by simp) hrow2 hgrow2 hat2)
            clear HM2 hrow2 hgrow2 hat2 HM
            go_wp2_with fail
            exact round_push HP.out hv0 Hsv.out [px * 2] (one_mem ((by rw [Int.mul_comm]; exact HG3.out))) (by simp) ended HP.out.lended HP.out.fended grew HP.out.grown HM3.out _ (by simp) Hc.out _ _
          · have HG3 := hide (HG2.out.2 hla)
            cases la
            · clear hla
              go_wp2_with ((with_reducible refine at_append (.tmp 160) (.tmp 167) ?_; refine Hid.out ?_))
              · unfold Hid
                have HM2 := hide (HM.out.alloc hB (.cells #[.int .i32 (2 * px + 1)] 21))
                refine wp_push rfl (.tmp 160) (.tmp 167) rfl w.heap.size (.slice (some ⟨gs, 0, none⟩) st.length cap) st (by rfl) HM2.out.srow w1.heap.size 1 [2 * px + 1] (by rfl) rfl (by omega) (Blk.new w1 [.int .i32 (2 * px + 1)] 21) (by omega) (by have := HM2.out.size; omega) ?_
                intro g2 cap2 w2' hrow2 hgrow2 hat2
                have HM3 := hide (HM2.out.pushStack' hB hbsL hbeL (by simp) hrow2 hgrow2 hat2)
                clear HM2 hrow2 hgrow2 hat2 HM
                go_wp2_with fail
                exact round_push HP.out hv0 Hsv.out [2 * px + 1] (one_mem (HG3.out)) (by simp) ended HP.out.lended HP.out.fended grew HP.out.grown HM3.out _ (by simp) Hc.out _ _
              · exact round_push HP.out hv0 Hsv.out [] no_mem (by simp) ended HP.out.lended HP.out.fended grew HP.out.grown (by rw [List.append_nil]; exact HM.out) _ (by simp) Hc.out _ _
            · have ev : (v % 2 == 0) = false := beq_eq_false_iff_ne.2 (fun e => hla ⟨rfl, e⟩)
              clear hla
              go_wp2_with ((with_reducible refine at_append (.tmp 160) (.tmp 167) ?_; refine Hid.out ?_))
              · unfold Hid
                have HM2 := hide (HM.out.alloc hB (.cells #[.int .i32 (2 * px + 1)] 21))
                refine wp_push rfl (.tmp 160) (.tmp 167) rfl w.heap.size (.slice (some ⟨gs, 0, none⟩) st.length cap) st (by rfl) HM2.out.srow w1.heap.size 1 [2 * px + 1] (by rfl) rfl (by omega) (Blk.new w1 [.int .i32 (2 * px + 1)] 21) (by omega) (by have := HM2.out.size; omega) ?_
                intro g2 cap2 w2' hrow2 hgrow2 hat2
                have HM3 := hide (HM2.out.pushStack' hB hbsL hbeL (by simp) hrow2 hgrow2 hat2)
                clear HM2 hrow2 hgrow2 hat2 HM
                go_wp2_with fail
                exact round_push HP.out hv0 Hsv.out [2 * px + 1] (one_mem (HG3.out)) (by simp) ended HP.out.lended HP.out.fended grew HP.out.grown HM3.out _ (by simp) Hc.out _ _
              · exact round_push HP.out hv0 Hsv.out [] no_mem (by simp) ended HP.out.lended HP.out.fended grew HP.out.grown (by rw [List.append_nil]; exact HM.out) _ (by simp) Hc.out _ _
        have e3 : (op == 3) = false := beq_eq_false_iff_ne.2 h3
        clear h3
        go_wp2_with fail
        exact round_push HP.out hv0 Hsv.out [] no_mem (by simp) ended HP.out.lended HP.out.fended grew HP.out.grown (by rw [List.append_nil]; exact HM.out) _ (by simp) Hc.out _ _
end Go.Proofs.Qxb6001162a
