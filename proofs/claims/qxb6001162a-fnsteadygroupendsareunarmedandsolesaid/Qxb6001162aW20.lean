import Derived.Test.Qxb6001162aW19
namespace Go.Proofs.Qxb6001162a
open Go.RowKit

theorem icells7 {w : World} {b o s : Nat} {op : Int} {la ch : Bool} {ar x y s0 s1 s2 s3 : Int} (h : w.rangeAt b o (Inst.icells ⟨op, la, ch, ar, x, y, s0, s1, s2, s3⟩ s)) :
    w.cell? ⟨b, o, none⟩ = some (.int .u8 op) ∧ w.cell? ⟨b, o + 1, none⟩ = some (.bool la) ∧ w.cell? ⟨b, o + 2, none⟩ = some (.bool ch) ∧ w.cell? ⟨b, o + 3, none⟩ = some (.int .i32 ar) ∧
    w.cell? ⟨b, o + 4, none⟩ = some (.int .i32 x) ∧ w.cell? ⟨b, o + 5, none⟩ = some (.int .i32 y) ∧ w.cell? ⟨b, o + 6, none⟩ = some (.pointer (some ⟨s, 0, none⟩)) :=
  ⟨h 0 _ rfl, h 1 _ rfl, h 2 _ rfl, h 3 _ rfl, h 4 _ rfl, h 5 _ rfl, h 6 _ rfl⟩

theorem Row.nilForm {w : World} {base : Nat} {v : Value} (h : Row w base v []) : ∃ a cap, v = .slice a 0 cap := by
  obtain ⟨_, h2⟩ := h
  rcases h2 with h2 | ⟨g, cap, cur, hv, r⟩
  · exact ⟨none, 0, h2.1⟩
  · exact ⟨_, cap, hv⟩

theorem V2.popSeen {ps : List Inst} {n B : Nat} {w : World} {bs gs cap : Nat} {st : List Int} {v : Int} {seen : List Bool} {wr : World} (h : V2 ps n B w bs (.slice (some ⟨gs, 0, none⟩) (st ++ [v]).length cap) (st ++ [v]) seen wr) (hs : seen[v.toNat]? = some true) :
    V2 ps n B w bs (.slice (some ⟨gs, 0, none⟩) st.length cap) st seen wr :=
  ⟨h.below, h.lo, row_pop h.row, h.apart, h.seenB, h.pure.popSeen hs⟩

theorem V2.push {ps : List Inst} {n B : Nat} {w : World} {bs gs cap : Nat} {st : List Int} {v : Int} {seen : List Bool} {wr : World} (h : V2 ps n B w bs (.slice (some ⟨gs, 0, none⟩) (st ++ [v]).length cap) (st ++ [v]) seen wr) (hB : B ≤ w.heap.size) (hv : 0 ≤ v ∧ v < n) (hs : seen[v.toNat]? = some false)
    {q : Inst} (hq : ps[v.toNat]? = some q) (news : List Int) (hr : ∀ u ∈ news, 0 ≤ u ∧ u < n) (hl : news.length ≤ 2) (hg : Goes q (· ∈ news)) {wb w1 : World} (hwb : Below (bs + 1) ((wr.setCell ⟨bs, v.toNat, none⟩ (.bool true))) wb) (_hwg : gs < wb.heap.size)
    {g1 l1 c1 l0 c0 : Nat} (hrow : Row w1 (w.heap.size + 1) (.slice (some ⟨g1, 0, none⟩) l1 c1) (st ++ news)) (hgrow : wb.grownBy w1 (Value.slice (some ⟨gs, 0, none⟩) l0 c0).ownBlock) (hat : (Value.slice (some ⟨gs, 0, none⟩) l0 c0).ownBlock = some g1 ∨ g1 = wb.heap.size) :
    V2 ps n B w bs (.slice (some ⟨g1, 0, none⟩) l1 c1) (st ++ news) (seen.set v.toNat true) w1 := by
  have hgs : gs ≠ bs := fun e => h.apart (by rw [e]; rfl)
  have hbw : bs < wr.heap.size := h.seenB.lt
  have hbb : bs < wb.heap.size := by have := hwb.size; rw [World.size_setCell] at this; omega
  have hbel : Below B w wb := (h.below.setCell (by have := h.lo; show B ≤ bs; omega) _).trans (hwb.mono (by have := h.lo; omega))
  have hgl := (row_lt h.row (k := gs) rfl).1
  have hgk : ∀ k, (Value.slice (some ⟨gs, 0, none⟩) l0 c0).ownBlock = some k → B ≤ k := by
    intro k hk
    have e : gs = k := by cases hk; rfl
    omega
  refine ⟨hbel.grown hgrow (by have := h.lo; omega) hgk, h.lo, hrow, ?_, ?_, h.pure.push hv hs hq news hr hl hg⟩
  · rcases hat with e | e
    · cases e; intro e2; cases e2; exact hgs rfl
    · intro e2
      have e3 : g1 = bs := by cases e2; rfl
      omega
  · have h1 := h.seenB.setCell v.toNat (.bool true)
    rw [← List.map_set] at h1
    exact (h1.below hwb (by omega)).grown hgrow (fun e => by cases e; exact hgs rfl)

theorem V2.mark {ps : List Inst} {n B : Nat} {w : World} {bs gs cap : Nat} {st : List Int} {v : Int} {seen : List Bool} {wr : World} (h : V2 ps n B w bs (.slice (some ⟨gs, 0, none⟩) (st ++ [v]).length cap) (st ++ [v]) seen wr) (hB : B ≤ w.heap.size) (hv : 0 ≤ v ∧ v < n) (hs : seen[v.toNat]? = some false)
    {q : Inst} (hq : ps[v.toNat]? = some q) (hg : Goes q (fun _ => False)) : V2 ps n B w bs (.slice (some ⟨gs, 0, none⟩) st.length cap) st (seen.set v.toNat true) (wr.setCell ⟨bs, v.toNat, none⟩ (.bool true)) := by
  have hp := h.pure.push hv hs hq [] (by simp) (by simp) (hg.mono fun _ k => k.elim)
  rw [List.append_nil] at hp
  refine ⟨h.below.setCell (by have := h.lo; show B ≤ bs; omega) _, h.lo, Row.setCell_other (a := ⟨bs, v.toNat, none⟩) (row_pop h.row) (fun e => h.apart e) _, h.apart, ?_, hp⟩
  have h1 := h.seenB.setCell v.toNat (.bool true)
  rwa [← List.map_set] at h1

def VaryLoop (ps : List Inst) (n B : Nat) (w : World) (bs : Nat) (sv : Value) (wr : World) : Prop := ∃ stack seen, V2 ps n B w bs sv stack seen wr

theorem vary_round {ps : List Inst} {n B : Nat} {w : World} {bs : Nat} {st news : List Int} {v : Int} {seen : List Bool} {wr wz : World} {sv' : Value} (hs : seen[v.toNat]? = some false) (hM : V2 ps n B w bs sv' (st ++ news) (seen.set v.toNat true) wz) (hl : news.length ≤ 2) (hL : lenOf sv' = (st ++ news).length) (hcnt : cntF wr bs = fal seen) (a : Option Addr) (c0 : Nat) :
    VaryLoop ps n B w bs sv' wz ∧ 3 * cntF wz bs + lenOf sv' < 3 * cntF wr bs + lenOf (.slice a (st.length + 1) c0) := by
  refine ⟨⟨_, _, hM⟩, ?_⟩
  have h1 := cntF_blk hM.seenB
  have h2 := fal_set_true seen _ hs
  rw [hL]
  simp only [lenOf, List.length_append]
  omega

theorem goes_none {q : Inst} (h2 : ¬ q.op = 2) (h4 : ¬ q.op = 4) (h5 : ¬ q.op = 5) (h3 : ¬ q.op = 3) : Goes q (fun _ => False) :=
  ⟨fun h => absurd h h2, fun h => absurd h h4, fun h => by rcases h with h | h; exact absurd h h3; exact absurd h h5⟩

def VaryPost (ps : List Inst) (B : Nat) (w : World) (e : Ending) (w' : World) : Prop := ∃ r, e = .returned (.bool r) ∧ Below B w w' ∧ (r = false → Steady ps)

theorem two_rng {n : Nat} {a b : Int} (h : 0 ≤ a ∧ a < n) (h' : 0 ≤ b ∧ b < n) : ∀ u ∈ [a, b], 0 ≤ u ∧ u < (n : Int) := by
  intro u hu; simp at hu; rcases hu with rfl | rfl
  · exact h
  · exact h'
theorem one_rng {n : Nat} {a : Int} (h : 0 ≤ a ∧ a < n) : ∀ u ∈ [a], 0 ≤ u ∧ u < (n : Int) := by intro u hu; simp at hu; subst hu; exact h

attribute [local go_sem ↓] Go.wp_at_zero Go.wp_at_succ
set_option maxHeartbeats 6400000 in
set_option maxRecDepth 100000 in
theorem vary_any (B x g : Nat) (sb : Nat → Nat) (ps : List Inst) (start slots : Int) (G : Int → Prop) (n m : Nat) (w : World) (c : SCtx B x g sb ps start slots G n m w) (hn0 : 0 < n) (hn1 : n ≤ 4096) (hs0 : 0 ≤ slots) (hs1 : slots ≤ 65536) :
    Calls Try.prog 30 #[.pointer (some ⟨x, 0, none⟩)] w (VaryPost ps B w) := by
  have hB := c.hB
  have hxB := c.hE.eB
  have hgB := c.hE.gB
  have hx0 : w.cell? ⟨x, 0, none⟩ = some (.slice (some ⟨g, 0, none⟩) n n) := by rw [← c.hn]; exact c.hE.blk.cell rfl
  have hx2 : w.cell? ⟨x, 2, none⟩ = some (.int .i64 slots) := c.hE.blk.cell rfl
  have hx0' : ∀ o, (w.alloc o).cell? ⟨x, 0, none⟩ = some (.slice (some ⟨g, 0, none⟩) n n) := fun o => by rw [World.cell?_alloc_lt _ _ _ (by show x < w.heap.size; omega)]; exact hx0
  have hmk1 := fun (w : World) => make_counts w (slots / 2) m c.hm.symm (by have := c.hm; omega)
  have hmk2 := fun (w : World) => make_bools w (n : Int) n rfl (by omega)
  have n1 : ¬ w.heap.size = g := by omega
  have n2 : ¬ g = w.heap.size := by omega
  go_enter Try.func30, Try.ntmps30
  go_wp2_with fail
  go_loopw [4, 21] (fun sv i wr => ∃ k : Nat, k ≤ n ∧ i = .int .i64 k ∧ V1 ps m B w k sv wr) (fun _ i _ => n - (intOf i).toNat)
  case atStart => exact ⟨0, by omega, rfl, V1.start ps m B w hB⟩
  case round =>
    obtain ⟨k, hk, rfl, hV⟩ := hrel
    clear hx0 hx0' hx2
    by_cases hlt : k < n
    · obtain ⟨p, hp⟩ : ∃ p, ps[k]? = some p := ⟨_, List.getElem?_eq_getElem (by rw [c.hn]; exact hlt)⟩
      have hE1 := c.hE.below hV.below
      have hin := hE1.inst _ _ hp
      have Hk := hide (ok_of_valid c.hval c.hn hp)
      have Hw := hide (c.hwf p (List.mem_of_getElem? hp))
      have hax : (asX (ps.take k)).length ≤ 4096 := by have := asX_length (ps.take k); rw [List.length_take] at this; omega
      have hsz := hV.size
      have HV := hide hV
      have Hp := hide hp
      clear hp hV hE1
      obtain ⟨op, la, ch, ar, px, py, s0, s1, s2, s3⟩ := p
      obtain ⟨c0, c1, c2, c3, c4, c5, c6⟩ := icells7 hin
      clear hin
      obtain ⟨_, ⟨w3, w4⟩, _⟩ := Hw.out
      simp only at w3 w4
      by_cases h4 : op = 4
      · have e4 : (op == 4) = true := beq_iff_eq.2 h4
        have e3 : (op == 3) = false := beq_eq_false_iff_ne.2 (by omega)
        obtain ⟨_, a0, a1⟩ := ok_save Hk.out (.inl h4)
        simp only at a0 a1
        have ea2 : bits .and .i32 ar 1 = ar % 2 := i32_and_one ar a0 (by omega)
        have a2 : ar / 2 < (m : Int) := by rw [c.hm]; exact a1
        have a3 : 0 ≤ ar / 2 := by omega
        have H4 := hide h4
        clear h4
        by_cases hodd : ar % 2 = 1
        · have eo : (ar % 2 == 1) = true := beq_iff_eq.2 hodd
          obtain ⟨l, hC, hle, hb⟩ := HV.out.cnt
          obtain ⟨z, hz⟩ : ∃ z, l[(ar / 2).toNat]? = some z := ⟨_, List.getElem?_eq_getElem (by rw [hC.1]; omega)⟩
          have hz1 : z ≤ 1 := by rw [hC.2 _ _ hz]; exact hle _
          have hcz := hb.cell (j := (ar / 2).toNat) (v := .int .i64 (z : Int)) (by unfold natCells; rw [List.getElem?_map, hz]; rfl)
          have hcf := hb.frozen (ar / 2).toNat
          have hd : z = 0 ∨ z = 1 := by omega
          rcases hd with rfl | rfl
          · have HN := hide ((HV.out.count hB Hp.out H4.out hodd hC hb (g := (ar / 2).toNat) (by show ar / 2 = _; omega) hz).alloc hB (.cells #[.int .u8 op, .bool la, .bool ch, .int .i32 ar, .int .i32 px, .int .i32 py, .pointer (some ⟨sb k, 0, none⟩)] 65))
            clear hC hle hb hz hz1 hodd
            have hcz0 : wr.cell? ⟨w.heap.size, (ar / 2).toNat, none⟩ = some (.int .i64 0) := hcz
            clear hcz
            go_wp2_with fail
            exact ⟨⟨k + 1, by omega, by go_num, HN.out⟩, by simp [intOf]; omega⟩
          · have HN := hide (((HV.out.below.setCell (p := ⟨w.heap.size, (ar / 2).toNat, none⟩) hB (.int .i64 2))).alloc (by rw [World.size_setCell]; omega) (.cells #[.int .u8 op, .bool la, .bool ch, .int .i32 ar, .int .i32 px, .int .i32 py, .pointer (some ⟨sb k, 0, none⟩)] 65))
            clear hC hle hb hz hz1 hodd
            have hcz0 : wr.cell? ⟨w.heap.size, (ar / 2).toNat, none⟩ = some (.int .i64 1) := hcz
            clear hcz
            go_wp2_with fail
            go_ret
            exact ⟨true, rfl, HN.out, fun h => by cases h⟩
        · have eo : (ar % 2 == 1) = false := beq_eq_false_iff_ne.2 hodd
          have HN := hide ((HV.out.pass Hp.out (by show ¬ op = 3; have := H4.out; omega) (fun h => hodd h.2)).alloc hB (.cells #[.int .u8 op, .bool la, .bool ch, .int .i32 ar, .int .i32 px, .int .i32 py, .pointer (some ⟨sb k, 0, none⟩)] 65))
          clear hodd
          go_wp2_with fail
          exact ⟨⟨k + 1, by omega, by go_num, HN.out⟩, by simp [intOf]; omega⟩
      have e4 : (op == 4) = false := beq_eq_false_iff_ne.2 h4
      by_cases h3 : op = 3
      · have e3 : (op == 3) = true := beq_iff_eq.2 h3
        have H3 := hide h3
        clear h3 h4
        have HM2 := hide ((HV.out.alloc hB (.cells #[.int .u8 op, .bool la, .bool ch, .int .i32 ar, .int .i32 px, .int .i32 py, .pointer (some ⟨sb k, 0, none⟩)] 65)).alloc hB (.cells #[.int .i32 px] 21))
        go_wp2_with ((with_reducible refine at_append (.tmp 52) (.tmp 55) ?_; refine Hid.out ?_))
        unfold Hid
        refine wp_push rfl (.tmp 52) (.tmp 55) rfl (w.heap.size + 1) u4 (asX (ps.take k)) (by rfl) HM2.out.row (wr.heap.size + 1) 1 [px] (by rfl) rfl (by omega) (by have hz := Blk.new (wr.alloc (.cells #[.int .u8 op, .bool la, .bool ch, .int .i32 ar, .int .i32 px, .int .i32 py, .pointer (some ⟨sb k, 0, none⟩)] 65)) [.int .i32 px] 21; rw [World.size_alloc] at hz; exact hz) (by omega) (by have := HM2.out.size; omega) ?_
        intro g2 cap2 w2 hrow2 hgrow2 hat2
        have HN := hide (HM2.out.push hB Hp.out H3.out hrow2 hgrow2)
        clear HM2 hrow2 hgrow2 hat2
        go_wp2_with fail
        exact ⟨⟨k + 1, by omega, by go_num, HN.out⟩, by simp [intOf]; omega⟩
      · have e3 : (op == 3) = false := beq_eq_false_iff_ne.2 h3
        have HN := hide ((HV.out.pass Hp.out h3 (fun h => h4 h.1)).alloc hB (.cells #[.int .u8 op, .bool la, .bool ch, .int .i32 ar, .int .i32 px, .int .i32 py, .pointer (some ⟨sb k, 0, none⟩)] 65))
        clear h3 h4
        go_wp2_with fail
        exact ⟨⟨k + 1, by omega, by go_num, HN.out⟩, by simp [intOf]; omega⟩
    · obtain rfl : k = n := by omega
      have hE1 := c.hE.below hV.below
      have hy0 : wr.cell? ⟨x, 0, none⟩ = some (.slice (some ⟨g, 0, none⟩) k k) := by rw [← c.hn]; exact hE1.blk.cell rfl
      have HV2 := hide (V2.start hV hB c.hval c.hn)
      obtain ⟨_, _, hle, _⟩ := hV.cnt
      rw [List.take_of_length_le (by rw [c.hn]; omega)] at hle
      have Hle := hide hle
      clear hV hE1 hle
      obtain ⟨bs, hbs⟩ : ∃ bs, bs = wr.heap.size := ⟨_, rfl⟩
      go_wp2_with fail
      go_loopw [4] (fun sv wz => VaryLoop ps k B w wr.heap.size sv wz) (fun sv wz => 3 * cntF wz wr.heap.size + lenOf sv)
      case atStart => exact ⟨_, _, HV2.out⟩
      case round =>
        rw [← hbs] at hrel ⊢
        clear hbs
        obtain ⟨stack, seen, hV⟩ := hrel
        rcases nil_or_snoc stack with rfl | ⟨st, v, rfl⟩
        · obtain ⟨a, cp, rfl⟩ := hV.row.nilForm
          have HN := hide (And.intro hV.below (hV.pure.steady Hle.out))
          clear hV
          go_wp2_with fail
          go_ret
          exact ⟨false, rfl, HN.out.1, fun _ => HN.out.2⟩
        · obtain ⟨gs, cap, hsv0, hgs1, hgs2⟩ := hV.row.form (by simp)
          subst hsv0
          have hv := hV.pure.rng v (by simp)
          have hcell := row_cell hV.row
          have hcap := (row_cap hV.row).1
          have hl : st.length ≤ 12288 := by have := hV.pure.bst; simp at this; omega
          have hsv : (seen[v.toNat]?) = some true ∨ (seen[v.toNat]?) = some false := by
            have hlt2 : v.toNat < seen.length := by rw [hV.pure.lseen]; omega
            rw [List.getElem?_eq_getElem hlt2]; cases seen[v.toNat] <;> simp
          rcases hsv with hsv | hsv
          · have hsc : wr.cell? ⟨bs, v.toNat, none⟩ = some (.bool true) := hV.seenB.cell (by simp [hsv])
            have HN := hide (hV.popSeen hsv)
            rw [List.length_append, List.length_singleton] at hcap ⊢
            obtain ⟨hv0, hv1⟩ := hv
            clear hV hsv
            go_wp2_with fail
            exact ⟨⟨_, _, HN.out⟩, by simp only [lenOf]; omega⟩
          · have hsc : wr.cell? ⟨bs, v.toNat, none⟩ = some (.bool false) := hV.seenB.cell (by simp [hsv])
            have hsf : wr.frozen? ⟨bs, v.toNat, none⟩ = false := hV.seenB.frozen _
            have hlo := hV.lo
            have hbw := hV.seenB.lt
            have Hc := hide (cntF_blk hV.seenB)
            have hE2 := c.hE.below hV.below
            have hz0 : wr.cell? ⟨x, 0, none⟩ = some (.slice (some ⟨g, 0, none⟩) k k) := by rw [← c.hn]; exact hE2.blk.cell rfl
            obtain ⟨p, hp⟩ : ∃ p, ps[v.toNat]? = some p := ⟨_, List.getElem?_eq_getElem (by rw [c.hn]; omega)⟩
            have hin := hE2.inst _ _ hp
            have Hk := hide (ok_of_valid c.hval c.hn hp)
            have Hw := hide (c.hwf p (List.mem_of_getElem? hp))
            have Hp := hide hp
            have HV := hide hV
            have Hsv := hide hsv
            have hrp := row_pop hV.row
            have hrs := (hrp.setCell_other (a := ⟨bs, v.toNat, none⟩) (fun e => hV.apart e) (.bool true))
            have Hrs := hide hrs
            have Hv := hide hv
            rw [List.length_append, List.length_singleton] at hcap ⊢
            obtain ⟨hv0, hv1⟩ := hv
            have b1 : ¬ bs = x := by omega
            have b2 : ¬ x = bs := by omega
            have b3 : ¬ bs = g := by omega
            have b4 : ¬ g = bs := by omega
            clear hE2 hp hV hsv hrp hrs
            obtain ⟨op, la, ch, ar, px, py, s0, s1, s2, s3⟩ := p
            obtain ⟨c0, _, _, c3, c4, c5, _⟩ := icells7 hin
            clear hin
            obtain ⟨_, ⟨w3, w4⟩, _⟩ := Hw.out
            simp only at w3 w4
            by_cases h2 : op = 2
            · have e2 : (op == 2) = true := beq_iff_eq.2 h2
              obtain ⟨hX, hY⟩ := ok_split Hk.out h2
              have HX := hide (two_rng hX hY)
              have HG : Hid (Goes ⟨op, la, ch, ar, px, py, s0, s1, s2, s3⟩ (· ∈ [px, py])) := hide ⟨fun _ => ⟨by simp, by simp⟩, fun h => by simp only at h; omega, fun h => by simp only at h; omega⟩
              clear h2 hX hY
              have Hrow2 := hide ((Hrs.out.alloc (.cells #[.int .i32 px, .int .i32 py] 21)).drew)
              go_wp2_with fail
              go_region_held3 (fun w' => w'.cell? ⟨g, v.toNat * 7 + 4, none⟩ = some (.int .i32 px) ∧ w'.cell? ⟨g, v.toNat * 7 + 5, none⟩ = some (.int .i32 py))
                (first | go_keep | (go_split_ands; refine ⟨?_, ?_⟩ <;> (rw [hgrow2.cell_far _ (by simp; omega) (by intro e; simp [Value.ownBlock] at e; omega)]; assumption)))
                ((refine step_push (by rfl) _ _ (by rfl) (w.heap.size + 1) (.slice (some ⟨gs, 0, none⟩) st.length cap) st (by rfl) Hrow2.out wr.heap.size 2 [px, py] (by rfl) rfl (by omega) (Blk.drew (by have hz := Blk.new (wr.setCell ⟨bs, v.toNat, none⟩ (.bool true)) [.int .i32 px, .int .i32 py] 21; rw [World.size_setCell] at hz; exact hz)) (by omega) (by rw [World.size_drew, World.size_alloc, World.size_setCell]; omega) ?_; intro g2 cap2 w2 hrow2 hgrow2 hat2))
              have HN := hide (HV.out.push hB Hv.out Hsv.out Hp.out [px, py] HX.out (by simp) HG.out (((Below.refl _ _).alloc (by rw [World.size_setCell]; omega) _).drew) (by rw [World.size_drew, World.size_alloc, World.size_setCell]; omega) hrow2 hgrow2 hat2)
              clear hrow2 hgrow2 hat2 Hrow2
              go_wp2_with fail
              exact vary_round Hsv.out HN.out (by simp) (by simp [lenOf]) Hc.out _ _
            have e2 : (op == 2) = false := beq_eq_false_iff_ne.2 h2
            by_cases h4 : op = 4
            · have e4 : (op == 4) = true := beq_iff_eq.2 h4
              obtain ⟨hX, a0, _⟩ := ok_save Hk.out (.inl h4)
              simp only at a0
              have HX := hide (one_rng hX)
              have ea2 : bits .and .i32 ar 1 = ar % 2 := i32_and_one ar a0 (by omega)
              by_cases hodd : ar % 2 = 1
              · have eo : (ar % 2 == 1) = true := beq_iff_eq.2 hodd
                clear hodd h4 h2 hX
                go_wp2_with fail
                go_ret
                exact ⟨true, rfl, HV.out.below.setCell (by show B ≤ bs; omega) _, fun h => by cases h⟩
              · have eo : (ar % 2 == 1) = false := beq_eq_false_iff_ne.2 hodd
                have HG : Hid (Goes ⟨op, la, ch, ar, px, py, s0, s1, s2, s3⟩ (· ∈ [px])) := hide ⟨fun h => by simp only at h; omega, fun _ => ⟨hodd, by simp⟩, fun h => by simp only at h; omega⟩
                clear hodd h4 h2 hX
                go_wp2_with ((with_reducible refine at_append (.tmp 116) (.tmp 121) ?_; refine Hid.out ?_))
                unfold Hid
                have Hrow2 := hide (Hrs.out.alloc (.cells #[.int .i32 px] 21))
                refine wp_push rfl (.tmp 116) (.tmp 121) rfl (w.heap.size + 1) (.slice (some ⟨gs, 0, none⟩) st.length cap) st (by rfl) Hrow2.out wr.heap.size 1 [px] (by rfl) rfl (by omega) (by have hz := Blk.new (wr.setCell ⟨bs, v.toNat, none⟩ (.bool true)) [.int .i32 px] 21; rw [World.size_setCell] at hz; exact hz) (by omega) (by rw [World.size_alloc, World.size_setCell]; omega) ?_
                intro g2 cap2 w2 hrow2 hgrow2 hat2
                have HN := hide (HV.out.push hB Hv.out Hsv.out Hp.out [px] HX.out (by simp) HG.out ((Below.refl _ _).alloc (by rw [World.size_setCell]; omega) _) (by rw [World.size_alloc, World.size_setCell]; omega) hrow2 hgrow2 hat2)
                clear hrow2 hgrow2 hat2 Hrow2
                go_wp2_with fail
                exact vary_round Hsv.out HN.out (by simp) (by simp [lenOf]) Hc.out _ _
            have e4 : (op == 4) = false := beq_eq_false_iff_ne.2 h4
            by_cases h35 : op = 3 ∨ op = 5
            · have hX : 0 ≤ px ∧ px < (k : Int) := by
                rcases h35 with h | h
                · exact (ok_assert Hk.out h).1
                · exact (ok_save Hk.out (.inr h)).1
              have HX := hide (one_rng hX)
              have HG : Hid (Goes ⟨op, la, ch, ar, px, py, s0, s1, s2, s3⟩ (· ∈ [px])) := hide ⟨fun h => by simp only at h; omega, fun h => by simp only at h; omega, fun _ => by simp⟩
              rcases h35 with h | h
              · have e3 : (op == 3) = true := beq_iff_eq.2 h
                clear h h4 h2 hX
                go_wp2_with ((with_reducible refine at_append (.tmp 126) (.tmp 131) ?_; refine Hid.out ?_))
                unfold Hid
                have Hrow2 := hide (Hrs.out.alloc (.cells #[.int .i32 px] 21))
                refine wp_push rfl (.tmp 126) (.tmp 131) rfl (w.heap.size + 1) (.slice (some ⟨gs, 0, none⟩) st.length cap) st (by rfl) Hrow2.out wr.heap.size 1 [px] (by rfl) rfl (by omega) (by have hz := Blk.new (wr.setCell ⟨bs, v.toNat, none⟩ (.bool true)) [.int .i32 px] 21; rw [World.size_setCell] at hz; exact hz) (by omega) (by rw [World.size_alloc, World.size_setCell]; omega) ?_
                intro g2 cap2 w2 hrow2 hgrow2 hat2
                have HN := hide (HV.out.push hB Hv.out Hsv.out Hp.out [px] HX.out (by simp) HG.out ((Below.refl _ _).alloc (by rw [World.size_setCell]; omega) _) (by rw [World.size_alloc, World.size_setCell]; omega) hrow2 hgrow2 hat2)
                clear hrow2 hgrow2 hat2 Hrow2
                go_wp2_with fail
                exact vary_round Hsv.out HN.out (by simp) (by simp [lenOf]) Hc.out _ _
              · have e5 : (op == 5) = true := beq_iff_eq.2 h
                have e3 : (op == 3) = false := beq_eq_false_iff_ne.2 (by omega)
                clear h h4 h2 hX
                go_wp2_with ((with_reducible refine at_append (.tmp 126) (.tmp 131) ?_; refine Hid.out ?_))
                unfold Hid
                have Hrow2 := hide (Hrs.out.alloc (.cells #[.int .i32 px] 21))
                refine wp_push rfl (.tmp 126) (.tmp 131) rfl (w.heap.size + 1) (.slice (some ⟨gs, 0, none⟩) st.length cap) st (by rfl) Hrow2.out wr.heap.size 1 [px] (by rfl) rfl (by omega) (by have hz := Blk.new (wr.setCell ⟨bs, v.toNat, none⟩ (.bool true)) [.int .i32 px] 21; rw [World.size_setCell] at hz; exact hz) (by omega) (by rw [World.size_alloc, World.size_setCell]; omega) ?_
                intro g2 cap2 w2 hrow2 hgrow2 hat2
                have HN := hide (HV.out.push hB Hv.out Hsv.out Hp.out [px] HX.out (by simp) HG.out ((Below.refl _ _).alloc (by rw [World.size_setCell]; omega) _) (by rw [World.size_alloc, World.size_setCell]; omega) hrow2 hgrow2 hat2)
                clear hrow2 hgrow2 hat2 Hrow2
                go_wp2_with fail
                exact vary_round Hsv.out HN.out (by simp) (by simp [lenOf]) Hc.out _ _
            · have e3 : (op == 3) = false := beq_eq_false_iff_ne.2 (by omega)
              have e5 : (op == 5) = false := beq_eq_false_iff_ne.2 (by omega)
              have HN := hide (HV.out.mark hB Hv.out Hsv.out Hp.out (goes_none h2 h4 (by show ¬ op = 5; omega) (by show ¬ op = 3; omega)))
              clear h2 h4 h35
              go_wp2_with fail
              exact vary_round (news := []) Hsv.out (by rw [List.append_nil]; exact HN.out) (by simp) (by simp [lenOf]) Hc.out _ _

end Go.Proofs.Qxb6001162a
