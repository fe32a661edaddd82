import Derived.Test.Qxb6001484aP1
namespace Go.Proofs.Qxb6001484a
open Go.RowKit

/-- The slice value 'v' owns the cells 'xs' (of one cell each, of type 'e') in a block of the call's own. -/
def Row (w : World) (base e : Nat) (v : Value) (xs : List Value) : Prop := w.ownsRow base e 1 v xs.length xs

theorem row_lt {w : World} {base e : Nat} {v : Value} {xs : List Value} (h : Row w base e v xs) {k : Nat} (hk : v.ownBlock = some k) : base ≤ k ∧ k < w.heap.size := World.ownsRow.lt h k hk
theorem Row.alloc {w : World} {base e : Nat} {v : Value} {xs : List Value} (h : Row w base e v xs) (o : Obj) : Row (w.alloc o) base e v xs := World.ownsRow.alloc h o
theorem Row.cell {w : World} {base e g cap l : Nat} {xs : List Value} (h : Row w base e (.slice (some ⟨g, 0, none⟩) l cap) xs) {k : Nat} {u : Value} (hk : xs[k]? = some u) : w.cell? ⟨g, k, none⟩ = some u := by
  have hl : l = xs.length := by
    obtain ⟨h1, h2 | ⟨g', cap', cur, hv, r⟩⟩ := h
    · cases h2.1
    · cases hv; rfl
  subst hl
  have hkl := (List.getElem?_eq_some_iff.1 hk).1
  rw [World.ownsRow.cellAt h k (by omega), hk]
theorem row_cap {w : World} {base e g cap l : Nat} {xs : List Value} (h : Row w base e (.slice (some ⟨g, 0, none⟩) l cap) xs) : l ≤ cap ∧ l = xs.length := by
  obtain ⟨h1, h2 | ⟨g', cap', cur, hv, hg, hh2, hn, r⟩⟩ := h
  · cases h2.1
  · cases hv; exact ⟨hn, rfl⟩
theorem row_made (w : World) (base e n : Nat) (z : Value) (hb : base ≤ w.heap.size) (hn : n ≤ 10000000) : Row (w.alloc (.cells (zeros z n) e)) base e (.slice (some ⟨w.heap.size, 0, none⟩) 0 n) [] :=
  World.ownsRow_made w _ n hb (by unfold maxLen; omega) (by rw [zeros_size, Nat.mul_one])

theorem at_append {P : Program} {ops : Array Oper} {rest : List Oper} {a : Act} {w : World} {Q : Exit → Act → World → Prop} {d : Option Tmp} {ty' : TypeId} {pos : String} {af : Array Edge} {ts : Array TypeId} (x y : Operand)
    (h : wpList P ops Q (⟨d, .call { callee := .builtin .append, args := #[x, y], argTypes := ts }, ty', pos, af, none⟩ :: rest) a w) : wpList P ops Q (⟨d, .call { callee := .builtin .append, args := #[x, y], argTypes := ts }, ty', pos, af, none⟩ :: rest) a w := h

/-- 'append' of one element onto a row of the call's own. -/
theorem wp_push {ops : Array Oper} {rest : List Oper} {o : Oper} {a : Act} {w : World} {Q : Exit → Act → World → Prop} (t e : TypeId) (z : Value) (by_ : Nat) (hu : Try.prog.underlying t = some (.slice e)) (hi : (Try.prog.info? e).map (fun i => (i.zero, i.size, i.bytes)) = some (some z, 1, by_)) (hz1 : z.cells.size = 1) (hby : by_ ≤ 16)
    (hgd : o.guard = none) (s x : Operand) (ho : o.op = .call { callee := .builtin .append, args := #[s, x], argTypes := #[t, t] })
    (base : Nat) (v : Value) (xs : List Value) (hs : a.eval s = v) (hrow : Row w base e v xs) (hb : Nat) (u : Value) (hx : a.eval x = .slice (some ⟨hb, 0, none⟩) 1 1) (hu1 : u.oneCell' = true)
    (hnews : w.cell? ⟨hb, 0, none⟩ = some u) (L : Nat) (hL : xs.length + 1 = L) (hlen : L ≤ 10000000) (hbase : base ≤ w.heap.size)
    (h : ∀ g cap w', Row w' base e (.slice (some ⟨g, 0, none⟩) L cap) (xs ++ [u]) → w.grownBy w' v.ownBlock → (v.ownBlock = some g ∨ g = w.heap.size) → wpList Try.prog ops Q rest (a.put o.dst (.slice (some ⟨g, 0, none⟩) L cap)) w') :
    wpList Try.prog ops Q (o :: rest) a w := by
  subst hL
  obtain ⟨i0, hi, hz0, hz1', hz2⟩ := info_parts hi
  have hbb : (xs.length + 1) * by_ ≤ 140737488355328 := by
    have : (xs.length + 1) * by_ ≤ 10000000 * 16 := Nat.mul_le_mul hlen hby
    omega
  refine wpList_append_lies _ hgd s x t ho base e i0 z 1 by_ hu hi hz0 hz1' hz2 hz1 (by omega) v xs.length xs hs hrow ⟨hb, 0, none⟩ 1 1 [u] hx (by simp) ?_ ?_ (by omega) (by unfold maxLen; omega) hbb hbase _ rfl ?_
  · intro j y hj
    have hj1 := (List.getElem?_eq_some_iff.1 hj).1
    simp at hj1
    subst hj1
    simp at hj
    subst hj
    rw [Addr.add_mid]; exact hnews
  · intro y hy; simp at hy; subst hy; exact hu1
  · intro g cap w' h1 h2 h3 _
    refine h g cap w' ?_ h2 h3
    unfold Row; rw [List.length_append]; exact h1

/-- The memory of the law while the stream is laid. -/
structure SMem (w2 : World) (bv wv : Value) (bs ws : List Int) (wr : World) : Prop where
  below : Below w2.heap.size w2 wr
  brow : Row wr w2.heap.size 5 bv (bs.map (Value.int .u8))
  wrow : Row wr w2.heap.size 3 wv (ws.map (Value.int .i64))
  bsome : ∃ k, bv.ownBlock = some k
  wsome : ∃ k, wv.ownBlock = some k
  apart : bv.ownBlock ≠ wv.ownBlock

theorem SMem.alloc {w2 : World} {bv wv : Value} {bs ws : List Int} {wr : World} (h : SMem w2 bv wv bs ws wr) (o : Obj) : SMem w2 bv wv bs ws (wr.alloc o) :=
  ⟨h.below.alloc h.below.size _, h.brow.alloc _, h.wrow.alloc _, h.bsome, h.wsome, h.apart⟩

theorem SMem.pushB {w2 : World} {bv wv : Value} {bs ws : List Int} {wr : World} (h : SMem w2 bv wv bs ws wr) {w1 : World} {g cap l : Nat} {u : Int} (hrow : Row w1 w2.heap.size 5 (.slice (some ⟨g, 0, none⟩) l cap) (bs.map (Value.int .u8) ++ [.int .u8 u])) (hgrow : wr.grownBy w1 bv.ownBlock) (hat : bv.ownBlock = some g ∨ g = wr.heap.size) :
    SMem w2 (.slice (some ⟨g, 0, none⟩) l cap) wv (bs ++ [u]) ws w1 where
  below := h.below.grown hgrow h.below.size (fun k hk => (row_lt h.brow hk).1)
  brow := by rw [List.map_append]; exact hrow
  wrow := World.ownsRow.kept h.wrow hgrow (.inr (Ne.symm h.apart))
  bsome := ⟨g, rfl⟩
  wsome := h.wsome
  apart := by
    rcases hat with e | e
    · show some g ≠ _
      rw [← e]; exact h.apart
    · obtain ⟨k, hk⟩ := h.wsome
      have := (row_lt h.wrow hk).2
      rw [hk]
      intro e2
      have e3 : g = k := by cases e2; rfl
      omega

theorem SMem.pushW {w2 : World} {bv wv : Value} {bs ws : List Int} {wr : World} (h : SMem w2 bv wv bs ws wr) {w1 : World} {g cap l : Nat} {u : Int} (hrow : Row w1 w2.heap.size 3 (.slice (some ⟨g, 0, none⟩) l cap) (ws.map (Value.int .i64) ++ [.int .i64 u])) (hgrow : wr.grownBy w1 wv.ownBlock) (hat : wv.ownBlock = some g ∨ g = wr.heap.size) :
    SMem w2 bv (.slice (some ⟨g, 0, none⟩) l cap) bs (ws ++ [u]) w1 where
  below := h.below.grown hgrow h.below.size (fun k hk => (row_lt h.wrow hk).1)
  brow := World.ownsRow.kept h.brow hgrow (.inr h.apart)
  wrow := by rw [List.map_append]; exact hrow
  bsome := h.bsome
  wsome := ⟨g, rfl⟩
  apart := by
    rcases hat with e | e
    · show _ ≠ some g
      rw [← e]; exact h.apart
    · obtain ⟨k, hk⟩ := h.bsome
      have := (row_lt h.brow hk).2
      rw [hk]
      intro e2
      have e3 : k = g := by cases e2; rfl
      omega

theorem SMem.start (w2 : World) (n m : Nat) (hn : n ≤ 10000000) (hm : m ≤ 10000000) :
    SMem w2 (.slice (some ⟨w2.heap.size, 0, none⟩) 0 n) (.slice (some ⟨w2.heap.size + 1, 0, none⟩) 0 m) [] [] ((w2.alloc (.cells (zeros (.int .u8 0) n) 5)).alloc (.cells (zeros (.int .i64 0) m) 3)) where
  below := ((Below.refl _ _).alloc (Nat.le_refl _) _).alloc (by rw [World.size_alloc]; omega) _
  brow := (row_made w2 _ 5 n _ (Nat.le_refl _) hn).alloc _
  wrow := by
    have := row_made (w2.alloc (.cells (zeros (.int .u8 0) n) 5)) w2.heap.size 3 m (.int .i64 0) (by rw [World.size_alloc]; omega) hm
    rw [World.size_alloc] at this
    exact this
  bsome := ⟨_, rfl⟩
  wsome := ⟨_, rfl⟩
  apart := by
    intro e
    have e2 : some w2.heap.size = some (w2.heap.size + 1) := e
    simp at e2

theorem SMem.formB {w2 : World} {bv wv : Value} {bs ws : List Int} {wr : World} (h : SMem w2 bv wv bs ws wr) : ∃ g cap, bv = .slice (some ⟨g, 0, none⟩) bs.length cap ∧ g < wr.heap.size := by
  obtain ⟨h1, h2 | ⟨g, cap, cur, hv, r⟩⟩ := h.brow
  · obtain ⟨k, hk⟩ := h.bsome; rw [h2.1] at hk; cases hk
  · subst hv
    exact ⟨g, cap, by simp, (row_lt h.brow rfl).2⟩
theorem SMem.formW {w2 : World} {bv wv : Value} {bs ws : List Int} {wr : World} (h : SMem w2 bv wv bs ws wr) : ∃ g cap, wv = .slice (some ⟨g, 0, none⟩) ws.length cap ∧ g < wr.heap.size := by
  obtain ⟨h1, h2 | ⟨g, cap, cur, hv, r⟩⟩ := h.wrow
  · obtain ⟨k, hk⟩ := h.wsome; rw [h2.1] at hk; cases hk
  · subst hv
    exact ⟨g, cap, by simp, (row_lt h.wrow rfl).2⟩

set_option maxHeartbeats 3200000 in
set_option maxRecDepth 100000 in
theorem law3_main (a0 : Option Addr) (n cap : Nat) (vs : List Int) (w : World) (h : IsSl (Value.int .u32) w a0 n vs) (hnc : n ≤ cap) (hm : n ≤ 65536) (hr : Hid (∀ v ∈ vs, 0 ≤ v ∧ v ≤ 4294967295)) :
    Calls Try.prog 3 #[.slice a0 n cap] w fun e w' => e = .returned (.bool true) ∧ Below w.heap.size w w' := by
  have HC := hide (cloneWords_any a0 n cap vs w h hnc (by omega))
  have Hl := hide h.1
  have hmk1 := fun (w : World) => make_row 25 5 (.int .u8 0) 1 Try.underlying25 info5 (by omega) w 0 (4 * (n : Int)) 0 (4 * n) rfl (by omega) (by omega) (by omega)
  have hmk2 := fun (w : World) => make_row 26 3 (.int .i64 0) 8 Try.underlying26 info3 (by omega) w 0 (n : Int) 0 n rfl rfl (by omega) (by omega)
  clear h
  go_enter Try.func3, Try.ntmps3
  go_wp2_with (go_at_call 8; refine (bytes8 _ _ _ _ (by omega)).mono ?_; rintro e w' ⟨rfl, rfl⟩)
  refine HC.out.mono ?_
  rintro e w2 ⟨a, c, rfl, hb1, hc1, hB⟩
  have Hb1 := hide hb1
  have HB := hide hB
  clear hb1 hB HC
  go_wp2_with fail
  go_loopw [3, 4, 5] (fun bv wv i wr => ∃ k : Nat, k ≤ n ∧ i = .int .i64 k ∧ SMem w2 bv wv (encAll (vs.take k)) (wants (vs.take k)) wr) (fun _ _ i _ => n - (intOf i).toNat)
  case atStart => exact ⟨0, by omega, rfl, SMem.start w2 _ _ (by omega) (by omega)⟩
  case round =>
    obtain ⟨k, hk, rfl, hS⟩ := hrel
    by_cases hlt : k < n
    · obtain ⟨rfl, hB2⟩ := HB.out (by omega)
      obtain ⟨v, hv⟩ : ∃ v, vs[k]? = some v := ⟨_, List.getElem?_eq_getElem (by rw [Hl.out]; exact hlt)⟩
      have hcv : wr.cell? ⟨w.heap.size, k, none⟩ = some (.int .u32 v) := by
        rw [hS.below.cell (p := ⟨w.heap.size, k, none⟩) hB2.lt]
        exact hB2.cell (by rw [List.getElem?_map, hv]; rfl)
      obtain ⟨hv0, hv1⟩ := hr.out v (List.mem_of_getElem? hv)
      have He := hide (encAll_take_succ hv)
      have Hw := hide (wants_take_succ hv)
      have hle : (encAll (vs.take k)).length ≤ 262144 := by
        have := (encAll_length (vs.take k)).2
        rw [List.length_take] at this; omega
      obtain ⟨lb, hlb⟩ : ∃ lb, lb = (encAll (vs.take k)).length := ⟨_, rfl⟩
      rw [← hlb] at hle
      have Hlb := hide hlb
      clear hlb
      have HS := hide hS
      have hkv : k ≤ vs.length := by rw [Hl.out]; exact hk
      clear hS hB2 hv
      by_cases h0 : v % 3 = 0
      · have e0 : (v % 3 == 0) = true := beq_iff_eq.2 h0
        have en : enc v = [v / 4 % 128] := by unfold enc; rw [if_pos h0]
        rw [en] at He Hw
        clear h0 en
        go_wp2_with ((with_reducible refine at_append (.tmp 84) (.tmp 89) ?_; refine Hid.out ?_))
        unfold Hid
        have M1a := hide (HS.out.alloc (.cells #[.int .u8 (v / 4 % 128)] 5))
        refine wp_push 25 5 (.int .u8 0) 1 Try.underlying25 info5 rfl (by omega) rfl (.tmp 84) (.tmp 89) rfl w2.heap.size u3 _ (by rfl) M1a.out.brow wr.heap.size (.int .u8 (v / 4 % 128)) (by rfl) rfl ((Blk.new wr [.int .u8 (v / 4 % 128)] 5).cell rfl) (lb + 1) (by have := Hlb.out; rw [List.length_map]; simp; omega) (by omega) (by have := M1a.out.below.size; omega) ?_
        intro gM1 cM1 wM1 hrow hgrow hat
        have M1 := hide (M1a.out.pushB hrow hgrow hat)
        clear HS M1a hrow hgrow hat
        go_wp2_with ((with_reducible refine at_append (.tmp 91) (.tmp 92) ?_; refine Hid.out ?_))
        unfold Hid
        have M2a := hide (M1.out.alloc (.cells #[.int .i64 (1)] 3))
        refine wp_push 26 3 (.int .i64 0) 8 Try.underlying26 info3 rfl (by omega) rfl (.tmp 91) (.tmp 92) rfl w2.heap.size u4 _ (by rfl) M2a.out.wrow wM1.heap.size (.int .i64 (1)) (by rfl) rfl ((Blk.new wM1 [.int .i64 (1)] 3).cell rfl) (k + 1) (by rw [List.length_map, wants_length, List.length_take]; omega) (by omega) (by have := M2a.out.below.size; omega) ?_
        intro gM2 cM2 wM2 hrow hgrow hat
        have M2 := hide (M2a.out.pushW hrow hgrow hat)
        clear M1 M2a hrow hgrow hat
        go_wp2_with fail
        exact ⟨⟨k + 1, by omega, by go_num, by rw [He.out, Hw.out]; exact M2.out⟩, by simp [intOf]; omega⟩
      have e0 : (v % 3 == 0) = false := beq_eq_false_iff_ne.2 h0
      by_cases h1 : v % 3 = 1
      · have e1 : (v % 3 == 1) = true := beq_iff_eq.2 h1
        have en : enc v = [129 + v / 4 % 126, trail v] := by unfold enc; rw [if_neg h0, if_pos h1]
        rw [en] at He Hw
        clear h0 h1 en
        by_cases ht : 127 ≤ 64 + v / 512 % 190
        · have et : trail v = 64 + v / 512 % 190 + 1 := by unfold trail; rw [if_pos ht]
          rw [et] at He
          clear et
          go_wp2_with ((with_reducible refine at_append (.tmp 110) (.tmp 112) ?_; refine Hid.out ?_))
          unfold Hid
          have M1a := hide (HS.out.alloc (.cells #[.int .u8 (129 + v / 4 % 126)] 5))
          refine wp_push 25 5 (.int .u8 0) 1 Try.underlying25 info5 rfl (by omega) rfl (.tmp 110) (.tmp 112) rfl w2.heap.size u3 _ (by rfl) M1a.out.brow wr.heap.size (.int .u8 (129 + v / 4 % 126)) (by rfl) rfl ((Blk.new wr [.int .u8 (129 + v / 4 % 126)] 5).cell rfl) (lb + 1) (by have := Hlb.out; rw [List.length_map]; simp; omega) (by omega) (by have := M1a.out.below.size; omega) ?_
          intro gM1 cM1 wM1 hrow hgrow hat
          have M1 := hide (M1a.out.pushB hrow hgrow hat)
          clear HS M1a hrow hgrow hat
          go_wp2_with ((with_reducible refine at_append (.tmp 114) (.tmp 116) ?_; refine Hid.out ?_))
          unfold Hid
          have M2a := hide (M1.out.alloc (.cells #[.int .u8 (64 + v / 512 % 190 + 1)] 5))
          refine wp_push 25 5 (.int .u8 0) 1 Try.underlying25 info5 rfl (by omega) rfl (.tmp 114) (.tmp 116) rfl w2.heap.size (.slice (some ⟨gM1, 0, none⟩) (lb + 1) cM1) _ (by rfl) M2a.out.brow wM1.heap.size (.int .u8 (64 + v / 512 % 190 + 1)) (by rfl) rfl ((Blk.new wM1 [.int .u8 (64 + v / 512 % 190 + 1)] 5).cell rfl) (lb + 2) (by have := Hlb.out; rw [List.length_map]; simp; omega) (by omega) (by have := M2a.out.below.size; omega) ?_
          intro gM2 cM2 wM2 hrow hgrow hat
          have M2 := hide (M2a.out.pushB hrow hgrow hat)
          clear M1 M2a hrow hgrow hat
          go_wp2_with ((with_reducible refine at_append (.tmp 118) (.tmp 119) ?_; refine Hid.out ?_))
          unfold Hid
          have M3a := hide (M2.out.alloc (.cells #[.int .i64 (2)] 3))
          refine wp_push 26 3 (.int .i64 0) 8 Try.underlying26 info3 rfl (by omega) rfl (.tmp 118) (.tmp 119) rfl w2.heap.size u4 _ (by rfl) M3a.out.wrow wM2.heap.size (.int .i64 (2)) (by rfl) rfl ((Blk.new wM2 [.int .i64 (2)] 3).cell rfl) (k + 1) (by rw [List.length_map, wants_length, List.length_take]; omega) (by omega) (by have := M3a.out.below.size; omega) ?_
          intro gM3 cM3 wM3 hrow hgrow hat
          have M3 := hide (M3a.out.pushW hrow hgrow hat)
          clear M2 M3a hrow hgrow hat
          go_wp2_with fail
          exact ⟨⟨k + 1, by omega, by go_num, by rw [He.out, Hw.out]; have hq := M3.out; rw [List.append_assoc] at hq; exact hq⟩, by simp [intOf]; omega⟩
        · have et : trail v = 64 + v / 512 % 190 := by unfold trail; rw [if_neg ht]
          rw [et] at He
          clear et
          go_wp2_with ((with_reducible refine at_append (.tmp 110) (.tmp 112) ?_; refine Hid.out ?_))
          unfold Hid
          have M1a := hide (HS.out.alloc (.cells #[.int .u8 (129 + v / 4 % 126)] 5))
          refine wp_push 25 5 (.int .u8 0) 1 Try.underlying25 info5 rfl (by omega) rfl (.tmp 110) (.tmp 112) rfl w2.heap.size u3 _ (by rfl) M1a.out.brow wr.heap.size (.int .u8 (129 + v / 4 % 126)) (by rfl) rfl ((Blk.new wr [.int .u8 (129 + v / 4 % 126)] 5).cell rfl) (lb + 1) (by have := Hlb.out; rw [List.length_map]; simp; omega) (by omega) (by have := M1a.out.below.size; omega) ?_
          intro gM1 cM1 wM1 hrow hgrow hat
          have M1 := hide (M1a.out.pushB hrow hgrow hat)
          clear HS M1a hrow hgrow hat
          go_wp2_with ((with_reducible refine at_append (.tmp 114) (.tmp 116) ?_; refine Hid.out ?_))
          unfold Hid
          have M2a := hide (M1.out.alloc (.cells #[.int .u8 (64 + v / 512 % 190)] 5))
          refine wp_push 25 5 (.int .u8 0) 1 Try.underlying25 info5 rfl (by omega) rfl (.tmp 114) (.tmp 116) rfl w2.heap.size (.slice (some ⟨gM1, 0, none⟩) (lb + 1) cM1) _ (by rfl) M2a.out.brow wM1.heap.size (.int .u8 (64 + v / 512 % 190)) (by rfl) rfl ((Blk.new wM1 [.int .u8 (64 + v / 512 % 190)] 5).cell rfl) (lb + 2) (by have := Hlb.out; rw [List.length_map]; simp; omega) (by omega) (by have := M2a.out.below.size; omega) ?_
          intro gM2 cM2 wM2 hrow hgrow hat
          have M2 := hide (M2a.out.pushB hrow hgrow hat)
          clear M1 M2a hrow hgrow hat
          go_wp2_with ((with_reducible refine at_append (.tmp 118) (.tmp 119) ?_; refine Hid.out ?_))
          unfold Hid
          have M3a := hide (M2.out.alloc (.cells #[.int .i64 (2)] 3))
          refine wp_push 26 3 (.int .i64 0) 8 Try.underlying26 info3 rfl (by omega) rfl (.tmp 118) (.tmp 119) rfl w2.heap.size u4 _ (by rfl) M3a.out.wrow wM2.heap.size (.int .i64 (2)) (by rfl) rfl ((Blk.new wM2 [.int .i64 (2)] 3).cell rfl) (k + 1) (by rw [List.length_map, wants_length, List.length_take]; omega) (by omega) (by have := M3a.out.below.size; omega) ?_
          intro gM3 cM3 wM3 hrow hgrow hat
          have M3 := hide (M3a.out.pushW hrow hgrow hat)
          clear M2 M3a hrow hgrow hat
          go_wp2_with fail
          exact ⟨⟨k + 1, by omega, by go_num, by rw [He.out, Hw.out]; have hq := M3.out; rw [List.append_assoc] at hq; exact hq⟩, by simp [intOf]; omega⟩
      have e1 : (v % 3 == 1) = false := beq_eq_false_iff_ne.2 h1
      have en : enc v = [129 + v / 4 % 126, 48 + v / 512 % 10, 129 + v / 8192 % 126, 48 + v / 1048576 % 10] := by unfold enc; rw [if_neg h0, if_neg h1]
      rw [en] at He Hw
      clear h0 h1 en
      go_wp2_with ((with_reducible refine at_append (.tmp 63) (.tmp 65) ?_; refine Hid.out ?_))
      unfold Hid
      have M1a := hide (HS.out.alloc (.cells #[.int .u8 (129 + v / 4 % 126)] 5))
      refine wp_push 25 5 (.int .u8 0) 1 Try.underlying25 info5 rfl (by omega) rfl (.tmp 63) (.tmp 65) rfl w2.heap.size u3 _ (by rfl) M1a.out.brow wr.heap.size (.int .u8 (129 + v / 4 % 126)) (by rfl) rfl ((Blk.new wr [.int .u8 (129 + v / 4 % 126)] 5).cell rfl) (lb + 1) (by have := Hlb.out; rw [List.length_map]; simp; omega) (by omega) (by have := M1a.out.below.size; omega) ?_
      intro gM1 cM1 wM1 hrow hgrow hat
      have M1 := hide (M1a.out.pushB hrow hgrow hat)
      clear HS M1a hrow hgrow hat
      go_wp2_with ((with_reducible refine at_append (.tmp 67) (.tmp 69) ?_; refine Hid.out ?_))
      unfold Hid
      have M2a := hide (M1.out.alloc (.cells #[.int .u8 (48 + v / 512 % 10)] 5))
      refine wp_push 25 5 (.int .u8 0) 1 Try.underlying25 info5 rfl (by omega) rfl (.tmp 67) (.tmp 69) rfl w2.heap.size (.slice (some ⟨gM1, 0, none⟩) (lb + 1) cM1) _ (by rfl) M2a.out.brow wM1.heap.size (.int .u8 (48 + v / 512 % 10)) (by rfl) rfl ((Blk.new wM1 [.int .u8 (48 + v / 512 % 10)] 5).cell rfl) (lb + 2) (by have := Hlb.out; rw [List.length_map]; simp; omega) (by omega) (by have := M2a.out.below.size; omega) ?_
      intro gM2 cM2 wM2 hrow hgrow hat
      have M2 := hide (M2a.out.pushB hrow hgrow hat)
      clear M1 M2a hrow hgrow hat
      go_wp2_with ((with_reducible refine at_append (.tmp 71) (.tmp 73) ?_; refine Hid.out ?_))
      unfold Hid
      have M3a := hide (M2.out.alloc (.cells #[.int .u8 (129 + v / 8192 % 126)] 5))
      refine wp_push 25 5 (.int .u8 0) 1 Try.underlying25 info5 rfl (by omega) rfl (.tmp 71) (.tmp 73) rfl w2.heap.size (.slice (some ⟨gM2, 0, none⟩) (lb + 2) cM2) _ (by rfl) M3a.out.brow wM2.heap.size (.int .u8 (129 + v / 8192 % 126)) (by rfl) rfl ((Blk.new wM2 [.int .u8 (129 + v / 8192 % 126)] 5).cell rfl) (lb + 3) (by have := Hlb.out; rw [List.length_map]; simp; omega) (by omega) (by have := M3a.out.below.size; omega) ?_
      intro gM3 cM3 wM3 hrow hgrow hat
      have M3 := hide (M3a.out.pushB hrow hgrow hat)
      clear M2 M3a hrow hgrow hat
      go_wp2_with ((with_reducible refine at_append (.tmp 75) (.tmp 77) ?_; refine Hid.out ?_))
      unfold Hid
      have M4a := hide (M3.out.alloc (.cells #[.int .u8 (48 + v / 1048576 % 10)] 5))
      refine wp_push 25 5 (.int .u8 0) 1 Try.underlying25 info5 rfl (by omega) rfl (.tmp 75) (.tmp 77) rfl w2.heap.size (.slice (some ⟨gM3, 0, none⟩) (lb + 3) cM3) _ (by rfl) M4a.out.brow wM3.heap.size (.int .u8 (48 + v / 1048576 % 10)) (by rfl) rfl ((Blk.new wM3 [.int .u8 (48 + v / 1048576 % 10)] 5).cell rfl) (lb + 4) (by have := Hlb.out; rw [List.length_map]; simp; omega) (by omega) (by have := M4a.out.below.size; omega) ?_
      intro gM4 cM4 wM4 hrow hgrow hat
      have M4 := hide (M4a.out.pushB hrow hgrow hat)
      clear M3 M4a hrow hgrow hat
      go_wp2_with ((with_reducible refine at_append (.tmp 79) (.tmp 80) ?_; refine Hid.out ?_))
      unfold Hid
      have M5a := hide (M4.out.alloc (.cells #[.int .i64 (4)] 3))
      refine wp_push 26 3 (.int .i64 0) 8 Try.underlying26 info3 rfl (by omega) rfl (.tmp 79) (.tmp 80) rfl w2.heap.size u4 _ (by rfl) M5a.out.wrow wM4.heap.size (.int .i64 (4)) (by rfl) rfl ((Blk.new wM4 [.int .i64 (4)] 3).cell rfl) (k + 1) (by rw [List.length_map, wants_length, List.length_take]; omega) (by omega) (by have := M5a.out.below.size; omega) ?_
      intro gM5 cM5 wM5 hrow hgrow hat
      have M5 := hide (M5a.out.pushW hrow hgrow hat)
      clear M4 M5a hrow hgrow hat
      go_wp2_with fail
      exact ⟨⟨k + 1, by omega, by go_num, by rw [He.out, Hw.out]; have hq := M5.out; rw [List.append_assoc, List.append_assoc, List.append_assoc] at hq; exact hq⟩, by simp [intOf]; omega⟩
    · rw [List.take_of_length_le (by rw [Hl.out]; omega)] at hS
      obtain ⟨gb, cb, hb3, hgb⟩ := hS.formB
      obtain ⟨gw, cw, hw3, hgw⟩ := hS.formW
      subst hb3
      subst hw3
      have hcb := (row_cap hS.brow).1
      obtain ⟨L, hL⟩ : ∃ L, L = (encAll vs).length := ⟨_, rfl⟩
      have hLn : L ≤ 262144 := by have := (encAll_length vs).2; have := Hl.out; omega
      rw [← hL] at hcb
      rw [wants_length, Hl.out, ← hL]
      have HL := hide hL
      have HS := hide hS
      clear hL hS
      go_wp2_with fail
      go_loop [13, 14] (fun i kk => ∃ j p : Nat, j ≤ n ∧ Hid (p = (encAll (vs.take j)).length) ∧ kk = .int .i64 j ∧ i = .int .i64 p) (fun i _ => L - (intOf i).toNat)
      case atStart => exact ⟨0, 0, by omega, rfl, rfl, rfl⟩
      case round =>
        obtain ⟨j, p, hj, Hp, rfl, rfl⟩ := hrel
        by_cases hpl : p < L
        · have hjn : j < n := by
            by_cases h : j < n
            · exact h
            · have h1 := Hp.out
              rw [List.take_of_length_le (by rw [Hl.out]; omega), ← HL.out] at h1
              omega
          obtain ⟨v, hv⟩ : ∃ v, vs[j]? = some v := ⟨_, List.getElem?_eq_getElem (by rw [Hl.out]; exact hjn)⟩
          have hdr := encAll_drop hv
          rw [← Hp.out] at hdr
          have hts := encAll_take_succ hv
          obtain ⟨q, hq⟩ : ∃ q, q = (enc v).length := ⟨_, rfl⟩
          have hq0 := enc_pos v
          have hq4 := enc_le v
          have hlen : p + q ≤ L := by
            have h1 := congrArg List.length hdr
            rw [List.length_drop, ← HL.out, List.length_append, ← hq] at h1
            omega
          have hcw : wr.cell? ⟨gw, j, none⟩ = some (.int .i64 (q : Int)) := by
            refine HS.out.wrow.cell ?_
            unfold wants
            rw [List.map_map, List.getElem?_map, hv, hq]; rfl
          have hby : Bytes wr gb p ((encAll vs).drop p) := by
            intro i x hx
            rw [List.getElem?_drop] at hx
            exact HS.out.brow.cell (by rw [List.getElem?_map, hx]; rfl)
          have HZ := hide (zcode_any gb p (L - p) (cb - p) ((encAll vs).drop p) wr (by rw [List.length_drop, ← HL.out]) (by omega) (by omega) hby (fun x hx => encAll_range vs x (List.mem_of_mem_drop hx)))
          rw [hdr, codeLen_enc v, ← hq] at HZ
          have HN : Hid (p + q = (encAll (vs.take (j + 1))).length) := by
            unfold Hid
            rw [hts, List.length_append, ← Hp.out, ← hq]
          rw [← hq] at hq0 hq4
          have hcp : p < cb := by omega
          have hcp2 : ¬ cb = p := by omega
          have eq1 : ((q : Int) != (q : Int)) = false := by simp
          clear hv hdr hts hq hby
          go_wp2_with fail
          refine HZ.out.mono ?_
          rintro e w' ⟨rfl, rfl⟩
          go_wp2_with fail
          exact ⟨⟨j + 1, p + q, by omega, HN, by go_num, by go_num⟩, by simp [intOf]; omega⟩
        · have hjn : j = n := by
            have h1 := Hp.out
            have h2 := (encAll_split vs j)
            have h3 := congrArg List.length h2
            rw [List.length_append, ← HL.out, ← h1] at h3
            have h4 := (encAll_length (vs.drop j)).1
            rw [List.length_drop, Hl.out] at h4
            omega
          subst hjn
          go_wp2_with fail
          go_ret
          exact ⟨rfl, Hb1.out.trans (HS.out.below.mono Hb1.out.size)⟩

end Go.Proofs.Qxb6001484a
