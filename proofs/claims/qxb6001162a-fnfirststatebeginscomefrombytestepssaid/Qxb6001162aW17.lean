import Derived.Test.Qxb6001162aW16
import Derived.BigRegion
import Derived.ChangeKeysEq
import Derived.Deep.QuietTactic
import Derived.BigQuiet
namespace Go.Proofs.Qxb6001162a
open Go.RowKit

structure UMem (w4 : World) (l : List Nat) (wr : World) : Prop where
  below : Below w4.heap.size w4 wr
  size : wr.heap.size = w4.heap.size + 1
  blk : Blk wr w4.heap.size (wordCells l) 32

theorem UMem.start (w4 : World) : UMem w4 (uniAll []) (w4.alloc (.cells #[.int .u64 0, .int .u64 0, .int .u64 0, .int .u64 0] 32)) :=
  ⟨(Below.refl _ _).alloc (Nat.le_refl _) _, by rw [World.size_alloc], Blk.new w4 (wordCells [0, 0, 0, 0]) 32⟩

theorem UMem.drew {w4 : World} {l : List Nat} {wr : World} (h : UMem w4 l wr) : UMem w4 l wr.drew := ⟨h.below.drew, h.size, h.blk.drew⟩

theorem UMem.drewN {w4 : World} {l : List Nat} {wr : World} (h : UMem w4 l wr) (k : Nat) : UMem w4 l (wr.drewN k) :=
  ⟨⟨h.below.os, h.below.tape, h.below.output, h.below.size, h.below.block⟩, h.size, h.blk.of rfl⟩

theorem UMem.put {w4 : World} {l : List Nat} {wr : World} (h : UMem w4 l wr) (i x : Nat) : UMem w4 (l.set i x) (wr.setCell ⟨w4.heap.size, i, none⟩ (.int .u64 (x : Int))) :=
  ⟨h.below.setCell (Nat.le_refl _) _, by rw [World.size_setCell]; exact h.size, by
    have := h.blk.setCell i (.int .u64 (x : Int))
    unfold wordCells at *
    rw [List.map_set]; exact this⟩

theorem UMem.insts {w4 : World} {l : List Nat} {wr : World} (h : UMem w4 l wr) {b : Nat} {ps : List Inst} (hi : Insts w4 b 0 ps) (hb : b < w4.heap.size) : Insts wr b 0 ps :=
  fun i p hp => rangeAt_of_heap (hi i p hp) (h.below.block b hb)

theorem uni_byte {ps : List Inst} {k : Nat} {p : Inst} (hp : ps[k]? = some p) (h1 : p.op = 1) : mixW (uniAll (ps.take k)) p.sets 4 = uniAll (ps.take (k + 1)) := by
  rw [take_snoc hp, uniAll_snoc, mixW_four (uniAll_length _) rfl]
  simp [uniStep, h1]
theorem uni_other {ps : List Inst} {k : Nat} {p : Inst} (hp : ps[k]? = some p) (h1 : ¬ p.op = 1) : uniAll (ps.take k) = uniAll (ps.take (k + 1)) := by
  rw [take_snoc hp, uniAll_snoc]
  simp [uniStep, h1]
theorem any_take {ps : List Inst} {k : Nat} {p : Inst} (hp : ps[k]? = some p) : ((ps.take (k + 1)).any fun q => q.op == 0) = (((ps.take k).any fun q => q.op == 0) || (p.op == 0)) := by
  rw [take_snoc hp, List.any_append]; simp

theorem set_cell {p : Inst} (h : p.wfs) {j y : Nat} (hy : p.sets[j]? = some y) : p.cells[6 + j]? = some (.int .u64 (y : Int)) := by
  have e : p.cells = [.int .u8 p.op, .bool p.lapses, .bool p.checks, .int .i32 p.arg, .int .i32 p.x, .int .i32 p.y] ++ wordCells p.sets := by
    rw [← p.set_words h]; rfl
  rw [e, List.getElem?_append_right (by simp)]
  unfold wordCells
  rw [List.getElem?_map]
  have : 6 + j - [Value.int .u8 p.op, .bool p.lapses, .bool p.checks, .int .i32 p.arg, .int .i32 p.x, .int .i32 p.y].length = j := by simp
  rw [this, hy]; rfl

theorem eq_set (w : World) (a b c d : Int) : (binOp .eql 32 (.agg #[.int .u64 a, .int .u64 b, .int .u64 c, .int .u64 d]) (.agg #[.int .u64 a, .int .u64 b, .int .u64 c, .int .u64 d])).run Try.prog w = .ok (.bool true) w := by
  have hc : Try.prog.cellsOf 31 = 1 := by kernel_rfl
  obtain ⟨i31, hi⟩ : ∃ i, Try.prog.info? 31 = some i := Option.isSome_iff_exists.1 (by kernel_rfl)
  have hp : ∀ (xs : Array Value) (i : Nat) (n : Int), xs[i]? = some (.int .u64 n) → (part 31 xs (i * 1)).run Try.prog w = .ok (.int .u64 n) w := by
    intro xs i n h
    simp [part, isAgg, run_underlying Try.underlying31, h]
  have he : ∀ n : Int, (Op.equalIn 9999 31 (.int .u64 n) (.int .u64 n)).run Try.prog w = .ok true w := fun n => by
    rw [run_equalIn_int w 9998 31 .u64 .u64 _ _ Try.underlying31]; simp
  rw [run_eql_struct, run_equalIn_array w 9999 _ _ Try.underlying32 hi, hc]
  have hr : List.range 4 = [0, 1, 2, 3] := rfl
  rw [hr]
  have q := hp #[.int .u64 a, .int .u64 b, .int .u64 c, .int .u64 d]
  have q0 := q 0 a rfl
  have q1 := q 1 b rfl
  have q2 := q 2 c rfl
  have q3 := q 3 d rfl
  simp only [Op.eqItems, Sem.run_bind, q0, q1, q2, q3, he, Result.andThen_ok, Bool.not_true, Bool.false_eq_true, if_false, Sem.run_pure]

theorem ends_none {ps : List Inst} {start : Int} {n : Nat} {ways ends : List Int} (he : EndsOk ps ends ways) (hg : ∀ u ∈ ways, G6 ps start n u) {p : Inst} (hp : opAt ps (start * 2) = p.op) (h : p.op = 0 ∨ p.op = 1) : ∀ (k : Nat) (u : Int), ends[k]? = some u → u = -1 := by
  intro k u hu
  rcases he k u hu with a | ⟨a, q, hq, hop, _⟩
  · exact a
  · have e := (hg u a).2 (by rw [hp]; exact h)
    have : opAt ps u = 4 := by unfold opAt; rw [hq]; exact hop
    rw [e, hp] at this
    omega

set_option maxHeartbeats 3200000 in
set_option maxRecDepth 100000 in
theorem law6_main (b off n cap m : Nat) (ps : List Inst) (start slots : Int) (w : World) (hl : Hid (ps.length = n)) (hi : Insts w b off ps) (hwf : Hid (∀ p ∈ ps, p.wf)) (hws : Hid (∀ p ∈ ps, p.wfs))
    (hn0 : 0 < n) (hn1 : n ≤ 4096) (hs0 : 0 ≤ slots) (hs1 : slots ≤ 65536) (hm : Hid ((m : Int) = slots / 2)) (hv : valid ps slots = true) (hin : inR start n = true) :
    Calls Try.prog 6 #[.slice (some ⟨b, off, none⟩) n cap, .int .i32 start, .int .i64 slots] w fun e w' => e = .returned (.bool true) ∧ Below w.heap.size w w' := by
  obtain ⟨st0, st1⟩ := inR_bounds hin
  have hm1 : m ≤ 32768 := by have := hm.out; omega
  have Hv := hide hv
  go_enter Try.func6, Try.ntmps6
  go_wp2_with (first | (go_at_call 22; refine (bytes22' _ _ _ _ _ _ (by omega)).mono ?_; rintro e w' ⟨rfl, rfl⟩) | (go_at_call 12; refine (valid_any b off n cap ps slots _ hl.out (by omega) (by omega) hi hwf.out (by omega) (by omega)).mono ?_; rintro e w1 ⟨rfl, hb1⟩) | (go_at_call 20; refine (inRange' _ _ _ (by omega) (by omega)).mono ?_; rintro e w' ⟨rfl, rfl⟩))
  have hblt := hi.lt (by rw [hl.out]; omega)
  have hi1 : Insts w1 b off ps := fun i p hp => rangeAt_of_heap (hi i p hp) (hb1.block b hblt)
  refine (clone_any b off n cap ps w1 hl.out hn0 hn1 hi1).mono ?_
  rintro e w2 ⟨rfl, hb2, hz2, hB2⟩
  have Hb2 := hide (hb1.trans (hb2.mono hb1.size))
  clear hi hi1 hb1 hb2
  go_wp2_with fail
  refine (build_any w1.heap.size 0 n n ps start slots w2 hl.out hn0 hn1 (insts_of_blk hB2)).mono ?_
  rintro e w3 ⟨x, g, sb, rfl, hb3, hE3⟩
  have Hb3 := hide (Hb2.out.trans (hb3.mono Hb2.out.size))
  have HB3 := hide (hB2.below hb3 hB2.lt)
  have Hc : Hid (SCtx w3.heap.size x g sb ps start slots (G6 ps start n) n m w3) :=
    hide ⟨hE3, Nat.le_refl _, hl.out, hm.out, Hv.out, hwf.out, ⟨⟨by omega, by omega⟩, fun _ => rfl⟩, fun v h => h.1, G6_closed Hv.out hl.out⟩
  have hz3 : w1.heap.size < w3.heap.size := by have := hb3.size; omega
  clear hb3 hE3 hB2
  go_wp2_with fail
  refine (zFirst_any w3.heap.size x g sb ps start slots (G6 ps start n) n m w3 Hc.out hws hn0 hn1 hs0 hs1).mono ?_
  rintro e w4 ⟨gb, ge, ways, ends, rfl, hle, heo, hb4, hBb, hBe, hgw, hw0⟩
  have Hb4 := hide (Hb3.out.trans (hb4.mono Hb3.out.size))
  have HI := hide (insts_of_blk (HB3.out.below hb4 (by omega)))
  have hg0 : w1.heap.size < w4.heap.size := by have := hb4.size; omega
  have hgbl := hBb.lt
  have hgel := hBe.lt
  have Hle := hide hle
  have Heo := hide heo
  have HBe := hide hBe
  have HBb := hide hBb
  have Hgw := hide hgw
  have Hw0 := hide hw0
  clear hb4 hle heo hBe hBb hgw hw0
  obtain ⟨bv, hbv⟩ : ∃ bv, bv = (if (ways.any fun v => opAt ps v == 0) = true then Value.pointer none else Value.pointer (some ⟨gb, 0, none⟩)) := ⟨_, rfl⟩
  have Hbv : Hid ((bv = .pointer none ∧ (ways.any fun v => opAt ps v == 0) = true) ∨ (bv = .pointer (some ⟨gb, 0, none⟩) ∧ (ways.any fun v => opAt ps v == 0) = false)) := by
    cases hA : (ways.any fun v => opAt ps v == 0)
    · exact .inr ⟨by rw [hbv, hA]; rfl, rfl⟩
    · exact .inl ⟨by rw [hbv, hA]; rfl, rfl⟩
  rw [← hbv]
  clear hbv
  go_wp2_with fail
  go_loopw [11, 12] (fun hm i wr => ∃ k : Nat, k ≤ n ∧ i = .int .i64 k ∧ hm = .bool ((ps.take k).any fun q => q.op == 0) ∧ UMem w4 (uniAll (ps.take k)) wr) (fun _ i _ => n - (intOf i).toNat)
  case atStart => exact ⟨0, by omega, rfl, rfl, UMem.start w4⟩
  case round =>
    obtain ⟨k, hk, rfl, rfl, hU⟩ := hrel
    by_cases hlt : k < n
    · obtain ⟨p, hp⟩ : ∃ p, ps[k]? = some p := ⟨_, List.getElem?_eq_getElem (by rw [hl.out]; exact hlt)⟩
      have hr := hU.insts HI.out hg0 k p hp
      rw [Nat.zero_add] at hr
      have Hws := hide (hws.out p (List.mem_of_getElem? hp))
      have Han := hide (any_take hp)
      have Huo := hide (uni_other hp)
      have Hub := hide (uni_byte hp)
      obtain ⟨op, la, ch, ar, px, py, s0, s1, s2, s3⟩ := p
      have Hp := hide hp
      clear hp
      have c0 := (inst_cells hr).1
      generalize hmv : ((ps.take k).any fun q => q.op == 0) = hmk at Han ⊢
      clear hmv hr
      by_cases h1 : op = 1
      · have e1 : (op == 1) = true := beq_iff_eq.2 h1
        have e0 : (op == 0) = false := beq_eq_false_iff_ne.2 (by omega)
        have H1 := hide h1
        have Han2 : Hid (((ps.take (k + 1)).any fun q => q.op == 0) = hmk) := by rw [Han.out]; show (hmk || (op == 0)) = hmk; rw [e0, Bool.or_false]
        clear h1
        have HU := hide hU
        clear hU
        go_wp2_with fail
        go_loopw [13] (fun i wz => ∃ j : Nat, j ≤ 4 ∧ i = .int .i64 j ∧ UMem w4 (mixW (uniAll (ps.take k)) (Inst.sets ⟨op, la, ch, ar, px, py, s0, s1, s2, s3⟩) j) wz) (fun i _ => 4 - (intOf i).toNat)
        case atStart => exact ⟨0, by omega, rfl, by rw [mixW_zero]; exact HU.out⟩
        case round =>
          obtain ⟨j, hj, rfl, hUj⟩ := hrel
          have hbl := uniAll_length (ps.take k)
          have hr2 := hUj.insts HI.out hg0 k _ Hp.out
          rw [Nat.zero_add] at hr2
          have d0 := (inst_cells hr2).1
          by_cases hj4 : j < 4
          · obtain ⟨bx, hbx⟩ : ∃ bx, (uniAll (ps.take k))[j]? = some bx := ⟨_, List.getElem?_eq_getElem (by omega)⟩
            obtain ⟨sy, hsy⟩ : ∃ sy, (Inst.sets ⟨op, la, ch, ar, px, py, s0, s1, s2, s3⟩)[j]? = some sy := ⟨_, List.getElem?_eq_getElem (by show j < 4; omega)⟩
            have dset : wr.cell? ⟨w1.heap.size, k * 10 + 6 + j, none⟩ = some (.int .u64 (sy : Int)) := by
              have := hr2 (6 + j) (.int .u64 (sy : Int)) (set_cell Hws.out hsy)
              rwa [← Nat.add_assoc] at this
            have dbeg := hUj.blk.cell (j := j) (v := .int .u64 (bx : Int)) (by unfold wordCells; rw [List.getElem?_map, mixW_get hbl rfl hj4, hbx]; rfl)
            have dfr := hUj.blk.frozen j
            have eo : bits .or .u64 (bx : Int) (sy : Int) = ((bx ||| sy : Nat) : Int) := u64_or_nat bx sy (uniAll_lt (fun p hp => hws.out p (List.mem_of_mem_take hp)) _ (List.mem_of_getElem? hbx)) (Inst.sets_lt _ Hws.out _ (List.mem_of_getElem? hsy))
            have hN := (hUj.put j (bx ||| sy)).drew
            rw [mixW_step hbl rfl hbx hsy] at hN
            have HN := hide hN
            have n1 : ¬ w4.heap.size = w1.heap.size := by omega
            have n2 : ¬ w1.heap.size = w4.heap.size := by omega
            have j0 : (0 : Int) ≤ (j : Int) := by omega
            have j1 : (j : Int) < 4 := by omega
            have k0 : (0 : Int) ≤ (k : Int) := by omega
            have k1 : (k : Int) < (n : Int) := by omega
            clear hr2 hN hUj hbx hsy hbl
            go_wp2_with fail
            go_region
            go_wp2_with fail
            exact ⟨⟨j + 1, by omega, by go_num, HN.out⟩, by simp [intOf]; omega⟩
          · obtain rfl : j = 4 := by omega
            rw [Hub.out H1.out] at hUj
            have HN := hide hUj
            clear hUj hbl hr2
            go_wp2_with fail
            exact ⟨⟨k + 1, by omega, by go_num, by rw [Han2.out], HN.out⟩, by simp [intOf]; omega⟩
      · have e1 : (op == 1) = false := beq_eq_false_iff_ne.2 h1
        rw [Huo.out h1] at hU
        have HN := hide hU
        clear hU h1
        by_cases h0 : op = 0
        · have e0 : (op == 0) = true := beq_iff_eq.2 h0
          have Han2 : Hid (((ps.take (k + 1)).any fun q => q.op == 0) = true) := by rw [Han.out]; show (hmk || (op == 0)) = true; rw [e0, Bool.or_true]
          clear h0
          go_wp2_with fail
          exact ⟨⟨k + 1, by omega, by go_num, by rw [Han2.out], HN.out⟩, by simp [intOf]; omega⟩
        · have e0 : (op == 0) = false := beq_eq_false_iff_ne.2 h0
          have Han2 : Hid (((ps.take (k + 1)).any fun q => q.op == 0) = hmk) := by rw [Han.out]; show (hmk || (op == 0)) = hmk; rw [e0, Bool.or_false]
          clear h0
          go_wp2_with fail
          exact ⟨⟨k + 1, by omega, by go_num, by rw [Han2.out], HN.out⟩, by simp [intOf]; omega⟩
    · rw [List.take_of_length_le (by rw [hl.out]; omega)] at hU ⊢
      obtain ⟨p, hp⟩ : ∃ p, ps[start.toNat]? = some p := ⟨_, List.getElem?_eq_getElem (by rw [hl.out]; omega)⟩
      have hst : (start * 2 / 2).toNat = start.toNat := by congr 1; omega
      have hop : opAt ps (start * 2) = p.op := by unfold opAt; rw [hst, hp]
      have Hop := hide hop
      have Hends := hide (fun h => ends_none Heo.out Hgw.out hop h)
      have Hws := hide (hws.out p (List.mem_of_getElem? hp))
      have hA1 : p.op = 0 → (ways.any fun v => opAt ps v == 0) = true := by
        intro h0
        rw [List.any_eq_true]
        exact ⟨start * 2, Hw0.out, by rw [hop, h0]; rfl⟩
      have hA2 : p.op = 1 → (ways.any fun v => opAt ps v == 0) = false ∧ orAll ps ways = p.sets := by
        intro h1
        have hall : ∀ v ∈ ways, v = start * 2 := fun v hv => (Hgw.out v hv).2 (.inr (by rw [hop, h1]))
        refine ⟨?_, orAll_same (by rw [hst]; exact hp) h1 ways (List.ne_nil_of_mem Hw0.out) hall⟩
        rw [List.any_eq_false]
        intro v hv
        rw [hall v hv, hop, h1]; decide
      have HA1 := hide hA1
      have HA2 := hide hA2
      have Hp := hide hp
      clear hp hop hst hA1 hA2
      obtain ⟨op, la, ch, ar, px, py, s0, s1, s2, s3⟩ := p
      simp only at Hends
      have HU := hide hU
      clear hU
      have hem : ∀ (o : Obj) (wz : World) (k : Nat), UMem w4 (uniAll ps) wz → k < m → (op = 0 ∨ op = 1) → (wz.alloc o).cell? ⟨ge, k, none⟩ = some (.int .i32 (-1)) := by
        intro o wz k hz hk h
        obtain ⟨v, hv⟩ : ∃ v, ends[k]? = some v := ⟨_, List.getElem?_eq_getElem (by rw [Hle.out]; exact hk)⟩
        have hm1 := Hends.out h k v hv
        subst hm1
        exact ((HBe.out.below hz.below hgel).alloc o).cell (by unfold i32s; rw [List.getElem?_map, hv]; rfl)
      have Hem := hide hem
      clear hem
      rcases Hbv.out with ⟨hb0, hA⟩ | ⟨hb0, hA⟩
      · have hmt : (ps.any fun p => p.op == 0) = true := any_match hA
        have h1n : ¬ op = 1 := fun h => by have := (HA2.out h).1; rw [hA] at this; cases this
        rw [hb0, hmt]
        clear hmt hA hb0
        have hr := HU.out.insts HI.out hg0 _ _ Hp.out
        rw [Nat.zero_add] at hr
        obtain ⟨c0, c1, c2, c3, c4, c5, c6, c7, c8, c9⟩ := inst_cells hr
        clear hr
        have e1 : (op == 1) = false := beq_eq_false_iff_ne.2 h1n
        clear h1n
        by_cases h0 : op = 0
        · have e0 : (op == 0) = true := beq_iff_eq.2 h0
          have H0 := hide h0
          clear h0
          go_wp2_with fail
          go_loop [16] (fun i => ∃ k : Nat, k ≤ m ∧ i = .int .i64 k) (fun i => m - (intOf i).toNat)
          case atStart => exact ⟨0, by omega, rfl⟩
          case round =>
            obtain ⟨k2, hk2, rfl⟩ := hrel
            by_cases hlt2 : k2 < m
            · have hcv := fun o => Hem.out o wr k2 HU.out hlt2 (.inl H0.out)
              go_wp2_with fail
              exact ⟨⟨k2 + 1, by omega, by go_num⟩, by simp [intOf]; omega⟩
            · go_wp2_with fail
              go_ret
              exact ⟨rfl, (Hb4.out.trans (HU.out.below.mono Hb4.out.size)).alloc (by have := Hb4.out.size; have := HU.out.size; omega) _⟩
        · have e0 : (op == 0) = false := beq_eq_false_iff_ne.2 h0
          clear h0
          go_wp2_with fail
          go_ret
          exact ⟨rfl, (Hb4.out.trans (HU.out.below.mono Hb4.out.size)).alloc (by have := Hb4.out.size; have := HU.out.size; omega) _⟩
      · have h0n : ¬ op = 0 := fun h => by have := HA1.out h; rw [hA] at this; cases this
        rw [hb0]
        clear hA hb0
        generalize (ps.any fun p => p.op == 0) = hmv
        have e0 : (op == 0) = false := beq_eq_false_iff_ne.2 h0n
        clear h0n
        go_wp2_with fail
        go_loopw [14] (fun i wz => ∃ j : Nat, j ≤ 4 ∧ i = .int .i64 j ∧ UMem w4 (uniAll ps) wz) (fun i _ => 4 - (intOf i).toNat)
        case atStart => exact ⟨0, by omega, rfl, HU.out⟩
        case round =>
          obtain ⟨j, hj, rfl, hUj⟩ := hrel
          have hbB := HBb.out.below hUj.below hgbl
          by_cases hj4 : j < 4
          · obtain ⟨bx, hbx⟩ : ∃ bx, (orAll ps ways)[j]? = some bx := ⟨_, List.getElem?_eq_getElem (by rw [orAll_length]; omega)⟩
            obtain ⟨uy, huy⟩ : ∃ uy, (uniAll ps)[j]? = some uy := ⟨_, List.getElem?_eq_getElem (by rw [uniAll_length]; omega)⟩
            have d1 := hbB.cell (j := j) (v := .int .u64 (bx : Int)) (by unfold wordCells; rw [List.getElem?_map, hbx]; rfl)
            have d2 := hUj.blk.cell (j := j) (v := .int .u64 (uy : Int)) (by unfold wordCells; rw [List.getElem?_map, huy]; rfl)
            have ean : bits .andNot .u64 (bx : Int) (uy : Int) = 0 := by
              have hlu := uniAll_lt hws.out _ (List.mem_of_getElem? huy)
              rw [u64_andNot_nat bx uy (orAll_lt hws.out _ _ (List.mem_of_getElem? hbx)) hlu, andNot_zero (orAll_sub ps ways j bx uy hbx huy) hlu]; rfl
            have j0 : (0 : Int) ≤ (j : Int) := by omega
            have j1 : (j : Int) < 4 := by omega
            have HN := hide hUj
            clear hUj hbx huy hbB
            go_wp2_with fail
            go_quiet (fail)
            go_wp2_with fail
            exact ⟨⟨j + 1, by omega, by go_num, HN.out.drewN _⟩, by simp [intOf]; omega⟩
          · have hr := hUj.insts HI.out hg0 _ _ Hp.out
            rw [Nat.zero_add] at hr
            obtain ⟨c0, c1, c2, c3, c4, c5, c6, c7, c8, c9⟩ := inst_cells hr
            clear hr
            have HUj := hide hUj
            have HbB := hide hbB
            clear hUj hbB
            by_cases h1 : op = 1
            · have e1 : (op == 1) = true := beq_iff_eq.2 h1
              have H1 := hide h1
              clear h1
              go_wp2_with fail
              go_loop [16] (fun i => ∃ k : Nat, k ≤ m ∧ i = .int .i64 k) (fun i => m - (intOf i).toNat)
              case atStart => exact ⟨0, by omega, rfl⟩
              case round =>
                obtain ⟨k2, hk2, rfl⟩ := hrel
                by_cases hlt2 : k2 < m
                · have hcv := fun o => Hem.out o wr k2 HUj.out hlt2 (.inr H1.out)
                  go_wp2_with fail
                  exact ⟨⟨k2 + 1, by omega, by go_num⟩, by simp [intOf]; omega⟩
                · have hse : wordCells (orAll ps ways) = Inst.set ⟨op, la, ch, ar, px, py, s0, s1, s2, s3⟩ := by rw [(HA2.out H1.out).2, Inst.set_words _ Hws.out]
                  have hB5 := HbB.out
                  rw [hse] at hB5
                  have q0 : ∀ o, (wr.alloc o).cell? ⟨gb, 0, none⟩ = some (.int .u64 s0) := fun o => (hB5.alloc o).cell rfl
                  have q1 : ∀ o, (wr.alloc o).cell? ⟨gb, 1, none⟩ = some (.int .u64 s1) := fun o => (hB5.alloc o).cell rfl
                  have q2 : ∀ o, (wr.alloc o).cell? ⟨gb, 2, none⟩ = some (.int .u64 s2) := fun o => (hB5.alloc o).cell rfl
                  have q3 : ∀ o, (wr.alloc o).cell? ⟨gb, 3, none⟩ = some (.int .u64 s3) := fun o => (hB5.alloc o).cell rfl
                  have heq := fun w => eq_set w s0 s1 s2 s3
                  clear hse hB5
                  go_wp2_with fail
                  go_quiet (fail)
                  go_wp2_with fail
                  go_ret
                  exact ⟨rfl, below_drewN ((Hb4.out.trans (HUj.out.below.mono Hb4.out.size)).alloc (by have := Hb4.out.size; have := HUj.out.size; omega) _) _⟩
            · have e1 : (op == 1) = false := beq_eq_false_iff_ne.2 h1
              clear h1
              go_wp2_with fail
              go_ret
              exact ⟨rfl, (Hb4.out.trans (HUj.out.below.mono Hb4.out.size)).alloc (by have := Hb4.out.size; have := HUj.out.size; omega) _⟩

theorem law6_any (a0 : Option Addr) (len cap : Nat) (ps : List Inst) (start slots : Int) (w : World) (hp : IsProg w a0 len ps) (hs : -2147483648 ≤ start ∧ start ≤ 2147483647) :
    Calls Try.prog 6 #[.slice a0 len cap, .int .i32 start, .int .i64 slots] w fun e w' => e = .returned (.bool true) ∧ Below w.heap.size w w' := by
  by_cases h : 4096 < len ∨ slots < 0 ∨ 65536 < slots ∨ len = 0 ∨ valid ps slots = false ∨ inR start len = false
  · exact law6_easy a0 len cap ps start slots w hp hs h
  · simp only [not_or, Bool.not_eq_false] at h
    obtain ⟨h1, h2, h3, h4, h5, h6⟩ := h
    obtain ⟨hl, hP, hwf, hws⟩ := hp
    obtain ⟨b, off, rfl, hi⟩ := hP (by omega)
    exact law6_main b off len cap (slots / 2).toNat ps start slots w (hide hl) hi (hide hwf) (hide hws) (by omega) (by omega) (by omega) (by omega) (hide (by omega)) h5 h6

end Go.Proofs.Qxb6001162a
