import Derived.Test.Qxb6600679aW2
namespace Go.Proofs.Qxb6600679a
open Go.RowKit

theorem info3 : (Try.prog.info? 3).map (fun i => (i.zero, i.size, i.bytes)) = some (some (.int .i64 0), 1, 8) := by kernel_rfl
def zeros3 (n : Nat) : Array Value := madeCells #[.int .i64 0] n
theorem make_ints (w : World) (n : Nat) (hn : n ≤ 1000000) :
    (Instr.makeSlice 22 (.int .i64 (n : Int)) (.int .i64 (n : Int))).run Try.prog w = .ok (.slice (some ⟨w.heap.size, 0, none⟩) n n) (w.alloc (.cells (zeros3 n) 3)) := by
  obtain ⟨i0, hi, hz0, hz1, hz2⟩ := info_parts info3
  have := run_make (P := Try.prog) w 22 3 i0 (.int .i64 0) Try.underlying22 hi hz0 .i64 .i64 n n (by omega) (by omega) (by rw [hz2]; omega) (by omega)
  rw [this, hz1, Nat.mul_one]; rfl

theorem at_copy {P : Program} {ops : Array Oper} {rest : List Oper} {a : Act} {w : World} {Q : Exit → Act → World → Prop} {d : Option Tmp} {ty' : TypeId} {pos : String} {af : Array Edge} {ts : Array TypeId} (x y : Operand)
    (h : wpList P ops Q (⟨d, .call { callee := .builtin .copy, args := #[x, y], argTypes := ts }, ty', pos, af, none⟩ :: rest) a w) : wpList P ops Q (⟨d, .call { callee := .builtin .copy, args := #[x, y], argTypes := ts }, ty', pos, af, none⟩ :: rest) a w := h

theorem splice_all {α : Type} (L cs : List α) (h : cs.length = L.length) : splice L 0 cs = cs := by
  unfold splice
  rw [List.take_zero, List.nil_append, Nat.zero_add, h, List.drop_length, List.append_nil]

def i64s (l : List Int) : List Value := l.map (Value.int .i64)

/-- WHAT THE WALK IS TOLD OF THE SLICE THAT CAME IN. -/
def IsSl (w : World) (a : Option Addr) (len : Nat) (xs : List Int) : Prop :=
  xs.length = len ∧ (a = none → len = 0) ∧ ∀ ad, a = some ad → ∀ (i : Nat) (x : Int), xs[i]? = some x → w.cell? (ad.add i) = some (.int .i64 x)

/-- The counters' block lies behind all that was there. -/
structure CMem (w2 : World) (xs : List Int) (wr : World) : Prop where
  below : Below w2.heap.size w2 wr
  size : wr.heap.size = w2.heap.size + 1
  blk : Blk wr w2.heap.size (u64s (tally xs)) 26

theorem CMem.start (w2 : World) : CMem w2 [] (w2.alloc (.cells #[.int .u64 0, .int .u64 0, .int .u64 0, .int .u64 0, .int .u64 0, .int .u64 0, .int .u64 0] 26)) :=
  ⟨(Below.refl _ _).alloc (Nat.le_refl _) _, by rw [World.size_alloc], Blk.new w2 (u64s (tally [])) 26⟩

theorem take_snoc {α : Type} {l : List α} {k : Nat} {u : α} (h : l[k]? = some u) : l.take (k + 1) = l.take k ++ [u] := by
  obtain ⟨hk, rfl⟩ := List.getElem?_eq_some_iff.1 h
  exact List.take_succ_eq_append_getElem hk

theorem count_snoc (l : List Int) (u v : Int) : (l ++ [u]).count v = l.count v + if u = v then 1 else 0 := by
  rw [List.count_append, List.count_singleton]
  simp

/-- The eight words that the law looks into. -/
def gotCells (xs : List Int) : Array Value := #[.int .u64 0, .int .u64 0, .int .u64 (xs.count 2 : Nat), .int .u64 (xs.count 3 : Nat), .int .u64 (xs.count 4 : Nat), .int .u64 (xs.count 5 : Nat), .int .u64 (xs.count 6 : Nat), .int .u64 (xs.count 7 : Nat)]

theorem got_at (xs : List Int) (k : Nat) (h2 : 2 ≤ k) (h7 : k ≤ 7) : (gotCells xs).toList[k]? = some (.int .u64 (xs.count (k : Int) : Nat)) := by
  have hk : k = 2 ∨ k = 3 ∨ k = 4 ∨ k = 5 ∨ k = 6 ∨ k = 7 := by omega
  rcases hk with rfl | rfl | rfl | rfl | rfl | rfl <;> rfl

set_option maxHeartbeats 3200000 in
set_option maxRecDepth 100000 in
theorem law3_main (a0 : Option Addr) (n cap : Nat) (xs : List Int) (w : World) (h : IsSl w a0 n xs) (hm : n ≤ 65536) :
    Calls Try.prog 3 #[.slice a0 n cap] w fun e w' => e = .returned (.bool true) ∧ Below w.heap.size w w' := by
  have hnq := fun (w : World) (a : Option Addr) (n c n' c' : Nat) => run_neq_slice_nil_any (P := Try.prog) w 22 3 a n c n' c' Try.underlying22
  have hmk := fun (w : World) => make_ints w n (by omega)
  obtain ⟨hl, hnil, hP⟩ := h
  have Hl := hide hl
  clear hl
  cases a0 with
  | none =>
    have hn0 : n ≤ 0 := by have := hnil rfl; omega
    have H0 := hide (Below.refl w.heap.size w)
    clear hnil hP
    go_enter Try.func3, Try.ntmps3
    go_wp2_with (go_at_call 5; refine (bytes5 _ _ _ _ (by omega)).mono ?_; rintro e w' ⟨rfl, rfl⟩)
    go_loopw [5] (fun i wr => ∃ k : Nat, k ≤ n ∧ i = .int .i64 k ∧ CMem w (xs.take k) wr) (fun i _ => n - (intOf i).toNat)
    case atStart => exact ⟨0, by omega, rfl, CMem.start w⟩
    case round =>
      obtain ⟨k, hk, rfl, hC⟩ := hrel
      by_cases hlt : k < n
      · exact absurd hlt (by omega)
      · rw [List.take_of_length_le (by rw [Hl.out]; omega)] at hC
        have q0 : wr.cell? ⟨w.heap.size, 0, none⟩ = some (.int .u64 0) := hC.blk.cell rfl
        have q1 : wr.cell? ⟨w.heap.size, 1, none⟩ = some (.int .u64 (xs.count 2 : Nat)) := hC.blk.cell rfl
        have q2 : wr.cell? ⟨w.heap.size, 2, none⟩ = some (.int .u64 (xs.count 3 : Nat)) := hC.blk.cell rfl
        have q3 : wr.cell? ⟨w.heap.size, 3, none⟩ = some (.int .u64 (xs.count 4 : Nat)) := hC.blk.cell rfl
        have q4 : wr.cell? ⟨w.heap.size, 4, none⟩ = some (.int .u64 (xs.count 5 : Nat)) := hC.blk.cell rfl
        have q5 : wr.cell? ⟨w.heap.size, 5, none⟩ = some (.int .u64 (xs.count 6 : Nat)) := hC.blk.cell rfl
        have q6 : wr.cell? ⟨w.heap.size, 6, none⟩ = some (.int .u64 (xs.count 7 : Nat)) := hC.blk.cell rfl
        have hsz := hC.size
        have m0 : ∀ o, (wr.alloc o).cell? ⟨w.heap.size, 0, none⟩ = some (.int .u64 0) := fun o => (hC.blk.alloc o).cell rfl
        have m1 : ∀ o, (wr.alloc o).cell? ⟨w.heap.size, 1, none⟩ = some (.int .u64 (xs.count 2 : Nat)) := fun o => (hC.blk.alloc o).cell rfl
        have m2 : ∀ o, (wr.alloc o).cell? ⟨w.heap.size, 2, none⟩ = some (.int .u64 (xs.count 3 : Nat)) := fun o => (hC.blk.alloc o).cell rfl
        have m3 : ∀ o, (wr.alloc o).cell? ⟨w.heap.size, 3, none⟩ = some (.int .u64 (xs.count 4 : Nat)) := fun o => (hC.blk.alloc o).cell rfl
        have m4 : ∀ o, (wr.alloc o).cell? ⟨w.heap.size, 4, none⟩ = some (.int .u64 (xs.count 5 : Nat)) := fun o => (hC.blk.alloc o).cell rfl
        have m5 : ∀ o, (wr.alloc o).cell? ⟨w.heap.size, 5, none⟩ = some (.int .u64 (xs.count 6 : Nat)) := fun o => (hC.blk.alloc o).cell rfl
        have m6 : ∀ o, (wr.alloc o).cell? ⟨w.heap.size, 6, none⟩ = some (.int .u64 (xs.count 7 : Nat)) := fun o => (hC.blk.alloc o).cell rfl
        have HG := hide (fun k h2 h7 => (Blk.new' wr (gotCells xs) 29).cell (got_at xs k h2 h7))
        have HF := hide (fun o => (H0.out.trans (hC.below.mono H0.out.size)).alloc (by have := H0.out.size; omega) o)
        have Hsz := hide hsz
        clear hC hsz
        go_wp2_with fail
        go_loop [7] (fun i => ∃ k : Nat, 2 ≤ k ∧ k ≤ 8 ∧ i = .int .i64 k) (fun i => 8 - (intOf i).toNat)
        case atStart => exact ⟨2, by omega, by omega, rfl⟩
        case round =>
          obtain ⟨k2, hk2, hk8, rfl⟩ := hrel
          by_cases hlt7 : k2 ≤ 7
          · have hgot := HG.out k2 hk2 hlt7
            unfold gotCells at hgot
            have Hgot := hide hgot
            clear hgot
            go_wp2_with fail
            go_loop [8, 9] (fun c i => ∃ j : Nat, j ≤ n ∧ i = .int .i64 j ∧ c = .int .u64 ((xs.take j).count (k2 : Int) : Nat)) (fun _ i => n - (intOf i).toNat)
            case atStart => exact ⟨0, by omega, rfl, rfl⟩
            case round =>
              obtain ⟨j, hj, rfl, rfl⟩ := hrel
              by_cases hjn : j < n
              · exact absurd hjn (by omega)
              · rw [List.take_of_length_le (by rw [Hl.out]; omega)]
                have hg := Hgot.out
                have e2 : (((xs.count (k2 : Int) : Nat) : Int) != ((xs.count (k2 : Int) : Nat) : Int)) = false := by simp
                go_wp2_with fail
                exact ⟨⟨k2 + 1, by omega, by omega, by go_num⟩, by simp [intOf]; omega⟩
          · go_wp2_with fail
            go_ret
            exact ⟨rfl, HF.out _⟩
  | some ad =>
    have hcs := hP ad rfl
    clear hnil hP
    have Hcs := hide hcs
    clear hcs
    go_enter Try.func3, Try.ntmps3
    go_wp2_with (first | (go_at_call 5; refine (bytes5 _ _ _ _ (by omega)).mono ?_; rintro e w' ⟨rfl, rfl⟩) | (with_reducible refine at_copy (.tmp 21) (.tmp 22) ?_; refine Hid.out ?_))
    unfold Hid
    have hnb := Blk.new' w (zeros3 n) 3
    refine wpList_copy_splice rfl (.tmp 21) (.tmp 22) 22 22 rfl 3 Try.underlying22 (by kernel_rfl) (some ⟨w.heap.size, 0, none⟩) (some ad) n n n cap (by rfl) (by rfl) w.heap.size 0 (zeros3 n).toList 3 hnb (i64s xs) (by unfold i64s; rw [List.length_map, Hl.out]; exact (Nat.min_self n).symm) (fun _ => ⟨rfl, ad, rfl, ?_⟩) (by unfold i64s; rw [List.length_map, Hl.out]; simp [zeros3, size_madeCells]) (by intro v hv; unfold i64s at hv; obtain ⟨z, _, rfl⟩ := List.mem_map.1 hv; rfl) w.heap.size w ((Below.refl _ _).alloc (Nat.le_refl _) _) (Nat.le_refl _) ?_
    · intro j v hj
      unfold i64s at hj
      rw [List.getElem?_map] at hj
      cases hx : xs[j]? with
      | none => rw [hx] at hj; cases hj
      | some x =>
        rw [hx] at hj
        cases hj
        have hq := Hcs.out j x hx
        rw [World.cell?_alloc_lt _ _ _ (World.block_lt_of_cell? w _ hq)]
        exact hq
    intro w2 HG2 hb2
    have Hb2 := hide hb2
    have HB : Hid (Blk w2 w.heap.size (i64s xs) 3) := by
      have := HG2.out
      rw [splice_all _ _ (by unfold i64s; rw [List.length_map, Hl.out]; simp [zeros3, size_madeCells])] at this
      exact this
    clear hb2 HG2 Hcs hnb
    go_wp2_with fail
    go_loopw [5] (fun i wr => ∃ k : Nat, k ≤ n ∧ i = .int .i64 k ∧ CMem w2 (xs.take k) wr) (fun i _ => n - (intOf i).toNat)
    case atStart => exact ⟨0, by omega, rfl, CMem.start w2⟩
    case round =>
      obtain ⟨k, hk, rfl, hC⟩ := hrel
      by_cases hlt : k < n
      · obtain ⟨s, hs⟩ : ∃ s, xs[k]? = some s := ⟨_, List.getElem?_eq_getElem (by rw [Hl.out]; exact hlt)⟩
        have hcs := (HB.out.below hC.below HB.out.lt).cell (j := k) (v := .int .i64 s) (by unfold i64s; rw [List.getElem?_map, hs]; rfl)
        have HA := hide (zadd_any w2.heap.size w2.heap.size w2 wr (xs.take k) s hC.below (Nat.le_refl _) hC.blk (by rw [List.length_take]; omega))
        rw [← take_snoc hs] at HA
        have hsz := hC.size
        have Hsz := hide hsz
        clear hC hs hsz
        go_wp2_with fail
        refine HA.out.mono ?_
        rintro e w5 ⟨rfl, p1, p2, p3⟩
        have HN := hide (show CMem w2 (xs.take (k + 1)) w5 from ⟨p1, by rw [p2]; exact Hsz.out, p3⟩)
        clear p1 p2 p3 HA
        go_wp2_with fail
        exact ⟨⟨k + 1, by omega, by go_num, HN.out⟩, by simp [intOf]; omega⟩
      · rw [List.take_of_length_le (by rw [Hl.out]; omega)] at hC
        have q0 : wr.cell? ⟨w2.heap.size, 0, none⟩ = some (.int .u64 0) := hC.blk.cell rfl
        have q1 : wr.cell? ⟨w2.heap.size, 1, none⟩ = some (.int .u64 (xs.count 2 : Nat)) := hC.blk.cell rfl
        have q2 : wr.cell? ⟨w2.heap.size, 2, none⟩ = some (.int .u64 (xs.count 3 : Nat)) := hC.blk.cell rfl
        have q3 : wr.cell? ⟨w2.heap.size, 3, none⟩ = some (.int .u64 (xs.count 4 : Nat)) := hC.blk.cell rfl
        have q4 : wr.cell? ⟨w2.heap.size, 4, none⟩ = some (.int .u64 (xs.count 5 : Nat)) := hC.blk.cell rfl
        have q5 : wr.cell? ⟨w2.heap.size, 5, none⟩ = some (.int .u64 (xs.count 6 : Nat)) := hC.blk.cell rfl
        have q6 : wr.cell? ⟨w2.heap.size, 6, none⟩ = some (.int .u64 (xs.count 7 : Nat)) := hC.blk.cell rfl
        have hsz := hC.size
        have m0 : ∀ o, (wr.alloc o).cell? ⟨w2.heap.size, 0, none⟩ = some (.int .u64 0) := fun o => (hC.blk.alloc o).cell rfl
        have m1 : ∀ o, (wr.alloc o).cell? ⟨w2.heap.size, 1, none⟩ = some (.int .u64 (xs.count 2 : Nat)) := fun o => (hC.blk.alloc o).cell rfl
        have m2 : ∀ o, (wr.alloc o).cell? ⟨w2.heap.size, 2, none⟩ = some (.int .u64 (xs.count 3 : Nat)) := fun o => (hC.blk.alloc o).cell rfl
        have m3 : ∀ o, (wr.alloc o).cell? ⟨w2.heap.size, 3, none⟩ = some (.int .u64 (xs.count 4 : Nat)) := fun o => (hC.blk.alloc o).cell rfl
        have m4 : ∀ o, (wr.alloc o).cell? ⟨w2.heap.size, 4, none⟩ = some (.int .u64 (xs.count 5 : Nat)) := fun o => (hC.blk.alloc o).cell rfl
        have m5 : ∀ o, (wr.alloc o).cell? ⟨w2.heap.size, 5, none⟩ = some (.int .u64 (xs.count 6 : Nat)) := fun o => (hC.blk.alloc o).cell rfl
        have m6 : ∀ o, (wr.alloc o).cell? ⟨w2.heap.size, 6, none⟩ = some (.int .u64 (xs.count 7 : Nat)) := fun o => (hC.blk.alloc o).cell rfl
        have HG := hide (fun k h2 h7 => (Blk.new' wr (gotCells xs) 29).cell (got_at xs k h2 h7))
        have HB2 := hide (fun o => (HB.out.below hC.below HB.out.lt).alloc o)
        have HF := hide (fun o => (Hb2.out.trans (hC.below.mono Hb2.out.size)).alloc (by have := Hb2.out.size; omega) o)
        have Hsz := hide hsz
        clear hC hsz
        go_wp2_with fail
        go_loop [7] (fun i => ∃ k : Nat, 2 ≤ k ∧ k ≤ 8 ∧ i = .int .i64 k) (fun i => 8 - (intOf i).toNat)
        case atStart => exact ⟨2, by omega, by omega, rfl⟩
        case round =>
          obtain ⟨k2, hk2, hk8, rfl⟩ := hrel
          by_cases hlt7 : k2 ≤ 7
          · have hgot := HG.out k2 hk2 hlt7
            unfold gotCells at hgot
            have Hgot := hide hgot
            clear hgot
            go_wp2_with fail
            go_loop [8, 9] (fun c i => ∃ j : Nat, j ≤ n ∧ i = .int .i64 j ∧ c = .int .u64 ((xs.take j).count (k2 : Int) : Nat)) (fun _ i => n - (intOf i).toNat)
            case atStart => exact ⟨0, by omega, rfl, rfl⟩
            case round =>
              obtain ⟨j, hj, rfl, rfl⟩ := hrel
              by_cases hjn : j < n
              · obtain ⟨s, hs⟩ : ∃ s, xs[j]? = some s := ⟨_, List.getElem?_eq_getElem (by rw [Hl.out]; exact hjn)⟩
                have hcs := fun o => (HB2.out o).cell (j := j) (v := .int .i64 s) (by unfold i64s; rw [List.getElem?_map, hs]; rfl)
                have hcl : (xs.take j).count (k2 : Int) ≤ 65536 := by have := List.count_le_length (a := (k2 : Int)) (l := xs.take j); rw [List.length_take] at this; omega
                have Ht := hide (take_snoc hs)
                have Hc := hide (count_snoc (xs.take j) s k2)
                obtain ⟨c, hc⟩ : ∃ c, c = (xs.take j).count (k2 : Int) := ⟨_, rfl⟩
                rw [← hc] at hcl Hc ⊢
                clear hs hc
                by_cases hsk : s = (k2 : Int)
                · have e1 : (s == (k2 : Int)) = true := beq_iff_eq.2 hsk
                  rw [if_pos hsk] at Hc
                  clear hsk
                  go_wp2_with fail
                  exact ⟨⟨j + 1, by omega, by go_num, by rw [Ht.out, Hc.out]; go_num⟩, by simp [intOf]; omega⟩
                · have e1 : (s == (k2 : Int)) = false := beq_eq_false_iff_ne.2 hsk
                  rw [if_neg hsk, Nat.add_zero] at Hc
                  clear hsk
                  go_wp2_with fail
                  exact ⟨⟨j + 1, by omega, by go_num, by rw [Ht.out, Hc.out]⟩, by simp [intOf]; omega⟩
              · rw [List.take_of_length_le (by rw [Hl.out]; omega)]
                have hg := Hgot.out
                have e2 : (((xs.count (k2 : Int) : Nat) : Int) != ((xs.count (k2 : Int) : Nat) : Int)) = false := by simp
                go_wp2_with fail
                exact ⟨⟨k2 + 1, by omega, by omega, by go_num⟩, by simp [intOf]; omega⟩
          · go_wp2_with fail
            go_ret
            exact ⟨rfl, HF.out _⟩

end Go.Proofs.Qxb6600679a
