import Derived.Test.Qxb6601374aW4
namespace Go.Proofs.Qxb6601374a
open Go.RowKit

def Line.idv (m : Line) : Value := .string m.id
def Line.rsv (m : Line) : Value := .slice m.ad m.len m.cap

/-- Ids in one block, the slices of ranges in another. -/
structure Split (w : World) (gi go : Nat) (ms : List Line) : Prop where
  ids : Blk w gi (ms.map Line.idv) 9
  own : Blk w go (ms.map Line.rsv) 30
  rows : ∀ m ∈ ms, RsAt w 0 m.ad m.len m.rs

theorem Split.below {w w' : World} {gi go : Nat} {ms : List Line} (h : Split w gi go ms) (hb : Below w.heap.size w w') : Split w' gi go ms :=
  ⟨h.ids.below hb h.ids.lt, h.own.below hb h.own.lt, fun m hm => (h.rows m hm).below hb⟩

structure SOut (ls : List Line) (n : Nat) (w : World) (k : Nat) (ms : List Line) (wr : World) : Prop where
  len : ms.length = k
  core : ms.map Line.core = (ls.map Line.core).take k
  below : Below w.heap.size w wr
  ids : ∃ rest : List Value, rest.length = n - k ∧ Blk wr w.heap.size (ms.map Line.idv ++ rest) 9
  own : ∃ rest : List Value, rest.length = n - k ∧ Blk wr (w.heap.size + 1) (ms.map Line.rsv ++ rest) 30
  rows : ∀ m ∈ ms, RsAt wr (w.heap.size + 2) m.ad m.len m.rs

theorem SOut.start (ls : List Line) (n : Nat) (w : World) : SOut ls n w 0 [] ((w.alloc (.cells (zrow (.string ByteArray.empty) n) 9)).alloc (.cells (zrow (.slice none 0 0) n) 30)) where
  len := rfl
  core := by simp
  below := ((Below.refl _ _).alloc (Nat.le_refl _) _).alloc (by rw [World.size_alloc]; omega) _
  ids := ⟨(zrow (.string ByteArray.empty) n).toList, by rw [Array.length_toList, zrow_size]; omega, (Blk.new' _ _ _).alloc _⟩
  own := ⟨(zrow (.slice none 0 0) n).toList, by rw [Array.length_toList, zrow_size]; omega, by
    have := Blk.new' (w.alloc (.cells (zrow (.string ByteArray.empty) n) 9)) (zrow (.slice none 0 0) n) 30
    rw [World.size_alloc] at this
    exact this⟩
  rows := by simp

theorem SOut.lt {ls : List Line} {n : Nat} {w : World} {k : Nat} {ms : List Line} {wr : World} (h : SOut ls n w k ms wr) : w.heap.size + 1 < wr.heap.size := by
  obtain ⟨rest, _, hb⟩ := h.own; exact hb.lt

theorem cell_of {w : World} {g t k n : Nat} {xs : List Value} {rest : List Value} (h : Blk w g (xs ++ rest) t) (hx : xs.length = k) (hr : rest.length = n - k) (hk : k < n) : (∃ v, w.cell? ⟨g, k, none⟩ = some v) ∧ w.frozen? ⟨g, k, none⟩ = false := by
  obtain ⟨v, hv⟩ : ∃ v, (xs ++ rest)[k]? = some v := ⟨_, List.getElem?_eq_getElem (by rw [List.length_append]; omega)⟩
  exact ⟨⟨v, h.cell hv⟩, h.frozen k⟩

theorem set_blk {w : World} {g t k n : Nat} {xs rest : List Value} (h : Blk w g (xs ++ rest) t) (hx : xs.length = k) (hr : rest.length = n - k) (hk : k < n) (v : Value) :
    ∃ rest' : List Value, rest'.length = n - (k + 1) ∧ Blk (w.setCell ⟨g, k, none⟩ v) g (xs ++ [v] ++ rest') t := by
  match rest, hr with
  | [], hr => simp at hr; omega
  | u :: r, hr =>
    refine ⟨r, by simp at hr; omega, ?_⟩
    have := h.setCell k v
    rw [← hx, List.set_append_right _ _ (Nat.le_refl _), Nat.sub_self, List.set_cons_zero] at this
    rw [← hx, List.append_assoc]
    exact this

theorem SOut.cells {ls : List Line} {n : Nat} {w : World} {k : Nat} {ms : List Line} {wr w2 : World} (h : SOut ls n w k ms wr) (hk : k < n) (hb : Below wr.heap.size wr w2) :
    ((∃ v, w2.cell? ⟨w.heap.size, k, none⟩ = some v) ∧ w2.frozen? ⟨w.heap.size, k, none⟩ = false) ∧ (∃ v, w2.cell? ⟨w.heap.size + 1, k, none⟩ = some v) ∧ w2.frozen? ⟨w.heap.size + 1, k, none⟩ = false := by
  obtain ⟨r1, l1, b1⟩ := h.ids
  obtain ⟨r2, l2, b2⟩ := h.own
  have hlt := h.lt
  exact ⟨cell_of (b1.below hb (by omega)) (by rw [List.length_map, h.len]) l1 hk, cell_of (b2.below hb (by omega)) (by rw [List.length_map, h.len]) l2 hk⟩

theorem SOut.step {ls : List Line} {n : Nat} {w : World} {k : Nat} {ms : List Line} {wr w2 : World} (h : SOut ls n w k ms wr) {l m : Line} (hl : ls[k]? = some l) (hc : m.core = l.core) (hk : k < n) (hb : Below wr.heap.size wr w2)
    (hR : RsAt w2 (w.heap.size + 2) m.ad m.len m.rs) : SOut ls n w (k + 1) (ms ++ [m]) ((w2.setCell ⟨w.heap.size, k, none⟩ m.idv).setCell ⟨w.heap.size + 1, k, none⟩ m.rsv) where
  len := by rw [List.length_append, h.len]; rfl
  core := by rw [List.map_append, h.core, cores_take hl, ← hc]; rfl
  below := ((h.below.trans (hb.mono h.below.size)).setCell (Nat.le_refl _) _).setCell (Nat.le_succ _) _
  ids := by
    obtain ⟨r1, l1, b1⟩ := h.ids
    have hlt := h.lt
    obtain ⟨r3, l3, b3⟩ := set_blk (b1.below hb (by omega)) (by rw [List.length_map, h.len]) l1 hk m.idv
    refine ⟨r3, l3, ?_⟩
    rw [List.map_append]
    exact b3.setCell_ne _ _ (by show w.heap.size ≠ w.heap.size + 1; omega)
  own := by
    obtain ⟨r1, l1, b1⟩ := h.own
    have hlt := h.lt
    obtain ⟨r3, l3, b3⟩ := set_blk ((b1.below hb (by omega)).setCell_ne ⟨w.heap.size, k, none⟩ m.idv (by show w.heap.size + 1 ≠ w.heap.size; omega)) (by rw [List.length_map, h.len]) l1 hk m.rsv
    refine ⟨r3, l3, ?_⟩
    rw [List.map_append]
    exact b3
  rows := by
    have hkeep : ∀ a len rs, RsAt w2 (w.heap.size + 2) a len rs → RsAt ((w2.setCell ⟨w.heap.size, k, none⟩ m.idv).setCell ⟨w.heap.size + 1, k, none⟩ m.rsv) (w.heap.size + 2) a len rs := fun a len rs h =>
      h.keep (by rw [World.size_setCell, World.size_setCell]; exact Nat.le_refl _) (fun b h1 _ => by
        rw [Below.heap_setCell _ _ _ _ (by show b ≠ w.heap.size + 1; omega), Below.heap_setCell _ _ _ _ (by show b ≠ w.heap.size; omega)])
    exact all_snoc (fun x hx => hkeep _ _ _ ((h.rows x hx).below hb)) (hkeep _ _ _ hR)

def SplitPost (w : World) (n : Nat) (ls : List Line) (e : Ending) (w' : World) : Prop :=
  ∃ gi go ms, e = .returned (.tuple #[.slice (some ⟨gi, 0, none⟩) n n, .slice (some ⟨go, 0, none⟩) n n]) ∧ Split w' gi go ms ∧ ms.length = n ∧ ms.map Line.core = ls.map Line.core ∧ Below w.heap.size w w'

theorem SOut.done {ls : List Line} {n : Nat} {w : World} {ms : List Line} {wr : World} (h : SOut ls n w n ms wr) (hl : ls.length = n) : SplitPost w n ls (.returned (.tuple #[.slice (some ⟨w.heap.size, 0, none⟩) n n, .slice (some ⟨w.heap.size + 1, 0, none⟩) n n])) wr := by
  obtain ⟨r1, l1, b1⟩ := h.ids
  obtain ⟨r2, l2, b2⟩ := h.own
  obtain rfl : r1 = [] := List.eq_nil_of_length_eq_zero (by rw [l1]; omega)
  obtain rfl : r2 = [] := List.eq_nil_of_length_eq_zero (by rw [l2]; omega)
  rw [List.append_nil] at b1 b2
  exact ⟨_, _, ms, rfl, ⟨b1, b2, fun m hm => (h.rows m hm).mono (Nat.zero_le _)⟩, h.len, by rw [h.core, List.take_of_length_le (by rw [List.length_map, hl]; exact Nat.le_refl _)], h.below⟩

set_option maxHeartbeats 3200000 in
set_option maxRecDepth 100000 in
theorem split8 (a : Option Addr) (n cap : Nat) (ls : List Line) (w : World) (h : LinesAt w a n ls) (hs : Small n ls) :
    Calls Try.prog 8 #[.slice a n cap, .bool false] w (SplitPost w n ls) := by
  have hmk1 := fun (w : World) => make_row 25 9 (.string ByteArray.empty) 1 16 Try.underlying25 info9 (by omega) w n (by have := hs.1; omega)
  have hmk3 := fun (w : World) => make_row 26 30 (.slice none 0 0) 1 24 Try.underlying26 info30 (by omega) w n (by have := hs.1; omega)
  obtain ⟨hl, hP, hR⟩ := h
  obtain ⟨hn, hsm⟩ := hs
  have Hl := hide hl
  have HP := hide hP
  have HR := hide hR
  have HS := hide hsm
  clear hl hP hR hsm
  go_enter Try.func8, Try.ntmps8
  go_wp2_with fail
  go_loopw [9] (fun i wr => ∃ k : Nat, k ≤ n ∧ i = .int .i64 k ∧ Hid (∃ ms, SOut ls n w k ms wr)) (fun i _ => n - (intOf i).toNat)
  case atStart => exact ⟨0, by omega, rfl, hide ⟨[], SOut.start ls n w⟩⟩
  case round =>
    obtain ⟨k, hk, rfl, HO⟩ := hrel
    obtain ⟨ms, hO⟩ := HO.out
    clear HO
    rename World => w1
    by_cases hlt : k < n
    · obtain ⟨b, off, rfl, hbl, hc⟩ := HP.out (by omega)
      obtain ⟨l, hL⟩ : ∃ l, ls[k]? = some l := ⟨_, List.getElem?_eq_getElem (by rw [Hl.out]; exact hlt)⟩
      have hr0 := HR.out l (List.mem_of_getElem? hL)
      have hs0 := HS.out l (List.mem_of_getElem? hL)
      have hrl := rangeAt_of_heap (hc k _ hL) (hO.below.block b hbl)
      have hblr : b < w1.heap.size := by have := hO.below.size; omega
      have hr1 := hr0.below hO.below
      obtain ⟨id, ad, ln, cp, rs⟩ := l
      obtain ⟨c0, c1⟩ := line_cells hrl
      simp only at c0 c1 hr0 hr1 hs0
      have hmk2 := fun (w : World) => make_row 30 33 zrange 2 16 Try.underlying30 info33 (by omega) w ln (by omega)
      have HO := hide hO
      have HL := hide hL
      have Hrl := hide hrl
      have Hr1 := hide hr1
      clear hO hL hrl hc HP hr0 hr1
      go_wp2_with fail
      go_loopw [12] (fun i w2 => ∃ j : Nat, j ≤ ln ∧ i = .int .i64 j ∧ CpRel rc 2 33 rs ln w1 j w2) (fun i _ => ln - (intOf i).toNat)
      case atStart => exact ⟨0, by omega, rfl, CpRel.start rc 2 33 rs ln w1 (zrow zrange (ln * 2)) (zrow_size _ _)⟩
      case round =>
        obtain ⟨j, hj, rfl, hC⟩ := hrel
        by_cases hjn : j < ln
        · obtain ⟨b2, off2, rfl, hb2, hc2⟩ := Hr1.out.cells (by omega)
          obtain ⟨r, hr⟩ : ∃ r, rs[j]? = some r := ⟨_, List.getElem?_eq_getElem (by rw [Hr1.out.1]; exact hjn)⟩
          obtain ⟨_, d1⟩ := line_cells (rangeAt_of_heap Hrl.out (hC.1.block b hblr))
          have hr2 := rangeAt_of_heap (hc2 j r hr) (hC.1.block b2 hb2)
          have ht := rc_there hC Hr1.out.1 hjn r
          have HN := hide (hC.step rc_len hr hjn)
          simp only at d1
          clear hC hr hc2 c0 c1
          go_wp2_with (first | (with_reducible refine at_load 33 ?_; refine wpList_load_mid rfl 33 (.tmp 51) rfl b2 (off2 + j * 2) rfl (rc r) _ hr2 Try.underlying33 rfl (rc_size33 r) ?_) | (with_reducible refine at_store 33 ?_; refine wpList_store_mid rfl 33 (.tmp 53) (.tmp 52) rfl w1.heap.size (j * 2) (rc r).toArray rfl rfl ht (rc_size33' r) (all_oneCell_toArray (rc_one r)) ?_))
          exact ⟨⟨j + 1, by omega, by go_num, HN.out⟩, by simp [intOf]; omega⟩
        · obtain rfl : j = ln := by omega
          have hd := hC.done Hr1.out.1
          obtain ⟨⟨⟨v1, e1⟩, f1⟩, ⟨v2, e2⟩, f2⟩ := HO.out.cells hlt hC.1
          obtain ⟨d0, _⟩ := line_cells (rangeAt_of_heap Hrl.out (hC.1.block b hblr))
          have hq := rs_of_blk hd (w.heap.size + 2) (by have := HO.out.lt; omega)
          rw [Hr1.out.1] at hq
          have HN := hide (HO.out.step (m := ⟨id, some ⟨w1.heap.size, 0, none⟩, j, j, rs⟩) HL.out rfl hlt hC.1 hq)
          simp only at d0
          clear hC hd hq c0 c1
          go_wp2_with fail
          exact ⟨⟨k + 1, by omega, by go_num, hide ⟨_, HN.out⟩⟩, by simp [intOf]; omega⟩
    · obtain rfl : k = n := by omega
      have HD := hide (hO.done Hl.out)
      clear hO
      go_wp2_with fail
      go_ret2
      exact HD.out

end Go.Proofs.Qxb6601374a
