import Derived.Test.Qxb6001162aW12
import Derived.Test.Qxb6001162aW6
namespace Go.Proofs.Qxb6001162a
open Go.RowKit

def zeros21 (n : Nat) : Array Value := madeCells #[.int .i32 0] n
theorem make_ints (w : World) (n : Nat) (hn : n ≤ 1000000) :
    (Instr.makeSlice 38 (.int .i64 (n : Int)) (.int .i64 (n : Int))).run Try.prog w = .ok (.slice (some ⟨w.heap.size, 0, none⟩) n n) (w.alloc (.cells (zeros21 n) 21)) := by
  obtain ⟨i0, hi, hz0, hz1, hz2⟩ := info_parts info21
  have := run_make (P := Try.prog) w 38 21 i0 (.int .i32 0) Try.underlying38 hi hz0 .i64 .i64 n n (by omega) (by omega) (by rw [hz2]; omega) (by omega)
  rw [this, hz1, Nat.mul_one]; rfl

def i32c (u : Int) : List Value := [.int .i32 u]
theorem i32c_flat (l : List Int) : l.flatMap i32c = i32s l := by
  induction l with
  | nil => rfl
  | cons a r ih => rw [List.flatMap_cons, ih]; rfl

def ZPost (G : Int → Prop) (ps : List Inst) (m B : Nat) (w0 : Int) (w : World) (e : Ending) (w' : World) : Prop :=
  ∃ gb ge ways ends, e = .returned (.tuple #[if (ways.any fun v => opAt ps v == 0) = true then .pointer none else .pointer (some ⟨gb, 0, none⟩), .slice (some ⟨ge, 0, none⟩) m m]) ∧
    ends.length = m ∧ EndsOk ps ends ways ∧ Below B w w' ∧ Blk w' gb (wordCells (orAll ps ways)) 67 ∧ Blk w' ge (i32s ends) 21 ∧ (∀ u ∈ ways, G u) ∧ w0 ∈ ways

theorem zpost_end {G : Int → Prop} {ps : List Inst} {m B : Nat} {w0 : Int} {w w1 wr : World} {wv : Value} {gb : Nat} {ways ends : List Int} (hl : ends.length = m) (he : EndsOk ps ends ways) (hM : FMem B w wv gb ways (orAll ps ways) ends w1) (hg : ∀ u ∈ ways, G u) (h0 : w0 ∈ ways) (hB : B ≤ w.heap.size)
    (hC : CpRel i32c 1 21 ends m w1 m wr) (bv : Value) (hbv : bv = if (ways.any fun v => opAt ps v == 0) = true then .pointer none else .pointer (some ⟨gb, 0, none⟩)) :
    ZPost G ps m B w0 w (.returned (.tuple #[bv, .slice (some ⟨w1.heap.size, 0, none⟩) m m])) wr := by
  have hd := hC.done hl
  rw [i32c_flat] at hd
  exact ⟨gb, w1.heap.size, ways, ends, by rw [hbv], hl, he, hM.below.trans (hC.1.mono (by have := hM.size; have := hM.lo; omega)), hM.begB.below hC.1 hM.begB.lt, hd, hg, h0⟩

set_option maxHeartbeats 1600000 in
set_option maxRecDepth 100000 in
theorem zFirst_any (B x g : Nat) (sb : Nat → Nat) (ps : List Inst) (start slots : Int) (G : Int → Prop) (n m : Nat) (w : World) (c : SCtx B x g sb ps start slots G n m w) (hws : Hid (∀ p ∈ ps, p.wfs)) (hn0 : 0 < n) (hn1 : n ≤ 4096) (hs0 : 0 ≤ slots) (hs1 : slots ≤ 65536) :
    Calls Try.prog 21 #[.pointer (some ⟨x, 0, none⟩)] w (ZPost G ps m B (start * 2) w) := by
  have hB := c.hB
  have hmB : m ≤ 32768 := by have := c.hm; omega
  have hmk1 := fun (w : World) => make_ints w m (by omega)
  go_enter Try.func21, Try.ntmps21
  go_wp2_with fail
  refine (firstState_any B x g sb ps start slots G n m w c hws hn0 hn1 hs0 hs1).mono ?_
  rintro e w1 ⟨wv, gb, ways, ends, rfl, hl, he, hM, hg, h0⟩
  have HZ := hide (fun wr bv hC hbv => zpost_end (wr := wr) hl he hM hg h0 hB hC bv hbv)
  have HeB := hide hM.endB
  have Hl := hide hl
  clear hl he hM hg h0
  generalize hbv : (if (ways.any fun v => opAt ps v == 0) = true then Value.pointer none else Value.pointer (some ⟨gb, 0, none⟩)) = bv at HZ
  have Hbv := hide hbv
  clear hbv
  go_wp2_with fail
  go_loopw [18] (fun i wr => ∃ k : Nat, k ≤ m ∧ i = .int .i64 k ∧ CpRel i32c 1 21 ends m w1 k wr) (fun i _ => m - (intOf i).toNat)
  case atStart => exact ⟨0, by omega, rfl, CpRel.start _ _ _ ends m w1 _ (by simp [zeros21, size_madeCells])⟩
  case round =>
    obtain ⟨k, hk, rfl, hC⟩ := hrel
    by_cases hlt : k < m
    · obtain ⟨u, hu⟩ : ∃ u, ends[k]? = some u := ⟨_, List.getElem?_eq_getElem (by rw [Hl.out]; exact hlt)⟩
      have hcu := (HeB.out.below hC.1 HeB.out.lt).cell (j := k) (v := .int .i32 u) (by unfold i32s; rw [List.getElem?_map, hu]; rfl)
      have ht := (hC.there (sz := 1) (fun _ => rfl) Hl.out hlt) 0 Nat.one_pos
      obtain ⟨o0, ho0⟩ := Option.isSome_iff_exists.1 ht.1
      have ht2 := ht.2
      rw [Nat.mul_one, Nat.add_zero] at ho0 ht2
      have hN := CpRel.step (f := i32c) (sz := 1) (fun _ => rfl) hC hu hlt
      rw [Nat.mul_one] at hN
      have HN := hide hN
      clear hC hN ht hu
      go_wp2_with fail
      exact ⟨⟨k + 1, by omega, by go_num, HN.out⟩, by simp [intOf]; omega⟩
    · obtain rfl : k = m := by omega
      have HN := hide hC
      clear hC
      go_wp2_with fail
      go_ret2
      exact HZ.out _ bv HN.out rfl

end Go.Proofs.Qxb6001162a
