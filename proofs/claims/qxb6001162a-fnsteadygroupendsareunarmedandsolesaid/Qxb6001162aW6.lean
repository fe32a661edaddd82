import Derived.Test.Qxb6001162aW5
namespace Go.Proofs.Qxb6001162a
open Go.RowKit

theorem insts_of_blk {w : World} {g t : Nat} {ps : List Inst} (h : Blk w g (ps.flatMap Inst.cells) t) : Insts w g 0 ps := by
  intro i p hp
  have hi := (List.getElem?_eq_some_iff.1 hp).1
  have e : ps.flatMap Inst.cells = (ps.take i).flatMap Inst.cells ++ p.cells ++ (ps.drop (i + 1)).flatMap Inst.cells := by
    rw [← flat_take_succ _ _ _ _ hp, ← List.flatMap_append, List.take_append_drop]
  rw [e] at h
  refine h.range_at ?_
  rw [flat_len _ 10 Inst.cells_len, List.length_take]; omega

attribute [local go_sem ↓] Go.wp_at_zero Go.wp_at_succ
set_option maxHeartbeats 1600000 in
theorem build_any (b off n cap : Nat) (ps : List Inst) (start slots : Int) (w : World) (hn : ps.length = n) (h0 : 0 < n) (hb : n ≤ 4096) (hi : Insts w b off ps) :
    Calls Try.prog 16 #[.slice (some ⟨b, off, none⟩) n cap, .int .i32 start, .int .i64 slots] w fun e w' => ∃ x g sb, e = .returned (.pointer (some ⟨x, 0, none⟩)) ∧ Below w.heap.size w w' ∧ Ere w' w'.heap.size x g sb ps start slots := by
  have hmk : ∀ w, (Instr.makeSlice 51 (.int .i64 n) (.int .i64 n)).run Try.prog w = .ok (.slice (some ⟨w.heap.size, 0, none⟩) n n) (w.alloc (.cells (zeros34 n) 52)) := by
    intro w
    obtain ⟨i0, hi, hz0, hz1, hz2⟩ := info_parts info52
    have := run_make (P := Try.prog) w 51 52 i0 zero34 Try.underlying51 hi hz0 .i64 .i64 n n (by omega) (by omega) (by rw [hz2]; omega) (by omega)
    rw [this, hz1]; rfl
  have hblt := hi.lt (by omega)
  have Hn : Hid (ps.length = n) := hn
  clear hn
  go_enter Try.func16, Try.ntmps16
  go_wp2_with fail
  go_loopw [8] (fun i wr => ∃ k : Nat, k ≤ n ∧ i = .int .i64 k ∧ CpRel Inst.cells 10 52 ps n w k wr) (fun i _ => n - (intOf i).toNat)
  case atStart => exact ⟨0, by omega, rfl, CpRel.start _ _ _ ps n w _ (by simp [zeros34, size_madeCells])⟩
  case round =>
    obtain ⟨k, hk, rfl, hC⟩ := hrel
    by_cases hlt : k < n
    · obtain ⟨p, hp⟩ : ∃ p, ps[k]? = some p := ⟨_, List.getElem?_eq_getElem (by rw [Hn.out]; exact hlt)⟩
      have hr : wr.rangeAt b (off + k * 10) p.cells := rangeAt_of_heap (hi k p hp) (hC.1.block b hblt)
      have ht : wr.there w.heap.size (k * 10) 10 := hC.there Inst.cells_len Hn.out hlt
      have hs := (hC.step Inst.cells_len hp hlt).drew
      have HP : Hid (ps[k]? = some p) := hp
      clear hp hC hi
      obtain ⟨op, la, ch, ar, x, y, s0, s1, s2, s3⟩ := p
      obtain ⟨c0, c1, c2, c3, c4, c5, c6, c7, c8, c9⟩ := inst_cells hr
      obtain ⟨v0, v1, v2, v3, v4, v5, v6, v7, v8, v9, ⟨d0, d1, d2, d3, d4, d5, d6, d7, d8, d9⟩, f0, f1, f2, f3, f4, f5, f6, f7, f8, f9⟩ := there_cells10 ht
      clear hr ht
      have hne1 : ¬ w.heap.size = b := by omega
      have hne2 : ¬ b = w.heap.size := by omega
      have hk0 : (0 : Int) ≤ (k : Int) := by omega
      have hk1 : (k : Int) < (n : Int) := by omega
      have Hs := hide hs
      clear hs
      go_wp2_with fail
      go_region_held3 (fun w' => w'.cell? ⟨b, off + k * 10, none⟩ = some (.int .u8 op) ∧ w'.cell? ⟨b, off + k * 10 + 1, none⟩ = some (.bool la) ∧ w'.cell? ⟨b, off + k * 10 + 2, none⟩ = some (.bool ch) ∧ w'.cell? ⟨b, off + k * 10 + 3, none⟩ = some (.int .i32 ar) ∧
        w'.cell? ⟨b, off + k * 10 + 4, none⟩ = some (.int .i32 x) ∧ w'.cell? ⟨b, off + k * 10 + 5, none⟩ = some (.int .i32 y) ∧ w'.cell? ⟨b, off + k * 10 + 6, none⟩ = some (.int .u64 s0) ∧ w'.cell? ⟨b, off + k * 10 + 7, none⟩ = some (.int .u64 s1) ∧
        w'.cell? ⟨b, off + k * 10 + 8, none⟩ = some (.int .u64 s2) ∧ w'.cell? ⟨b, off + k * 10 + 9, none⟩ = some (.int .u64 s3)) (go_keep) (fail)
      rename_i hHeld
      clear hHeld
      go_wp2_with fail
      go_roundw
      case rel => exact ⟨k + 1, by omega, by go_num, Hs.out⟩
      case measure => simp [intOf]; omega
    · go_wp2_with fail
      obtain rfl : k = n := by omega
      have hI := insts_of_blk (hC.done Hn.out)
      refine (newEre_any w.heap.size 0 k k ps start slots wr Hn.out h0 hb hI).mono ?_
      rintro e w' ⟨x, g, sb, rfl, hb1, hE⟩
      have Hb := hide (hC.1.trans (hb1.mono hC.1.size))
      have HE := hide hE
      clear hb1 hE hC hI hi
      go_wp2_with fail
      go_ret
      exact ⟨x, g, sb, rfl, Hb.out, HE.out⟩

end Go.Proofs.Qxb6001162a
