import Derived.Test.Qxb6001162aW2
namespace Go.Proofs.Qxb6001162a
open Go.RowKit

def Inst.wf (p : Inst) : Prop := (0 ≤ p.op ∧ p.op ≤ 255) ∧ (-2147483648 ≤ p.arg ∧ p.arg ≤ 2147483647) ∧ (-2147483648 ≤ p.x ∧ p.x ≤ 2147483647) ∧ (-2147483648 ≤ p.y ∧ p.y ≤ 2147483647)

/-- What 'validProgB1' asks of one instruction. -/
def Inst.ok (n : Nat) (slots : Int) (p : Inst) : Bool :=
  if p.op = 2 then inR p.x n && inR p.y n
  else if p.op = 3 then inR p.x n && decide (0 ≤ p.arg)
  else if p.op = 4 ∨ p.op = 5 then inR p.x n && decide (0 ≤ p.arg) && decide (p.arg / 2 < slots / 2)
  else true

def valid (ps : List Inst) (slots : Int) : Bool := ps.all (Inst.ok ps.length slots)

theorem new_inst {B : Nat} {w wr : World} (hb : Below B w wr) (hB : B ≤ wr.heap.size) (z : Array Value) (hz : z.size = 10) (p : Inst) :
    ∃ W : World, (wr.alloc (.cells z 34)).setCells wr.heap.size 0 p.cells = W ∧ Below B w W ∧ Blk W wr.heap.size p.cells 34 := by
  refine ⟨_, rfl, Below.setCells _ hB _ _ _ (hb.alloc hB _), ?_⟩
  have h := Blk.new' wr z 34
  have h2 := Blk.setCells_at (vs := p.cells) (old := z.toList) (pre := []) (post := []) (o := 0) (by simpa using h) rfl (by simp [hz, Inst.cells_len])
  simpa using h2

theorem inst_cells {w : World} {b o : Nat} {op : Int} {la ch : Bool} {ar x y s0 s1 s2 s3 : Int} (h : w.rangeAt b o (Inst.cells ⟨op, la, ch, ar, x, y, s0, s1, s2, s3⟩)) :
    w.cell? ⟨b, o, none⟩ = some (.int .u8 op) ∧ w.cell? ⟨b, o + 1, none⟩ = some (.bool la) ∧ w.cell? ⟨b, o + 2, none⟩ = some (.bool ch) ∧ w.cell? ⟨b, o + 3, none⟩ = some (.int .i32 ar) ∧
    w.cell? ⟨b, o + 4, none⟩ = some (.int .i32 x) ∧ w.cell? ⟨b, o + 5, none⟩ = some (.int .i32 y) ∧ w.cell? ⟨b, o + 6, none⟩ = some (.int .u64 s0) ∧ w.cell? ⟨b, o + 7, none⟩ = some (.int .u64 s1) ∧
    w.cell? ⟨b, o + 8, none⟩ = some (.int .u64 s2) ∧ w.cell? ⟨b, o + 9, none⟩ = some (.int .u64 s3) :=
  ⟨h 0 _ rfl, h 1 _ rfl, h 2 _ rfl, h 3 _ rfl, h 4 _ rfl, h 5 _ rfl, h 6 _ rfl, h 7 _ rfl, h 8 _ rfl, h 9 _ rfl⟩

theorem valid_no {ps : List Inst} {slots : Int} {k : Nat} {p : Inst} (hp : ps[k]? = some p) (h : p.ok ps.length slots = false) : valid ps slots = false := by
  unfold valid
  rw [List.all_eq_false]
  exact ⟨p, List.mem_of_getElem? hp, by simp [h]⟩

theorem valid_yes {ps : List Inst} {slots : Int} (h : ∀ j p, j < ps.length → ps[j]? = some p → p.ok ps.length slots = true) : valid ps slots = true := by
  unfold valid
  rw [List.all_eq_true]
  intro p hp
  obtain ⟨j, hj⟩ := List.getElem?_of_mem hp
  exact h j p (List.getElem?_eq_some_iff.1 hj).1 hj

theorem ok_succ {ps : List Inst} {slots : Int} {k n : Nat} {q : Inst} (h : ∀ j p, j < k → ps[j]? = some p → p.ok n slots = true) (hq : ps[k]? = some q) (hko : q.ok n slots = true) :
    ∀ j p, j < k + 1 → ps[j]? = some p → p.ok n slots = true := by
  intro j p hj hp
  by_cases e : j = k
  · subst e; rw [hq] at hp; cases hp; exact hko
  · exact h j p (by omega) hp

set_option maxHeartbeats 1600000 in
theorem valid_any (b off n cap : Nat) (ps : List Inst) (slots : Int) (w : World) (hn : ps.length = n) (h0 : 0 < n) (hb : n ≤ 4096) (hi : Insts w b off ps) (hwf : ∀ p ∈ ps, p.wf) (hs0 : 0 ≤ slots) (hs1 : slots ≤ 65536) :
    Calls Try.prog 12 #[.slice (some ⟨b, off, none⟩) n cap, .int .i64 slots] w fun e w' => e = .returned (.bool (valid ps slots)) ∧ Below w.heap.size w w' := by
  have hblt := hi.lt (by omega)
  have hne : ((n : Int) == 0) = false := beq_eq_false_iff_ne.2 (by omega)
  have Hn : Hid (ps.length = n) := hn
  clear hn
  go_enter Try.func12, Try.ntmps12
  go_wp2_with fail
  go_loopw [6] (fun i wr => ∃ k : Nat, k ≤ n ∧ i = .int .i64 k ∧ Below w.heap.size w wr ∧ ∀ j p, j < k → ps[j]? = some p → p.ok n slots = true) (fun i _ => n - (intOf i).toNat)
  case atStart => exact ⟨0, by omega, rfl, Below.refl _ _, fun j p hj => absurd hj (by omega)⟩
  case round =>
    obtain ⟨k, hk, rfl, hC, hok⟩ := hrel
    have hsz := hC.size
    by_cases hlt : k < n
    · obtain ⟨p, hp⟩ : ∃ p, ps[k]? = some p := ⟨_, List.getElem?_eq_getElem (by rw [Hn.out]; exact hlt)⟩
      have hr : wr.rangeAt b (off + k * 10) p.cells := rangeAt_of_heap (hi k p hp) (hC.block b hblt)
      obtain ⟨⟨w1, w2⟩, ⟨w3, w4⟩, ⟨w5, w6⟩, w7, w8⟩ := hwf p (List.mem_of_getElem? hp)
      have HP : Hid (ps[k]? = some p) := hp
      clear hp
      obtain ⟨op, la, ch, ar, x, y, s0, s1, s2, s3⟩ := p
      simp only at w1 w2 w3 w4 w5 w6 w7 w8
      obtain ⟨c0, c1, c2, c3, c4, c5, c6, c7, c8, c9⟩ := inst_cells hr
      clear hr hi hwf
      by_cases h2 : op = 2
      · have e2 : (op == 2) = true := beq_iff_eq.2 h2
        have H2 : Hid (op = 2) := h2
        clear h2
        cases hx : inR x n
        · have hko : Hid (Inst.ok n slots ⟨op, la, ch, ar, x, y, s0, s1, s2, s3⟩ = false) := by simp [Hid, Inst.ok, H2.out, hx]
          go_wp2_with (go_at_call 20; refine (inRange_any _ _ _ (by omega) (by omega)).mono ?_; rintro e w' ⟨rfl, rfl⟩)
          go_ret
          exact ⟨by rw [valid_no HP.out (by rw [Hn.out]; exact hko.out)]; rfl, (hC.alloc hsz _)⟩
        · cases hy : inR y n
          · have hko : Hid (Inst.ok n slots ⟨op, la, ch, ar, x, y, s0, s1, s2, s3⟩ = false) := by simp [Hid, Inst.ok, H2.out, hx, hy]
            go_wp2_with (go_at_call 20; refine (inRange_any _ _ _ (by omega) (by omega)).mono ?_; rintro e w' ⟨rfl, rfl⟩)
            go_ret
            exact ⟨by rw [valid_no HP.out (by rw [Hn.out]; exact hko.out)]; rfl, (hC.alloc hsz _)⟩
          · have hko : Hid (Inst.ok n slots ⟨op, la, ch, ar, x, y, s0, s1, s2, s3⟩ = true) := by simp [Hid, Inst.ok, H2.out, hx, hy]
            go_wp2_with (go_at_call 20; refine (inRange_any _ _ _ (by omega) (by omega)).mono ?_; rintro e w' ⟨rfl, rfl⟩)
            go_roundw
            case rel => exact ⟨k + 1, by omega, by go_num, hC.alloc hsz _, ok_succ hok HP.out hko.out⟩
            case measure => simp [intOf]; omega
      have e2 : (op == 2) = false := beq_eq_false_iff_ne.2 h2
      have H2 : Hid (¬ op = 2) := h2
      clear h2
      by_cases h3 : op = 3
      · have e3 : (op == 3) = true := beq_iff_eq.2 h3
        have H3 : Hid (op = 3) := h3
        clear h3
        cases hx : inR x n
        · have hko : Hid (Inst.ok n slots ⟨op, la, ch, ar, x, y, s0, s1, s2, s3⟩ = false) := by simp [Hid, Inst.ok, H3.out, hx]
          go_wp2_with (go_at_call 20; refine (inRange_any _ _ _ (by omega) (by omega)).mono ?_; rintro e w' ⟨rfl, rfl⟩)
          go_ret
          exact ⟨by rw [valid_no HP.out (by rw [Hn.out]; exact hko.out)]; rfl, (hC.alloc hsz _)⟩
        · by_cases ha : 0 ≤ ar
          · have hko : Hid (Inst.ok n slots ⟨op, la, ch, ar, x, y, s0, s1, s2, s3⟩ = true) := by simp [Hid, Inst.ok, H3.out, hx, ha]
            go_wp2_with (go_at_call 20; refine (inRange_any _ _ _ (by omega) (by omega)).mono ?_; rintro e w' ⟨rfl, rfl⟩)
            go_roundw
            case rel => exact ⟨k + 1, by omega, by go_num, hC.alloc hsz _, ok_succ hok HP.out hko.out⟩
            case measure => simp [intOf]; omega
          · have hko : Hid (Inst.ok n slots ⟨op, la, ch, ar, x, y, s0, s1, s2, s3⟩ = false) := by simp [Hid, Inst.ok, H3.out, hx, ha]
            go_wp2_with (go_at_call 20; refine (inRange_any _ _ _ (by omega) (by omega)).mono ?_; rintro e w' ⟨rfl, rfl⟩)
            go_ret
            exact ⟨by rw [valid_no HP.out (by rw [Hn.out]; exact hko.out)]; rfl, (hC.alloc hsz _)⟩
      have e3 : (op == 3) = false := beq_eq_false_iff_ne.2 h3
      have H3 : Hid (¬ op = 3) := h3
      clear h3
      by_cases h4 : op = 4 ∨ op = 5
      · have H4 : Hid (op = 4 ∨ op = 5) := h4
        rcases h4 with h4 | h4
        · have e4 : (op == 4) = true := beq_iff_eq.2 h4
          have e5 : (op == 5) = false := beq_eq_false_iff_ne.2 (by omega)
          clear h4
          cases hx : inR x n
          · have hko : Hid (Inst.ok n slots ⟨op, la, ch, ar, x, y, s0, s1, s2, s3⟩ = false) := by simp [Hid, Inst.ok, H2.out, H3.out, H4.out, hx]
            go_wp2_with (go_at_call 20; refine (inRange_any _ _ _ (by omega) (by omega)).mono ?_; rintro e w' ⟨rfl, rfl⟩)
            go_ret
            exact ⟨by rw [valid_no HP.out (by rw [Hn.out]; exact hko.out)]; rfl, (hC.alloc hsz _)⟩
          · by_cases ha : 0 ≤ ar
            · by_cases hd : ar / 2 < slots / 2
              · have hko : Hid (Inst.ok n slots ⟨op, la, ch, ar, x, y, s0, s1, s2, s3⟩ = true) := by simp [Hid, Inst.ok, H2.out, H3.out, H4.out, hx, ha, hd]
                go_wp2_with (go_at_call 20; refine (inRange_any _ _ _ (by omega) (by omega)).mono ?_; rintro e w' ⟨rfl, rfl⟩)
                go_roundw
                case rel => exact ⟨k + 1, by omega, by go_num, hC.alloc hsz _, ok_succ hok HP.out hko.out⟩
                case measure => simp [intOf]; omega
              · have hko : Hid (Inst.ok n slots ⟨op, la, ch, ar, x, y, s0, s1, s2, s3⟩ = false) := by simp [Hid, Inst.ok, H2.out, H3.out, H4.out, hx, ha, hd]
                go_wp2_with (go_at_call 20; refine (inRange_any _ _ _ (by omega) (by omega)).mono ?_; rintro e w' ⟨rfl, rfl⟩)
                go_ret
                exact ⟨by rw [valid_no HP.out (by rw [Hn.out]; exact hko.out)]; rfl, (hC.alloc hsz _)⟩
            · have hko : Hid (Inst.ok n slots ⟨op, la, ch, ar, x, y, s0, s1, s2, s3⟩ = false) := by simp [Hid, Inst.ok, H2.out, H3.out, H4.out, hx, ha]
              go_wp2_with (go_at_call 20; refine (inRange_any _ _ _ (by omega) (by omega)).mono ?_; rintro e w' ⟨rfl, rfl⟩)
              go_ret
              exact ⟨by rw [valid_no HP.out (by rw [Hn.out]; exact hko.out)]; rfl, (hC.alloc hsz _)⟩
        · have e4 : (op == 4) = false := beq_eq_false_iff_ne.2 (by omega)
          have e5 : (op == 5) = true := beq_iff_eq.2 h4
          clear h4
          cases hx : inR x n
          · have hko : Hid (Inst.ok n slots ⟨op, la, ch, ar, x, y, s0, s1, s2, s3⟩ = false) := by simp [Hid, Inst.ok, H2.out, H3.out, H4.out, hx]
            go_wp2_with (go_at_call 20; refine (inRange_any _ _ _ (by omega) (by omega)).mono ?_; rintro e w' ⟨rfl, rfl⟩)
            go_ret
            exact ⟨by rw [valid_no HP.out (by rw [Hn.out]; exact hko.out)]; rfl, (hC.alloc hsz _)⟩
          · by_cases ha : 0 ≤ ar
            · by_cases hd : ar / 2 < slots / 2
              · have hko : Hid (Inst.ok n slots ⟨op, la, ch, ar, x, y, s0, s1, s2, s3⟩ = true) := by simp [Hid, Inst.ok, H2.out, H3.out, H4.out, hx, ha, hd]
                go_wp2_with (go_at_call 20; refine (inRange_any _ _ _ (by omega) (by omega)).mono ?_; rintro e w' ⟨rfl, rfl⟩)
                go_roundw
                case rel => exact ⟨k + 1, by omega, by go_num, hC.alloc hsz _, ok_succ hok HP.out hko.out⟩
                case measure => simp [intOf]; omega
              · have hko : Hid (Inst.ok n slots ⟨op, la, ch, ar, x, y, s0, s1, s2, s3⟩ = false) := by simp [Hid, Inst.ok, H2.out, H3.out, H4.out, hx, ha, hd]
                go_wp2_with (go_at_call 20; refine (inRange_any _ _ _ (by omega) (by omega)).mono ?_; rintro e w' ⟨rfl, rfl⟩)
                go_ret
                exact ⟨by rw [valid_no HP.out (by rw [Hn.out]; exact hko.out)]; rfl, (hC.alloc hsz _)⟩
            · have hko : Hid (Inst.ok n slots ⟨op, la, ch, ar, x, y, s0, s1, s2, s3⟩ = false) := by simp [Hid, Inst.ok, H2.out, H3.out, H4.out, hx, ha]
              go_wp2_with (go_at_call 20; refine (inRange_any _ _ _ (by omega) (by omega)).mono ?_; rintro e w' ⟨rfl, rfl⟩)
              go_ret
              exact ⟨by rw [valid_no HP.out (by rw [Hn.out]; exact hko.out)]; rfl, (hC.alloc hsz _)⟩
      have e4 : (op == 4) = false := beq_eq_false_iff_ne.2 (by omega)
      have e5 : (op == 5) = false := beq_eq_false_iff_ne.2 (by omega)
      have H4 : Hid (¬ (op = 4 ∨ op = 5)) := h4
      clear h4
      have hko : Hid (Inst.ok n slots ⟨op, la, ch, ar, x, y, s0, s1, s2, s3⟩ = true) := by simp [Hid, Inst.ok, H2.out, H3.out, H4.out]
      go_wp2_with (go_at_call 20; refine (inRange_any _ _ _ (by omega) (by omega)).mono ?_; rintro e w' ⟨rfl, rfl⟩)
      go_roundw
      case rel => exact ⟨k + 1, by omega, by go_num, hC.alloc hsz _, ok_succ hok HP.out hko.out⟩
      case measure => simp [intOf]; omega
    · go_wp2_with fail
      go_ret
      obtain rfl : k = n := by omega
      exact ⟨by rw [valid_yes (fun j p hj hp => by rw [Hn.out]; exact hok j p (by rw [← Hn.out]; exact hj) hp)]; rfl, hC⟩

end Go.Proofs.Qxb6001162a
