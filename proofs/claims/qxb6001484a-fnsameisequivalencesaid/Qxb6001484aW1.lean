import Derived.Test.Qxb6001484aRows
import Derived.WalkKit
import Derived.WalkSpells
import Derived.WalkLawsBesides
import Derived.Handy
import Derived.Test.Qxb6001484aMem
namespace Go.Proofs.Qxb6001484a
open Go.RowKit

/-! ### 'codeLength' -/
def dig (c : Int) : Bool := decide (48 ≤ c) && decide (c ≤ 57)

theorem isDigit_any (c : Int) (w : World) : Calls Try.prog 21 #[.int .u8 c] w fun e w' => e = .returned (.bool (dig c)) ∧ w = w' := by
  unfold dig
  by_cases h : 48 ≤ c
  · go_enter Try.func21, Try.ntmps21
    go_wp2
    go_ret
    exact ⟨by simp [h], rfl⟩
  · go_enter Try.func21, Try.ntmps21
    go_wp2
    go_ret
    exact ⟨by simp; omega, rfl⟩

/-- The bytes 'bs' lie from offset 'off' of block 'b' on. -/
def Bytes (w : World) (b off : Nat) (bs : List Int) : Prop := ∀ i v, bs[i]? = some v → w.cell? ⟨b, off + i, none⟩ = some (.int .u8 v)

def two (b1 : Int) : Prop := 64 ≤ b1 ∧ b1 ≤ 254 ∧ ¬ b1 = 127
def four (b1 b2 b3 : Int) : Prop := (48 ≤ b1 ∧ b1 ≤ 57) ∧ (129 ≤ b2 ∧ b2 ≤ 254) ∧ 48 ≤ b3 ∧ b3 ≤ 57

/-- The length of the code that a text opens with. -/
def codeLen : List Int → Int
  | [] => 0
  | b0 :: r => if b0 < 128 then 1 else if b0 = 128 ∨ b0 = 255 then 0 else match r with
    | [] => 0
    | b1 :: r1 => if 64 ≤ b1 ∧ b1 ≤ 254 ∧ ¬ b1 = 127 then 2 else match r1 with
      | b2 :: b3 :: _ => if (48 ≤ b1 ∧ b1 ≤ 57) ∧ (129 ≤ b2 ∧ b2 ≤ 254) ∧ 48 ≤ b3 ∧ b3 ≤ 57 then 4 else 0
      | _ => 0

def CodePost (z : Int) (w : World) (e : Ending) (w' : World) : Prop := e = .returned (.int .i64 z) ∧ w = w'

set_option maxHeartbeats 1600000 in
theorem codeLength_any (b off n cap : Nat) (bs : List Int) (w : World) (hn : bs.length = n) (h0 : 0 < n) (hm : n ≤ 1048576) (hb : Bytes w b off bs) (hr : ∀ v ∈ bs, 0 ≤ v ∧ v ≤ 255) :
    Calls Try.prog 19 #[.slice (some ⟨b, off, none⟩) n cap] w (CodePost (codeLen bs) w) := by
  match bs, hn with
  | [], hn => simp at hn; omega
  | b0 :: r, hn =>
    have hb0 := hr b0 (by simp)
    have c0 : w.cell? ⟨b, off, none⟩ = some (.int .u8 b0) := hb 0 b0 rfl
    by_cases t0 : b0 < 128
    · have e : codeLen (b0 :: r) = 1 := by simp [codeLen, t0]
      rw [e]
      clear e hb hr hn
      go_enter Try.func19, Try.ntmps19
      go_wp2_with fail
      go_ret
      exact ⟨rfl, rfl⟩
    by_cases t1 : b0 = 128
    · have e : codeLen (b0 :: r) = 0 := by simp [codeLen, t1]
      rw [e]
      have e1 : (b0 == 128) = true := beq_iff_eq.2 t1
      clear e hb hr hn t1
      go_enter Try.func19, Try.ntmps19
      go_wp2_with fail
      go_ret
      exact ⟨rfl, rfl⟩
    have e1 : (b0 == 128) = false := beq_eq_false_iff_ne.2 t1
    by_cases t2 : b0 = 255
    · have e : codeLen (b0 :: r) = 0 := by simp [codeLen, t2]
      rw [e]
      have e2 : (b0 == 255) = true := beq_iff_eq.2 t2
      clear e hb hr hn t1 t2
      go_enter Try.func19, Try.ntmps19
      go_wp2_with fail
      go_ret
      exact ⟨rfl, rfl⟩
    have e2 : (b0 == 255) = false := beq_eq_false_iff_ne.2 t2
    match r, hn with
    | [], hn =>
      have e : codeLen [b0] = 0 := by simp [codeLen, t0, t1, t2]
      rw [e]
      simp at hn
      subst hn
      clear e hb hr t1 t2
      go_enter Try.func19, Try.ntmps19
      go_wp2_with fail
      go_ret
      exact ⟨rfl, rfl⟩
    | b1 :: r1, hn =>
      have hb1 := hr b1 (by simp)
      have c1 : w.cell? ⟨b, off + 1, none⟩ = some (.int .u8 b1) := hb 1 b1 rfl
      have hn2 : 2 ≤ n := by simp at hn; omega
      by_cases t3 : 64 ≤ b1 ∧ b1 ≤ 254 ∧ ¬ b1 = 127
      · have e : codeLen (b0 :: b1 :: r1) = 2 := by simp [codeLen, t0, t1, t2, t3]
        rw [e]
        obtain ⟨t4, t5, t6⟩ := t3
        have e3 : (b1 != 127) = true := by simp [t6]
        clear e hb hr hn t1 t2 t6
        go_enter Try.func19, Try.ntmps19
        go_wp2_with fail
        go_ret
        exact ⟨rfl, rfl⟩
      · by_cases t4 : 64 ≤ b1
        · by_cases t5 : b1 ≤ 254
          · have t6 : b1 = 127 := by omega
            have e3 : (b1 != 127) = false := by simp [t6]
            have T6 := hide t6
            clear t6
            by_cases t7 : 4 ≤ n
            · obtain ⟨b2, b3, r3, rfl⟩ : ∃ b2 b3 r3, r1 = b2 :: b3 :: r3 := by
                match r1, hn with
                | [], hn => simp at hn; omega
                | [_], hn => simp at hn; omega
                | b2 :: b3 :: r3, _ => exact ⟨b2, b3, r3, rfl⟩
              have hb2 := hr b2 (by simp)
              have hb3 := hr b3 (by simp)
              have c2 : w.cell? ⟨b, off + 2, none⟩ = some (.int .u8 b2) := hb 2 b2 rfl
              have c3 : w.cell? ⟨b, off + 3, none⟩ = some (.int .u8 b3) := hb 3 b3 rfl
              cases d1 : dig b1
              · have e : codeLen (b0 :: b1 :: b2 :: b3 :: r3) = 0 := by
                  simp [dig] at d1
                  simp [codeLen, t0, t1, t2, t3]; omega
                rw [e]
                clear e hb hr hn t1 t2 t3
                go_enter Try.func19, Try.ntmps19
                go_wp2_with (go_at_call 21; refine (isDigit_any _ _).mono ?_; rintro e w' ⟨rfl, rfl⟩)
                go_ret
                exact ⟨rfl, rfl⟩
              · by_cases t8 : 129 ≤ b2
                · by_cases t9 : b2 ≤ 254
                  · cases d3 : dig b3
                    · have e : codeLen (b0 :: b1 :: b2 :: b3 :: r3) = 0 := by
                        simp [dig] at d1 d3
                        simp [codeLen, t0, t1, t2, t3]; omega
                      rw [e]
                      clear e hb hr hn t1 t2 t3
                      go_enter Try.func19, Try.ntmps19
                      go_wp2_with (go_at_call 21; refine (isDigit_any _ _).mono ?_; rintro e w' ⟨rfl, rfl⟩)
                      go_ret
                      exact ⟨rfl, rfl⟩
                    · have e : codeLen (b0 :: b1 :: b2 :: b3 :: r3) = 4 := by
                        simp [dig] at d1 d3
                        simp [codeLen, t0, t1, t2, t3, t8, t9, d1, d3]
                      rw [e]
                      clear e hb hr hn t1 t2 t3
                      go_enter Try.func19, Try.ntmps19
                      go_wp2_with (go_at_call 21; refine (isDigit_any _ _).mono ?_; rintro e w' ⟨rfl, rfl⟩)
                      go_ret
                      exact ⟨rfl, rfl⟩
                  · have e : codeLen (b0 :: b1 :: b2 :: b3 :: r3) = 0 := by
                      simp [codeLen, t0, t1, t2, t3]; omega
                    rw [e]
                    clear e hb hr hn t1 t2 t3
                    go_enter Try.func19, Try.ntmps19
                    go_wp2_with (go_at_call 21; refine (isDigit_any _ _).mono ?_; rintro e w' ⟨rfl, rfl⟩)
                    go_ret
                    exact ⟨rfl, rfl⟩
                · have e : codeLen (b0 :: b1 :: b2 :: b3 :: r3) = 0 := by
                    simp [codeLen, t0, t1, t2, t3]; omega
                  rw [e]
                  clear e hb hr hn t1 t2 t3
                  go_enter Try.func19, Try.ntmps19
                  go_wp2_with (go_at_call 21; refine (isDigit_any _ _).mono ?_; rintro e w' ⟨rfl, rfl⟩)
                  go_ret
                  exact ⟨rfl, rfl⟩
            · have e : codeLen (b0 :: b1 :: r1) = 0 := by
                match r1, hn with
                | [], hn => simp [codeLen, t0, t1, t2, t3]
                | [_], hn => simp [codeLen, t0, t1, t2, t3]
                | b2 :: b3 :: r3, hn => simp at hn; omega
              rw [e]
              clear e hb hr hn t1 t2 t3
              go_enter Try.func19, Try.ntmps19
              go_wp2_with (go_at_call 21; refine (isDigit_any _ _).mono ?_; rintro e w' ⟨rfl, rfl⟩)
              go_ret
              exact ⟨rfl, rfl⟩
          · have t55 : 254 < b1 := by omega
            by_cases t7 : 4 ≤ n
            · obtain ⟨b2, b3, r3, rfl⟩ : ∃ b2 b3 r3, r1 = b2 :: b3 :: r3 := by
                match r1, hn with
                | [], hn => simp at hn; omega
                | [_], hn => simp at hn; omega
                | b2 :: b3 :: r3, _ => exact ⟨b2, b3, r3, rfl⟩
              have hb2 := hr b2 (by simp)
              have hb3 := hr b3 (by simp)
              have c2 : w.cell? ⟨b, off + 2, none⟩ = some (.int .u8 b2) := hb 2 b2 rfl
              have c3 : w.cell? ⟨b, off + 3, none⟩ = some (.int .u8 b3) := hb 3 b3 rfl
              cases d1 : dig b1
              · have e : codeLen (b0 :: b1 :: b2 :: b3 :: r3) = 0 := by
                  simp [dig] at d1
                  simp [codeLen, t0, t1, t2, t3]; omega
                rw [e]
                clear e hb hr hn t1 t2 t3
                go_enter Try.func19, Try.ntmps19
                go_wp2_with (go_at_call 21; refine (isDigit_any _ _).mono ?_; rintro e w' ⟨rfl, rfl⟩)
                go_ret
                exact ⟨rfl, rfl⟩
              · by_cases t8 : 129 ≤ b2
                · by_cases t9 : b2 ≤ 254
                  · cases d3 : dig b3
                    · have e : codeLen (b0 :: b1 :: b2 :: b3 :: r3) = 0 := by
                        simp [dig] at d1 d3
                        simp [codeLen, t0, t1, t2, t3]; omega
                      rw [e]
                      clear e hb hr hn t1 t2 t3
                      go_enter Try.func19, Try.ntmps19
                      go_wp2_with (go_at_call 21; refine (isDigit_any _ _).mono ?_; rintro e w' ⟨rfl, rfl⟩)
                      go_ret
                      exact ⟨rfl, rfl⟩
                    · have e : codeLen (b0 :: b1 :: b2 :: b3 :: r3) = 4 := by
                        simp [dig] at d1 d3
                        simp [codeLen, t0, t1, t2, t3, t8, t9, d1, d3]
                      rw [e]
                      clear e hb hr hn t1 t2 t3
                      go_enter Try.func19, Try.ntmps19
                      go_wp2_with (go_at_call 21; refine (isDigit_any _ _).mono ?_; rintro e w' ⟨rfl, rfl⟩)
                      go_ret
                      exact ⟨rfl, rfl⟩
                  · have e : codeLen (b0 :: b1 :: b2 :: b3 :: r3) = 0 := by
                      simp [codeLen, t0, t1, t2, t3]; omega
                    rw [e]
                    clear e hb hr hn t1 t2 t3
                    go_enter Try.func19, Try.ntmps19
                    go_wp2_with (go_at_call 21; refine (isDigit_any _ _).mono ?_; rintro e w' ⟨rfl, rfl⟩)
                    go_ret
                    exact ⟨rfl, rfl⟩
                · have e : codeLen (b0 :: b1 :: b2 :: b3 :: r3) = 0 := by
                    simp [codeLen, t0, t1, t2, t3]; omega
                  rw [e]
                  clear e hb hr hn t1 t2 t3
                  go_enter Try.func19, Try.ntmps19
                  go_wp2_with (go_at_call 21; refine (isDigit_any _ _).mono ?_; rintro e w' ⟨rfl, rfl⟩)
                  go_ret
                  exact ⟨rfl, rfl⟩
            · have e : codeLen (b0 :: b1 :: r1) = 0 := by
                match r1, hn with
                | [], hn => simp [codeLen, t0, t1, t2, t3]
                | [_], hn => simp [codeLen, t0, t1, t2, t3]
                | b2 :: b3 :: r3, hn => simp at hn; omega
              rw [e]
              clear e hb hr hn t1 t2 t3
              go_enter Try.func19, Try.ntmps19
              go_wp2_with (go_at_call 21; refine (isDigit_any _ _).mono ?_; rintro e w' ⟨rfl, rfl⟩)
              go_ret
              exact ⟨rfl, rfl⟩
        · have t44 : b1 < 64 := by omega
          by_cases t7 : 4 ≤ n
          · obtain ⟨b2, b3, r3, rfl⟩ : ∃ b2 b3 r3, r1 = b2 :: b3 :: r3 := by
              match r1, hn with
              | [], hn => simp at hn; omega
              | [_], hn => simp at hn; omega
              | b2 :: b3 :: r3, _ => exact ⟨b2, b3, r3, rfl⟩
            have hb2 := hr b2 (by simp)
            have hb3 := hr b3 (by simp)
            have c2 : w.cell? ⟨b, off + 2, none⟩ = some (.int .u8 b2) := hb 2 b2 rfl
            have c3 : w.cell? ⟨b, off + 3, none⟩ = some (.int .u8 b3) := hb 3 b3 rfl
            cases d1 : dig b1
            · have e : codeLen (b0 :: b1 :: b2 :: b3 :: r3) = 0 := by
                simp [dig] at d1
                simp [codeLen, t0, t1, t2, t3]; omega
              rw [e]
              clear e hb hr hn t1 t2 t3
              go_enter Try.func19, Try.ntmps19
              go_wp2_with (go_at_call 21; refine (isDigit_any _ _).mono ?_; rintro e w' ⟨rfl, rfl⟩)
              go_ret
              exact ⟨rfl, rfl⟩
            · by_cases t8 : 129 ≤ b2
              · by_cases t9 : b2 ≤ 254
                · cases d3 : dig b3
                  · have e : codeLen (b0 :: b1 :: b2 :: b3 :: r3) = 0 := by
                      simp [dig] at d1 d3
                      simp [codeLen, t0, t1, t2, t3]; omega
                    rw [e]
                    clear e hb hr hn t1 t2 t3
                    go_enter Try.func19, Try.ntmps19
                    go_wp2_with (go_at_call 21; refine (isDigit_any _ _).mono ?_; rintro e w' ⟨rfl, rfl⟩)
                    go_ret
                    exact ⟨rfl, rfl⟩
                  · have e : codeLen (b0 :: b1 :: b2 :: b3 :: r3) = 4 := by
                      simp [dig] at d1 d3
                      simp [codeLen, t0, t1, t2, t3, t8, t9, d1, d3]
                    rw [e]
                    clear e hb hr hn t1 t2 t3
                    go_enter Try.func19, Try.ntmps19
                    go_wp2_with (go_at_call 21; refine (isDigit_any _ _).mono ?_; rintro e w' ⟨rfl, rfl⟩)
                    go_ret
                    exact ⟨rfl, rfl⟩
                · have e : codeLen (b0 :: b1 :: b2 :: b3 :: r3) = 0 := by
                    simp [codeLen, t0, t1, t2, t3]; omega
                  rw [e]
                  clear e hb hr hn t1 t2 t3
                  go_enter Try.func19, Try.ntmps19
                  go_wp2_with (go_at_call 21; refine (isDigit_any _ _).mono ?_; rintro e w' ⟨rfl, rfl⟩)
                  go_ret
                  exact ⟨rfl, rfl⟩
              · have e : codeLen (b0 :: b1 :: b2 :: b3 :: r3) = 0 := by
                  simp [codeLen, t0, t1, t2, t3]; omega
                rw [e]
                clear e hb hr hn t1 t2 t3
                go_enter Try.func19, Try.ntmps19
                go_wp2_with (go_at_call 21; refine (isDigit_any _ _).mono ?_; rintro e w' ⟨rfl, rfl⟩)
                go_ret
                exact ⟨rfl, rfl⟩
          · have e : codeLen (b0 :: b1 :: r1) = 0 := by
              match r1, hn with
              | [], hn => simp [codeLen, t0, t1, t2, t3]
              | [_], hn => simp [codeLen, t0, t1, t2, t3]
              | b2 :: b3 :: r3, hn => simp at hn; omega
            rw [e]
            clear e hb hr hn t1 t2 t3
            go_enter Try.func19, Try.ntmps19
            go_wp2_with (go_at_call 21; refine (isDigit_any _ _).mono ?_; rintro e w' ⟨rfl, rfl⟩)
            go_ret
            exact ⟨rfl, rfl⟩

end Go.Proofs.Qxb6001484a
