import Derived.Test.Qxb6601374aW9
namespace Go.Proofs.Qxb6601374a
open Go.RowKit

/-- The search from the last line on: found, or not among those behind the first 'm'. -/
def Seek (cs : List Core) (s : Int) (m : Nat) (b : Bool) (wt : ByteArray) : Prop := (b = true → wt = owner cs s) ∧ (b = false → wt = ByteArray.empty ∧ owner cs s = owner (cs.take m) s)
/-- The search within a line. -/
def Look (id : ByteArray) (rs : List Rg) (s : Int) (j : Nat) (b : Bool) (wt : ByteArray) : Prop := (b = true → wt = id ∧ hits (id, rs) s = true) ∧ (b = false → wt = ByteArray.empty ∧ hits (id, rs.take j) s = false)

theorem seek_next {cs : List Core} {s : Int} {m : Nat} {id : ByteArray} {rs : List Rg} {b : Bool} {wt : ByteArray} (h : owner cs s = owner (cs.take (m + 1)) s) (hk : cs[m]? = some (id, rs)) (hL : Look id rs s rs.length b wt) : Seek cs s m b wt := by
  rw [take_snoc hk, owner_snoc] at h
  refine ⟨fun hb => ?_, fun hb => ?_⟩
  · obtain ⟨h1, h2⟩ := hL.1 hb
    rw [if_pos h2] at h
    rw [h1, h]
  · obtain ⟨h1, h2⟩ := hL.2 hb
    rw [List.take_length] at h2
    rw [h2] at h
    exact ⟨h1, h⟩

theorem seek_start {cs : List Core} {s : Int} {n : Nat} (h : cs.length ≤ n) : Seek cs s n false ByteArray.empty :=
  ⟨(fun h => nomatch h), fun _ => ⟨rfl, by rw [List.take_of_length_le h]⟩⟩
theorem look_start (id : ByteArray) (rs : List Rg) (s : Int) : Look id rs s 0 false ByteArray.empty := ⟨(fun h => nomatch h), fun _ => ⟨rfl, rfl⟩⟩
theorem seek_done {cs : List Core} {s : Int} {b : Bool} {wt : ByteArray} (h : Seek cs s 0 b wt) : owner cs s = wt := by
  cases b
  · rw [(h.2 rfl).1, (h.2 rfl).2]; rfl
  · exact (h.1 rfl).symm

theorem look_hit {id : ByteArray} {rs : List Rg} {s : Int} {j : Nat} {r : Rg} (hr : rs[j]? = some r) (h : r.1 ≤ s ∧ s ≤ r.2) : Look id rs s (j + 1) true id :=
  ⟨fun _ => ⟨rfl, List.any_eq_true.2 ⟨r, List.mem_of_getElem? hr, decide_eq_true h⟩⟩, fun h => by cases h⟩
theorem look_miss {id : ByteArray} {rs : List Rg} {s : Int} {j : Nat} {r : Rg} {wt : ByteArray} (hr : rs[j]? = some r) (h : ¬ (r.1 ≤ s ∧ s ≤ r.2)) (hL : Look id rs s j false wt) : Look id rs s (j + 1) false wt :=
  ⟨fun h => (by cases h), fun _ => ⟨(hL.2 rfl).1, by rw [take_snoc hr, hits_snoc, (hL.2 rfl).2, decide_eq_false h]; rfl⟩⟩
theorem look_end {id : ByteArray} {rs : List Rg} {s : Int} {j : Nat} {b : Bool} {wt : ByteArray} (h : Look id rs s j b wt) (hj : b = true ∨ rs.length ≤ j) : Look id rs s rs.length b wt := by
  refine ⟨h.1, fun hb => ⟨(h.2 hb).1, ?_⟩⟩
  rcases hj with e | e
  · rw [hb] at e; cases e
  · have := (h.2 hb).2
    rw [List.take_of_length_le e] at this
    rw [List.take_length]; exact this

theorem small_of {w : World} {a : Option Addr} {n : Nat} {ms ls : List Line} (hm : ∀ m ∈ ms, RsAt w 0 m.ad m.len m.rs) {w' : World} (h : LinesAt w' a n ls) (hs : ∀ l ∈ ls, l.len ≤ 65536) (hc : ms.map Line.core = ls.map Line.core) : ∀ m ∈ ms, m.len ≤ 65536 := by
  intro m hm'
  obtain ⟨l, hl, e⟩ := of_cores hc hm'
  have h1 := (hm m hm').1
  have h2 := (h.2.2 l hl).1
  have h3 := hs l hl
  rw [e] at h1
  omega

set_option maxHeartbeats 6400000 in
set_option maxRecDepth 100000 in
theorem law3_any (a : Option Addr) (n cap : Nat) (ls : List Line) (w : World) (h : LinesAt w a n ls) :
    Calls Try.prog 3 #[.slice a n cap] w fun e w' => e = .returned (.bool true) ∧ Below w.heap.size w w' := by
  have H := hide h
  have H4 := hide (bytes4 a n cap ls w h)
  have H5 := hide (big5 a n cap ls w h)
  clear h
  go_enter Try.func3, Try.ntmps3
  go_wp2_with fail
  refine H4.out.mono ?_
  rintro e w' ⟨b4, rfl, rfl⟩
  clear H4
  cases b4
  · go_wp2_with fail
    go_ret
    exact ⟨rfl, Below.refl _ _⟩
  go_wp2_with fail
  refine H5.out.mono ?_
  rintro e w1 ⟨b5, rfl, hb1, hs⟩
  have Hb1 := hide hb1
  clear H5 hb1
  cases b5
  case true =>
    clear hs
    go_wp2_with fail
    go_ret
    exact ⟨rfl, Hb1.out⟩
  have HS := hide (hs rfl)
  have H1 := hide (H.out.below Hb1.out)
  clear hs
  go_wp2_with fail
  refine (dom6 a n cap ls w1 H1.out HS.out).mono ?_
  rintro e w2 ⟨b6, rfl, hb2, hd⟩
  have Hb2 := hide (Hb1.out.trans (hb2.mono Hb1.out.size))
  have H2 := hide (H1.out.below hb2)
  clear hb2 Hb1 H1
  cases b6
  · clear hd
    go_wp2_with fail
    go_ret
    exact ⟨rfl, Hb2.out⟩
  have HD := hide (hd rfl)
  clear hd
  go_wp2_with fail
  refine (clone7 a n cap ls w2 H2.out HS.out).mono ?_
  rintro e w3 ⟨a3, c3, ms, rfl, hL3, hc3, hb3⟩
  have Hb3 := hide (Hb2.out.trans (hb3.mono Hb2.out.size))
  have HS3 := hide (show Small n ms from ⟨HS.out.1, small_of hL3.2.2 H2.out HS.out.2 hc3⟩)
  have HL3 := hide hL3
  have Hc3 := hide hc3
  have HD3 := hide (show ∀ m ∈ ms, Dom m.rs from fun m hm => by obtain ⟨l, hl, e⟩ := of_cores hc3 hm; rw [e]; exact HD.out l hl)
  clear hb3 hL3 hc3 Hb2
  go_wp2_with fail
  refine (split8 a3 n c3 ms w3 HL3.out HS3.out).mono ?_
  rintro e w4 ⟨gi, go, ks, rfl, hK, hkl, hc4, hb4⟩
  have Hb4 := hide (Hb3.out.trans (hb4.mono Hb3.out.size))
  have HL4 := hide (HL3.out.below hb4)
  have HC4 := hide (zowners9 gi go n ks w4 hK hkl HS.out.1 (small_of hK.rows HL3.out HS3.out.2 hc4) (fun m hm => by obtain ⟨l, hl, e⟩ := of_cores hc4 hm; rw [e]; exact HD3.out l hl))
  rw [hc4] at HC4
  clear hb4 hK hkl hc4 Hb3
  go_wp2_with fail
  refine HC4.out.mono ?_
  rintro e w5 ⟨gg, F, rfl, hF, hO, hb5⟩
  have Hb5 := hide (Hb4.out.trans (hb5.mono Hb4.out.size))
  have HL5 := hide (HL4.out.below hb5)
  have HF := hide hF
  have HO := hide hO
  have hn := HS.out.1
  clear hb5 hF hO Hb4 HC4 HL4 HL3
  go_wp2_with fail
  go_loop [6] (fun i => ∃ s : Nat, s ≤ 16384 ∧ i = .int .i64 s) (fun i => 16384 - (intOf i).toNat)
  case atStart => exact ⟨0, by omega, rfl⟩
  case round =>
    obtain ⟨s, hs, rfl⟩ := hrel
    by_cases hlt : s < 16384
    · have hcell := (HF.out.cell hlt).1
      rw [HO.out s hlt] at hcell
      have Hcell := hide hcell
      clear hcell
      go_wp2_with fail
      go_loop [7, 8, 9] (fun v f i => ∃ m i' b wt, m ≤ n ∧ i = .int .i64 i' ∧ i' + 1 = (m : Int) ∧ f = .bool b ∧ v = .string wt ∧ Hid (Seek (ms.map Line.core) s m b wt)) (fun _ _ i => (intOf i + 1).toNat)
      case atStart => exact ⟨n, (n : Int) - 1, false, ByteArray.empty, by omega, by go_num, by omega, rfl, rfl, hide (seek_start (by rw [List.length_map, HL5.out.1]; exact Nat.le_refl _))⟩
      case round =>
        obtain ⟨m, i', b, wt, hmn, rfl, hi', rfl, rfl, HK⟩ := hrel
        cases m with
        | zero =>
          obtain rfl : i' = -1 := by omega
          clear hi'
          have q : w5.cell? ⟨gg, s, none⟩ = some (.string wt) := by rw [← seek_done HK.out]; exact Hcell.out
          go_wp2_with fail
          exact ⟨⟨s + 1, by omega, by go_num⟩, by simp [intOf]; omega⟩
        | succ m =>
          obtain rfl : i' = (m : Int) := by omega
          clear hi'
          cases b
          case true =>
            have q : w5.cell? ⟨gg, s, none⟩ = some (.string wt) := by rw [HK.out.1 rfl]; exact Hcell.out
            go_wp2_with fail
            exact ⟨⟨s + 1, by omega, by go_num⟩, by simp [intOf]; omega⟩
          case false =>
            obtain ⟨rfl, hk2⟩ := HK.out.2 rfl
            have HK2 := hide hk2
            clear HK hk2
            obtain ⟨bl, off, rfl, hbl, hcl⟩ := HL5.out.2.1 (by omega)
            obtain ⟨l, hL⟩ : ∃ l, ms[m]? = some l := ⟨_, List.getElem?_eq_getElem (by rw [HL5.out.1]; omega)⟩
            have hR := HL5.out.2.2 l (List.mem_of_getElem? hL)
            have hs0 := HS3.out.2 l (List.mem_of_getElem? hL)
            obtain ⟨id, ad, ln, cp, rs⟩ := l
            obtain ⟨c0, c1⟩ := line_cells (hcl m _ hL)
            have HKm := hide (show (ms.map Line.core)[m]? = some (id, rs) by rw [List.getElem?_map, hL]; rfl)
            simp only at c0 c1 hs0
            have HR := hide hR
            clear hR hL hcl
            go_wp2_with fail
            go_loop [7, 8, 11] (fun v f i => ∃ (j : Nat) (b : Bool) (wt : ByteArray), j ≤ ln ∧ i = .int .i64 j ∧ f = .bool b ∧ v = .string wt ∧ Hid (Look id rs s j b wt)) (fun _ _ i => ln - (intOf i).toNat)
            case atStart => exact ⟨0, false, ByteArray.empty, by omega, rfl, rfl, rfl, hide (look_start id rs s)⟩
            case round =>
              obtain ⟨j, b, wt, hj, rfl, rfl, rfl, HLk⟩ := hrel
              cases b
              case true =>
                have HN := hide (seek_next HK2.out HKm.out (look_end HLk.out (.inl rfl)))
                clear HLk
                by_cases hjn : j < ln
                · go_wp2_with fail
                  exact ⟨⟨m, (m : Int) - 1, true, wt, by omega, by go_num, by omega, rfl, rfl, HN⟩, by simp [intOf]⟩
                · go_wp2_with fail
                  exact ⟨⟨m, (m : Int) - 1, true, wt, by omega, by go_num, by omega, rfl, rfl, HN⟩, by simp [intOf]⟩
              case false =>
                by_cases hjn : j < ln
                · obtain ⟨b2, off2, rfl, hb2, hc2⟩ := HR.out.cells (by exact Nat.lt_of_le_of_lt (Nat.zero_le _) hjn)
                  obtain ⟨r, hr⟩ : ∃ r, rs[j]? = some r := ⟨_, List.getElem?_eq_getElem (by have := HR.out.1; omega)⟩
                  obtain ⟨d0, d1⟩ := rc_cells (hc2 j r hr)
                  obtain ⟨r0, r1⟩ := r
                  simp only at d0 d1
                  by_cases t0 : r0 ≤ (s : Int)
                  · by_cases t1 : (s : Int) ≤ r1
                    · have HN := hide (look_hit (id := id) hr (show r0 ≤ (s : Int) ∧ (s : Int) ≤ r1 from ⟨t0, t1⟩))
                      clear HLk hr hc2
                      go_wp2_with fail
                      exact ⟨⟨j + 1, true, id, by omega, by go_num, rfl, rfl, HN⟩, by simp [intOf]; omega⟩
                    · have HN := hide (look_miss hr (show ¬ (r0 ≤ (s : Int) ∧ (s : Int) ≤ r1) by omega) HLk.out)
                      clear HLk hr hc2
                      go_wp2_with fail
                      exact ⟨⟨j + 1, false, wt, by omega, by go_num, rfl, rfl, HN⟩, by simp [intOf]; omega⟩
                  · have HN := hide (look_miss hr (show ¬ (r0 ≤ (s : Int) ∧ (s : Int) ≤ r1) by omega) HLk.out)
                    clear HLk hr hc2
                    go_wp2_with fail
                    exact ⟨⟨j + 1, false, wt, by omega, by go_num, rfl, rfl, HN⟩, by simp [intOf]; omega⟩
                · have HN := hide (seek_next HK2.out HKm.out (look_end HLk.out (.inr (by have := HR.out.1; omega))))
                  clear HLk
                  go_wp2_with fail
                  exact ⟨⟨m, (m : Int) - 1, false, wt, by omega, by go_num, by omega, rfl, rfl, HN⟩, by simp [intOf]⟩
    · go_wp2_with fail
      go_ret
      exact ⟨rfl, Hb5.out⟩

end Go.Proofs.Qxb6601374a
