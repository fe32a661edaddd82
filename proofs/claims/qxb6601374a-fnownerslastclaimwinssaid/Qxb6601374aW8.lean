import Derived.Test.Qxb6601374aW7
namespace Go.Proofs.Qxb6601374a
open Go.RowKit

/-- 'k' of the lines are laid. -/
structure NOut (ls : List Line) (n : Nat) (w : World) (k : Nat) (ms : List Line) (wr : World) : Prop where
  len : ms.length = k
  core : ms.map Line.core = (ls.map Line.core).take k
  below : Below w.heap.size w wr
  blk : ∃ rest : List Value, rest.length = (n - k) * 9 ∧ Blk wr w.heap.size (ms.flatMap Line.ncells ++ rest) 40
  rows : ∀ m ∈ ms, RsAt wr (w.heap.size + 1) m.ad m.len m.rs

theorem NOut.start (ls : List Line) (n : Nat) (w : World) : NOut ls n w 0 [] (w.alloc (.cells (zrow znode (n * 9)) 40)) where
  len := rfl
  core := by simp
  below := (Below.refl _ _).alloc (Nat.le_refl _) _
  blk := ⟨(zrow znode (n * 9)).toList, by rw [Array.length_toList, zrow_size]; rfl, Blk.new' _ _ _⟩
  rows := by simp

theorem NOut.lt {ls : List Line} {n : Nat} {w : World} {k : Nat} {ms : List Line} {wr : World} (h : NOut ls n w k ms wr) : w.heap.size < wr.heap.size := by
  obtain ⟨rest, _, hb⟩ := h.blk; exact hb.lt

theorem NOut.there {ls : List Line} {n : Nat} {w : World} {k : Nat} {ms : List Line} {wr w2 : World} (h : NOut ls n w k ms wr) (hk : k < n) (hb : Below wr.heap.size wr w2) : w2.there w.heap.size (k * 9) 9 := by
  obtain ⟨rest, h3, h4⟩ := h.blk
  refine (h4.below hb h.lt).there ?_
  rw [List.length_append, h3, flat_len _ 9 Line.ncells_len, h.len]; omega

theorem NOut.step {ls : List Line} {n : Nat} {w : World} {k : Nat} {ms : List Line} {wr w2 : World} (h : NOut ls n w k ms wr) {l m : Line} (hl : ls[k]? = some l) (hc : m.core = l.core) (hk : k < n) (hb : Below wr.heap.size wr w2)
    (hR : RsAt w2 (w.heap.size + 1) m.ad m.len m.rs) : NOut ls n w (k + 1) (ms ++ [m]) (w2.setCells w.heap.size (k * 9) m.ncells) where
  len := by rw [List.length_append, h.len]; rfl
  core := by rw [List.map_append, h.core, cores_take hl, ← hc]; rfl
  below := Below.setCells _ (Nat.le_refl _) _ _ _ (h.below.trans (hb.mono h.below.size))
  blk := by
    obtain ⟨rest, h3, h4⟩ := h.blk
    have h5 := h4.below hb h.lt
    refine ⟨rest.drop 9, by rw [List.length_drop, h3]; omega, ?_⟩
    have h6 : Blk w2 w.heap.size (ms.flatMap Line.ncells ++ rest.take 9 ++ rest.drop 9) 40 := by rw [List.append_assoc, List.take_append_drop]; exact h5
    have h7 := Blk.setCells_at (o := k * 9) (vs := m.ncells) h6 (by rw [flat_len _ 9 Line.ncells_len, h.len]) (by rw [List.length_take, h3]; show min 9 _ = 9; omega)
    rw [List.flatMap_append]
    simpa using h7
  rows := by
    have hkeep : ∀ a len rs, RsAt w2 (w.heap.size + 1) a len rs → RsAt (w2.setCells w.heap.size (k * 9) m.ncells) (w.heap.size + 1) a len rs := fun a len rs h =>
      h.keep (by rw [size_setCells]; exact Nat.le_refl _) (fun b h1 _ => heap_setCells_ne _ (by omega) _ _ _)
    exact all_snoc (fun x hx => hkeep _ _ _ ((h.rows x hx).below hb)) (hkeep _ _ _ hR)

theorem NOut.done {ls : List Line} {n : Nat} {w : World} {ms : List Line} {wr : World} (h : NOut ls n w n ms wr) : Nodes wr w.heap.size ms where
  blk := by
    intro i m hm
    obtain ⟨rest, h3, h4⟩ := h.blk
    obtain rfl : rest = [] := List.eq_nil_of_length_eq_zero (by rw [h3]; simp)
    rw [List.append_nil] at h4
    have hi := (List.getElem?_eq_some_iff.1 hm).1
    have e : ms.flatMap Line.ncells = (ms.take i).flatMap Line.ncells ++ m.ncells ++ (ms.drop (i + 1)).flatMap Line.ncells := by
      rw [← flat_take_succ _ _ _ _ hm, ← List.flatMap_append, List.take_append_drop]
    rw [e] at h4
    refine h4.range_at ?_
    rw [flat_len _ 9 Line.ncells_len, List.length_take]; omega
  lt := h.lt
  rows := fun m hm => (h.rows m hm).mono (Nat.zero_le _)

theorem of_cores {ms ls : List Line} (h : ms.map Line.core = ls.map Line.core) {m : Line} (hm : m ∈ ms) : ∃ l ∈ ls, m.rs = l.rs := by
  have : m.core ∈ ls.map Line.core := by rw [← h]; exact List.mem_map_of_mem hm
  obtain ⟨l, hl, e⟩ := List.mem_map.1 this
  exact ⟨l, hl, (congrArg Prod.snd e).symm⟩

/-- A slice of ranges of the call's own. -/
def Row2 (w : World) (base : Nat) (v : Value) (rs : List Rg) : Prop := w.ownsRow base 37 2 v rs.length (rs.flatMap rc)

theorem Row2.rs {w : World} {base : Nat} {v : Value} {rs : List Rg} (h : Row2 w base v rs) : ∃ ad cap, v = .slice ad rs.length cap ∧ RsAt w base ad rs.length rs := by
  obtain ⟨h1, ⟨h2, h3⟩ | ⟨g, cap, cur, hv, hg, hh, hn, hc, hs, hx⟩⟩ := h
  · exact ⟨none, 0, by rw [h2, h3], rfl, fun h0 => absurd h0 (by omega)⟩
  · have hlt : g < w.heap.size := (Array.getElem?_eq_some_iff.1 hh).1
    refine ⟨some ⟨g, 0, none⟩, cap, hv, rfl, fun h0 => ⟨g, 0, rfl, hg, hlt, fun i r hr => ?_⟩⟩
    have hB : Blk w g (rs.flatMap rc ++ cur.toList.drop (rs.length * 2)) 37 := by
      unfold Blk
      rw [hh, ← hx, List.take_append_drop]
    have hi := (List.getElem?_eq_some_iff.1 hr).1
    have e : rs.flatMap rc = (rs.take i).flatMap rc ++ rc r ++ (rs.drop (i + 1)).flatMap rc := by
      rw [← flat_take_succ _ _ _ _ hr, ← List.flatMap_append, List.take_append_drop]
    rw [e, List.append_assoc ((rs.take i).flatMap rc ++ rc r)] at hB
    refine hB.range_at ?_
    rw [flat_len _ 2 rc_len, List.length_take]; omega

theorem Row2.below {w w' : World} {base : Nat} {v : Value} {rs : List Rg} (h : Row2 w base v rs) (hb : Below w.heap.size w w') : Row2 w' base v rs := by
  obtain ⟨h1, h2 | ⟨g, cap, cur, hv, hg, hh, r⟩⟩ := h
  · exact ⟨h1, .inl h2⟩
  · exact ⟨h1, .inr ⟨g, cap, cur, hv, hg, by rw [hb.block g (Array.getElem?_eq_some_iff.1 hh).1]; exact hh, r⟩⟩

theorem at_append {P : Program} {ops : Array Oper} {rest : List Oper} {a : Act} {w : World} {Q : Exit → Act → World → Prop} {d : Option Tmp} {ty' : TypeId} {pos : String} {af : Array Edge} {ts : Array TypeId} (x y : Operand)
    (h : wpList P ops Q (⟨d, .call { callee := .builtin .append, args := #[x, y], argTypes := ts }, ty', pos, af, none⟩ :: rest) a w) : wpList P ops Q (⟨d, .call { callee := .builtin .append, args := #[x, y], argTypes := ts }, ty', pos, af, none⟩ :: rest) a w := h

/-- 'append' of one range onto a row of the call's own. -/
theorem wp_push2 {ops : Array Oper} {rest : List Oper} {o : Oper} {a : Act} {w : World} {Q : Exit → Act → World → Prop} (hgd : o.guard = none) (s x : Operand) (ho : o.op = .call { callee := .builtin .append, args := #[s, x], argTypes := #[35, 35] })
    (base : Nat) (v : Value) (rs : List Rg) (hs : a.eval s = v) (hrow : Row2 w base v rs) (hb : Nat) (r : Rg) (hx : a.eval x = .slice (some ⟨hb, 0, none⟩) 1 1) (hnews : Blk w hb (rc r) 37) (hlen : rs.length ≤ 65536) (B : Nat) (w0 : World) (hB : Below B w0 w) (hBb : B ≤ base) (hbase : base ≤ w.heap.size)
    (h : ∀ v' w', Hid (Row2 w' base v' (rs ++ [r]) ∧ Below B w0 w') → wpList Try.prog ops Q rest (a.put o.dst v') w') :
    wpList Try.prog ops Q (o :: rest) a w := by
  obtain ⟨i0, hi, hz0, hz1, hz2⟩ := info_parts info37
  refine wpList_append_lies _ hgd s x 35 ho base 37 i0 zrange 2 16 Try.underlying35 hi hz0 hz1 hz2 rfl (by omega) v rs.length (rs.flatMap rc) hs hrow ⟨hb, 0, none⟩ 1 1 (rc r) hx rfl ?_ (rc_one r) (by omega) (by unfold maxLen; omega) (by omega) hbase _ rfl ?_
  · intro j y hj
    rw [Addr.add_mid, Nat.zero_add]; exact hnews.cell hj
  · intro g cap w' h1 h2 h3 _
    refine h _ w' (hide ⟨?_, hB.grown h2 (by omega) (fun k hk => by have := (World.ownsRow.lt hrow k hk).1; omega)⟩)
    unfold Row2
    rw [List.length_append, List.flatMap_append]
    simpa using h1

end Go.Proofs.Qxb6601374a
