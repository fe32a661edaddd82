import Derived.Test.Qxb6001162aW5
import Derived.Test.Qxb6001162aP1
import Derived.WalkSmall
namespace Go.Proofs.Qxb6001162a
open Go.RowKit

/-- The slice value 'v' owns the numbers 'xs' in a block of the call's own (from 'base' on). -/
def Row (w : World) (base : Nat) (v : Value) (xs : List Int) : Prop := w.ownsRow base 21 1 v xs.length (xs.map (Value.int .i32))

theorem info21 : (Try.prog.info? 21).map (fun i => (i.zero, i.size, i.bytes)) = some (some (.int .i32 0), 1, 4) := by kernel_rfl

/-- The memory of 'reach' in mid-walk. -/
structure RMem (B bs be : Nat) (w : World) (wv : Value) (gs cap : Nat) (ways stack : List Int) (seen ended : List Bool) (wr : World) : Prop where
  below : Below B w wr
  size : w.heap.size < wr.heap.size
  wrow : Row wr w.heap.size wv ways
  srow : Row wr w.heap.size (.slice (some ⟨gs, 0, none⟩) stack.length cap) stack
  apart : wv.ownBlock ≠ some gs
  seenB : Blk wr bs (seen.map Value.bool) 4
  endB : Blk wr be (ended.map Value.bool) 4

structure RRel (G : Int → Prop) (n m : Nat) (seen0 ended0 : List Bool) (w0 : Int) (B bs be : Nat) (w : World) (wv : Value) (gs cap : Nat) (ways stack : List Int) (seen ended : List Bool) (grew : Bool) (wr : World) : Prop where
  mem : RMem B bs be w wv gs cap ways stack seen ended wr
  pure : PInv G n m seen0 ended0 w0 ways stack seen ended grew

/-- All that 'reach' is told. -/
structure RCtx (B x g : Nat) (sb : Nat → Nat) (ps : List Inst) (start slots : Int) (G : Int → Prop) (n m bs be : Nat) (seen0 ended0 : List Bool) (w0 : Int) (w : World) : Prop where
  hE : Ere w B x g sb ps start slots
  hB : B ≤ w.heap.size
  hbs : B ≤ bs
  hbe : B ≤ be
  hne : bs ≠ be
  hS0 : Blk w bs (seen0.map Value.bool) 4
  hE0 : Blk w be (ended0.map Value.bool) 4
  hn : ps.length = n
  hls : seen0.length = 2 * n
  hle : ended0.length = m
  hm : (m : Int) = slots / 2
  hval : valid ps slots = true
  hwf : ∀ p ∈ ps, p.wf
  hG0 : G w0
  hGr : ∀ v, G v → 0 ≤ v ∧ v < 2 * n
  hGc : Closed ps G

def ReachPost (G : Int → Prop) (n m : Nat) (seen0 ended0 : List Bool) (w0 : Int) (B bs be : Nat) (w : World) (e : Ending) (w' : World) : Prop :=
  ∃ v gs cap ways seen ended grew, e = .returned (.tuple #[v, .bool grew]) ∧ RRel G n m seen0 ended0 w0 B bs be w v gs cap ways [] seen ended grew w'

def ReachLoop (G : Int → Prop) (n m : Nat) (seen0 ended0 : List Bool) (w0 : Int) (B bs be : Nat) (w : World) (wv gv sv : Value) (wr : World) : Prop :=
  ∃ gs cap ways stack seen ended grew, gv = .bool grew ∧ sv = .slice (some ⟨gs, 0, none⟩) stack.length cap ∧ RRel G n m seen0 ended0 w0 B bs be w wv gs cap ways stack seen ended grew wr

/-- THE MEASURE: the marks that are not yet set, and the stack's length. -/
def isF : Value → Bool | .bool false => true | _ => false
def cntF (w : World) (b : Nat) : Nat := match w.heap[b]? with | some (.cells c _ _) => c.toList.countP isF | _ => 0
def lenOf : Value → Nat | .slice _ l _ => l | _ => 0

theorem countP_map_bool (l : List Bool) : (l.map Value.bool).countP isF = fal l := by
  induction l with
  | nil => rfl
  | cons a r ih =>
    rw [List.map_cons, List.countP_cons, ih]
    cases a <;> simp [isF, fal]

theorem cntF_blk {w : World} {b t : Nat} {l : List Bool} (h : Blk w b (l.map Value.bool) t) : cntF w b = fal l := by
  have h' : w.heap[b]? = some (.cells (l.map Value.bool).toArray t (0, 0)) := h
  simp only [cntF, h']
  exact countP_map_bool l

theorem nil_or_snoc {α : Type} (l : List α) : l = [] ∨ ∃ st v, l = st ++ [v] := by
  rcases l.eq_nil_or_concat with h | ⟨st, v, h⟩
  · exact .inl h
  · exact .inr ⟨st, v, by rw [h]; simp⟩

theorem row_cell {w : World} {base gs cap : Nat} {st : List Int} {v : Int} (h : Row w base (.slice (some ⟨gs, 0, none⟩) (st ++ [v]).length cap) (st ++ [v])) : w.cell? ⟨gs, st.length, none⟩ = some (.int .i32 v) := by
  have := World.ownsRow.cellAt h st.length (by simp)
  rw [this]; simp

theorem row_pop {w : World} {base gs cap : Nat} {st : List Int} {v : Int} (h : Row w base (.slice (some ⟨gs, 0, none⟩) (st ++ [v]).length cap) (st ++ [v])) : Row w base (.slice (some ⟨gs, 0, none⟩) st.length cap) st := by
  unfold Row at *
  rw [List.length_append] at h
  exact ownsRow_pop (last := [.int .i32 v]) (by simp) (by simpa using h)

theorem row_cap {w : World} {base gs cap l : Nat} {st : List Int} (h : Row w base (.slice (some ⟨gs, 0, none⟩) l cap) st) : l ≤ cap ∧ gs < w.heap.size ∧ base ≤ gs := by
  have hh := h
  obtain ⟨h1, h2 | ⟨g', cap', cur, hv, hg, hh2, hn, hcap, hsz, htake⟩⟩ := h
  · cases h2.1
  · cases hv
    exact ⟨hn, (World.ownsRow.lt hh gs rfl).2, hg⟩

theorem row_lt {w : World} {base : Nat} {v : Value} {xs : List Int} (h : Row w base v xs) {k : Nat} (hk : v.ownBlock = some k) : base ≤ k ∧ k < w.heap.size := World.ownsRow.lt h k hk

theorem Row.setCell {w : World} {base : Nat} {v : Value} {xs : List Int} (h : Row w base v xs) {a : Addr} (ha : a.block < base) (u : Value) : Row (w.setCell a u) base v xs := ownsRow_setCell_below h ha u
theorem Row.alloc {w : World} {base : Nat} {v : Value} {xs : List Int} (h : Row w base v xs) (o : Obj) : Row (w.alloc o) base v xs := World.ownsRow.alloc h o
theorem Row.drew {w : World} {base : Nat} {v : Value} {xs : List Int} (h : Row w base v xs) : Row w.drew base v xs := World.ownsRow.drew h

theorem RMem.mark {B bs be : Nat} {w : World} {wv : Value} {gs cap : Nat} {ways stack : List Int} {seen ended : List Bool} {wr : World} (h : RMem B bs be w wv gs cap ways stack seen ended wr) (hB : B ≤ bs) (hs : bs < w.heap.size) (hne : bs ≠ be) (i : Nat) :
    RMem B bs be w wv gs cap ways stack (seen.set i true) ended (wr.setCell ⟨bs, i, none⟩ (.bool true)) where
  below := h.below.setCell hB _
  size := by rw [World.size_setCell]; exact h.size
  wrow := h.wrow.setCell hs _
  srow := h.srow.setCell hs _
  apart := h.apart
  seenB := by have := h.seenB.setCell i (.bool true); rwa [← List.map_set] at this
  endB := h.endB.setCell_ne _ _ (Ne.symm hne)

theorem RMem.markEnd {B bs be : Nat} {w : World} {wv : Value} {gs cap : Nat} {ways stack : List Int} {seen ended : List Bool} {wr : World} (h : RMem B bs be w wv gs cap ways stack seen ended wr) (hB : B ≤ be) (hs : be < w.heap.size) (hne : bs ≠ be) (i : Nat) :
    RMem B bs be w wv gs cap ways stack seen (ended.set i true) (wr.setCell ⟨be, i, none⟩ (.bool true)) where
  below := h.below.setCell hB _
  size := by rw [World.size_setCell]; exact h.size
  wrow := h.wrow.setCell hs _
  srow := h.srow.setCell hs _
  apart := h.apart
  seenB := h.seenB.setCell_ne _ _ hne
  endB := by have := h.endB.setCell i (.bool true); rwa [← List.map_set] at this

theorem RMem.alloc {B bs be : Nat} {w : World} {wv : Value} {gs cap : Nat} {ways stack : List Int} {seen ended : List Bool} {wr : World} (h : RMem B bs be w wv gs cap ways stack seen ended wr) (hB : B ≤ w.heap.size) (o : Obj) :
    RMem B bs be w wv gs cap ways stack seen ended (wr.alloc o) where
  below := h.below.alloc (by have := h.size; omega) _
  size := by rw [World.size_alloc]; have := h.size; omega
  wrow := h.wrow.alloc _
  srow := h.srow.alloc _
  apart := h.apart
  seenB := h.seenB.alloc _
  endB := h.endB.alloc _

theorem RMem.drew {B bs be : Nat} {w : World} {wv : Value} {gs cap : Nat} {ways stack : List Int} {seen ended : List Bool} {wr : World} (h : RMem B bs be w wv gs cap ways stack seen ended wr) :
    RMem B bs be w wv gs cap ways stack seen ended wr.drew where
  below := h.below.drew
  size := h.size
  wrow := h.wrow.drew
  srow := h.srow.drew
  apart := h.apart
  seenB := h.seenB.drew
  endB := h.endB.drew

theorem RMem.pop {B bs be : Nat} {w : World} {wv : Value} {gs cap : Nat} {ways st : List Int} {v : Int} {seen ended : List Bool} {wr : World} (h : RMem B bs be w wv gs cap ways (st ++ [v]) seen ended wr) :
    RMem B bs be w wv gs cap ways st seen ended wr where
  below := h.below
  size := h.size
  wrow := h.wrow
  srow := row_pop h.srow
  apart := h.apart
  seenB := h.seenB
  endB := h.endB

theorem Blk.grown {w w' : World} {g t : Nat} {cs : List Value} {row : Option Nat} (h : Blk w g cs t) (hg : w.grownBy w' row) (hne : some g ≠ row) : Blk w' g cs t := h.of (hg.block g h.lt hne)

theorem RMem.pushWays {B bs be : Nat} {w : World} {wv : Value} {gs cap : Nat} {ways stack : List Int} {seen ended : List Bool} {wr : World} (h : RMem B bs be w wv gs cap ways stack seen ended wr) (hB : B ≤ w.heap.size) (hbs : bs < w.heap.size) (hbe : be < w.heap.size)
    {w1 : World} {g1 cap1 l1 : Nat} {news : List Int} (hrow : Row w1 w.heap.size (.slice (some ⟨g1, 0, none⟩) l1 cap1) (ways ++ news)) (hgrow : wr.grownBy w1 wv.ownBlock) (hat : wv.ownBlock = some g1 ∨ g1 = wr.heap.size) :
    RMem B bs be w (.slice (some ⟨g1, 0, none⟩) l1 cap1) gs cap (ways ++ news) stack seen ended w1 where
  below := h.below.grown hgrow (by have := h.size; omega) (fun k hk => by have := (row_lt h.wrow hk).1; omega)
  size := by have := h.size; have := hgrow.size; omega
  wrow := hrow
  srow := World.ownsRow.kept h.srow hgrow (.inr (Ne.symm h.apart))
  apart := by
    have hg := (row_cap h.srow).2.1
    rcases hat with hat | hat
    · show some g1 ≠ some gs
      rw [← hat]; exact h.apart
    · intro e; simp [Value.ownBlock] at e; omega
  seenB := h.seenB.grown hgrow (fun e => by have := (row_lt h.wrow e.symm).1; omega)
  endB := h.endB.grown hgrow (fun e => by have := (row_lt h.wrow e.symm).1; omega)

theorem RMem.pushStack {B bs be : Nat} {w : World} {wv : Value} {gs cap : Nat} {ways stack : List Int} {seen ended : List Bool} {wr : World} (h : RMem B bs be w wv gs cap ways stack seen ended wr) (hB : B ≤ w.heap.size) (hbs : bs < w.heap.size) (hbe : be < w.heap.size)
    {w1 : World} {g1 cap1 l1 : Nat} {news : List Int} (hl : l1 = (stack ++ news).length) (hrow : Row w1 w.heap.size (.slice (some ⟨g1, 0, none⟩) l1 cap1) (stack ++ news)) (hgrow : wr.grownBy w1 (some gs)) (hat : gs = g1 ∨ g1 = wr.heap.size) :
    RMem B bs be w wv g1 cap1 ways (stack ++ news) seen ended w1 where
  below := h.below.grown hgrow (by have := h.size; omega) (fun k hk => by have := (row_lt h.srow (k := gs) rfl).1; cases hk; omega)
  size := by have := h.size; have := hgrow.size; omega
  wrow := World.ownsRow.kept h.wrow hgrow (.inr h.apart)
  srow := by subst hl; exact hrow
  apart := by
    rcases hat with rfl | hat
    · exact h.apart
    · intro e
      have := (row_lt h.wrow e).2
      omega
  seenB := h.seenB.grown hgrow (fun e => by have := (row_lt h.srow (k := gs) rfl).1; cases e; omega)
  endB := h.endB.grown hgrow (fun e => by have := (row_lt h.srow (k := gs) rfl).1; cases e; omega)

theorem at_append {P : Program} {ops : Array Oper} {rest : List Oper} {a : Act} {w : World} {Q : Exit → Act → World → Prop} {d : Option Tmp} {ty' : TypeId} {pos : String} {af : Array Edge} {ts : Array TypeId} (x y : Operand)
    (h : wpList P ops Q (⟨d, .call { callee := .builtin .append, args := #[x, y], argTypes := ts }, ty', pos, af, none⟩ :: rest) a w) : wpList P ops Q (⟨d, .call { callee := .builtin .append, args := #[x, y], argTypes := ts }, ty', pos, af, none⟩ :: rest) a w := h

/-- 'append' of a few numbers onto a row of the call's own. -/
theorem wp_push {ops : Array Oper} {rest : List Oper} {o : Oper} {a : Act} {w : World} {Q : Exit → Act → World → Prop} (hgd : o.guard = none) (s x : Operand) (ho : o.op = .call { callee := .builtin .append, args := #[s, x], argTypes := #[38, 38] })
    (base : Nat) (v : Value) (xs : List Int) (hs : a.eval s = v) (hrow : Row w base v xs) (hb m : Nat) (news : List Int) (hx : a.eval x = .slice (some ⟨hb, 0, none⟩) m m) (hm : news.length = m) (hm0 : 0 < m)
    (hnews : Blk w hb (news.map (Value.int .i32)) 21) (hlen : xs.length + m ≤ 1000000) (hbase : base ≤ w.heap.size)
    (h : ∀ g cap w', Row w' base (.slice (some ⟨g, 0, none⟩) (xs.length + m) cap) (xs ++ news) → w.grownBy w' v.ownBlock → (v.ownBlock = some g ∨ g = w.heap.size) → wpList Try.prog ops Q rest (a.put o.dst (.slice (some ⟨g, 0, none⟩) (xs.length + m) cap)) w') :
    wpList Try.prog ops Q (o :: rest) a w := by
  obtain ⟨i0, hi, hz0, hz1, hz2⟩ := info_parts info21
  subst hm
  refine wpList_append_lies _ hgd s x 38 ho base 21 i0 (.int .i32 0) 1 4 Try.underlying38 hi hz0 hz1 hz2 rfl (by omega) v xs.length (xs.map (Value.int .i32)) hs hrow ⟨hb, 0, none⟩ news.length news.length (news.map (Value.int .i32)) hx (by simp) ?_ ?_ hm0
    (by unfold maxLen; omega) (by omega) hbase _ rfl ?_
  · intro j u hj
    rw [Addr.add_mid, Nat.zero_add]; exact hnews.cell hj
  · intro u hu; simp at hu; obtain ⟨z, _, rfl⟩ := hu; rfl
  · intro g cap w' h1 h2 h3 _
    refine h g cap w' ?_ h2 h3
    unfold Row; rw [List.length_append, List.map_append]; exact h1

end Go.Proofs.Qxb6001162a
