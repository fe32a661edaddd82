import Derived.Test.Qxb6600679aRows
import Derived.WalkKit
import Derived.WalkSpells
import Derived.WalkLawsBesides
import Derived.Handy
import Derived.Laws.CopyOwn
import Derived.Test.Qxb6600679aMem
namespace Go.Proofs.Qxb6600679a
open Go.RowKit

theorem bytes5 (a : Option Addr) (len cap : Nat) (w : World) (h : len ≤ 1048576) :
    Calls Try.prog 5 #[.slice a len cap] w fun e w' => e = .returned (.bool true) ∧ w = w' := by
  go_enter Try.func5, Try.ntmps5
  go_wp2
  go_ret
  exact ⟨rfl, rfl⟩
theorem bytes5_no (a : Option Addr) (len cap : Nat) (w : World) (h : 1048576 < len) :
    Calls Try.prog 5 #[.slice a len cap] w fun e w' => e = .returned (.bool false) ∧ w = w' := by
  go_enter Try.func5, Try.ntmps5
  go_wp2
  go_ret
  exact ⟨rfl, rfl⟩

def u64s (l : List Nat) : List Value := l.map fun (n : Nat) => Value.int .u64 (n : Int)

/-- The seven counters behind the states 'xs'. -/
def tally (xs : List Int) : List Nat := [0, xs.count 2, xs.count 3, xs.count 4, xs.count 5, xs.count 6, xs.count 7]

theorem tally_snoc (xs : List Int) (s : Int) : tally (xs ++ [s]) = [0, xs.count 2 + (if s = 2 then 1 else 0), xs.count 3 + (if s = 3 then 1 else 0), xs.count 4 + (if s = 4 then 1 else 0), xs.count 5 + (if s = 5 then 1 else 0), xs.count 6 + (if s = 6 then 1 else 0), xs.count 7 + (if s = 7 then 1 else 0)] := by
  have h : ∀ v : Int, (xs ++ [s]).count v = xs.count v + if s = v then 1 else 0 := by
    intro v
    rw [List.count_append, List.count_singleton]
    simp
  simp [tally, h]

def AddPost (B g : Nat) (w0 : World) (xs : List Int) (w : World) (e : Ending) (w' : World) : Prop :=
  e = .returned (.tuple #[]) ∧ Below B w0 w' ∧ w'.heap.size = w.heap.size ∧ Blk w' g (u64s (tally xs)) 26

theorem add_set {B g : Nat} {w0 w : World} {xs : List Int} {s : Int} (hb : Below B w0 w) (hB : B ≤ g) (h : Blk w g (u64s (tally xs)) 26) (j : Nat) (x : Nat) (he : (tally xs).set j (x + 1) = tally (xs ++ [s])) :
    AddPost B g w0 (xs ++ [s]) w (.returned (.tuple #[])) (w.setCell ⟨g, j, none⟩ (.int .u64 ((x : Int) + 1))) := by
  refine ⟨rfl, hb.setCell hB _, World.size_setCell _ _ _, ?_⟩
  have h1 := h.setCell j (.int .u64 ((x : Int) + 1))
  rw [← he]
  unfold u64s at *
  rw [List.map_set]; exact h1

end Go.Proofs.Qxb6600679a
