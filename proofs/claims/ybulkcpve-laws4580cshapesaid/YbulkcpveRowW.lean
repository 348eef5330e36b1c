/-
  A ROW OF int's THAT THE CALL ITSELF HAS MADE, said by a function from places to numbers; and what a store does to it.
-/
import Derived.WalkKit
import Derived.ProofKit
import Derived.BigQuiet
import Derived.Deep.QuietTactic
import Derived.Deep.OwnRows
import Derived.RegionTactic
import Derived.BigRegion
import Derived.Test.YbulkcpveLcs
namespace Go.RowKit
theorem Grown.drewN {W w : World} (h : Grown W w) : ∀ k, Grown W (w.drewN k)
  | 0 => h
  | k + 1 => (h.drewN k).drew
theorem Grown.trans {a b c : World} (h : Grown a b) (k : Grown b c) : Grown a c := by
  refine ⟨?_, fun x => (k.2.1 x).trans (h.2.1 x), Nat.le_trans h.2.2 k.2.2⟩
  exact World.keptBut_trans h.1 k.1
end Go.RowKit

namespace Go.Proofs.Ybulkcpve
open Go.RowKit

/-- Block b of w holds the n numbers f 0 .. f (n - 1), none frozen. -/
structure IsRow (w : World) (b n : Nat) (f : Nat → Int) : Prop where
  cell : ∀ q, q < n → w.cell? ⟨b, q, none⟩ = some (.int .i64 (f q))
  free : ∀ q, w.frozen? ⟨b, q, none⟩ = false

theorem IsRow.drew {w : World} {b n : Nat} {f : Nat → Int} (h : IsRow w b n f) : IsRow w.drew b n f := ⟨h.cell, h.free⟩
theorem IsRow.drewN {w : World} {b n : Nat} {f : Nat → Int} (h : IsRow w b n f) : ∀ k, IsRow (w.drewN k) b n f
  | 0 => h
  | k + 1 => (h.drewN k).drew
theorem IsRow.congr {w : World} {b n : Nat} {f g : Nat → Int} (h : IsRow w b n f) (e : ∀ q, q < n → f q = g q) : IsRow w b n g :=
  ⟨fun q hq => by rw [h.cell q hq, e q hq], h.free⟩
theorem IsRow.set {w : World} {b n : Nat} {f : Nat → Int} (h : IsRow w b n f) (q0 : Nat) (h0 : q0 < n) (x : Int) :
    IsRow (w.setCell ⟨b, q0, none⟩ (.int .i64 x)) b n (fun q => if q = q0 then x else f q) := by
  refine ⟨fun q hq => ?_, fun q => (World.frozen?_setCell _ _ _ _).trans (h.free q)⟩
  by_cases e : q = q0
  · subst e
    rw [World.cell?_setCell_same _ _ _ (h.cell q hq), if_pos rfl]
  · rw [World.cell?_setCell_other _ _ _ _ (by intro h; simp only [Addr.mk.injEq] at h; omega), h.cell q hq, if_neg e]

/-- A new row of n noughts. -/
theorem IsRow.made (w : World) (n : Nat) (e : TypeId) : IsRow (w.alloc (.cells (madeCells #[Value.int .i64 0] n) e)) w.heap.size n (fun _ => 0) := by
  refine ⟨fun q hq => ?_, fun q => World.frozen?_alloc_at _ _ _ _ rfl⟩
  rw [World.cell?_alloc_at _ _ _ _ rfl]
  have := toList_madeCells_one (.int .i64 0) n
  rw [← Array.getElem?_toList, this]
  simp [hq]

end Go.Proofs.Ybulkcpve
