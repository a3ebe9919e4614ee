import Derived.Test.YbulkdmhkFmtC7
import Derived.Below
import Derived.Deep.Cut
import Derived.Deep.QuietTactic
namespace Go.Proofs.YbulkdmhkFmt
open Go.RowKit

/-- The law's own row and state. -/
structure LInv (w : World) (k i : Nat) (L : List Int) (s : Int) (wr : World) : Prop where
  len : L.length = i
  st : wr.heap[w.heap.size]? = some (.cells #[.int .u64 s] 32 (0, 0))
  r : wr.ownsRow w.heap.size 32 1 (.slice (some ⟨w.heap.size + 1, 0, none⟩) i k) i (L.map (Value.int .u64))
  g : w.grownBy wr none

theorem LInv.cellS {w : World} {k i : Nat} {L : List Int} {s : Int} {wr : World} (h : LInv w k i L s wr) : wr.cell? ⟨w.heap.size, 0, none⟩ = some (.int .u64 s) ∧ wr.frozen? ⟨w.heap.size, 0, none⟩ = false := by
  refine ⟨?_, frozen_of_row wr _ 0 _ _ h.st⟩
  rw [cell_of_row wr _ 0 _ _ _ h.st]; rfl
theorem LInv.cellR {w : World} {k i : Nat} {L : List Int} {s : Int} {wr : World} (h : LInv w k i L s wr) (t : Nat) (ht : t < i) : wr.cell? ⟨w.heap.size + 1, t, none⟩ = some (.int .u64 (L.getD t 0)) := by
  have hl := h.len
  rw [h.r.cellAt t (by omega)]
  simp [List.getD, show t < L.length by omega]
theorem LInv.start {w w1 : World} {k : Nat} {s : Int} (hown : w1.ownsRow w.heap.size 32 1 (.slice (some ⟨w.heap.size + 1, 0, none⟩) 0 k) 0 [])
    (hg : (w.alloc (.cells #[.int .u64 s] 32)).grownBy w1 none) : LInv w k 0 [] s w1 := by
  refine ⟨rfl, ?_, hown, grown_on (World.grownBy_alloc w _ none) hg (fun y hy => by cases hy)⟩
  rw [hg.block _ (by simp) (by simp)]
  exact heap_alloc_new _ _
theorem LInv.drew {w : World} {k i : Nat} {L : List Int} {s s' : Int} {wr : World} (h : LInv w k i L s wr) : LInv w k i L s' (wr.setCell ⟨w.heap.size, 0, none⟩ (.int .u64 s')) := by
  refine ⟨h.len, ?_, h.r.kept (grown_set _ _ _) (Or.inr (by simp [Value.ownBlock])), grown_on h.g (grown_set _ _ _) (fun y hy => Or.inl (by have := Option.some.inj hy; omega))⟩
  have := heap_setCell_same wr w.heap.size 0 _ 32 (.int .u64 s') h.st
  simpa using this
theorem LInv.more {w : World} {k i : Nat} {L : List Int} {s y : Int} {wr w3 : World} (h : LInv w k i L s wr) (o : Obj)
    (hown : w3.ownsRow w.heap.size 32 1 (.slice (some ⟨w.heap.size + 1, 0, none⟩) (i + 1) k) (i + 1) (L.map (Value.int .u64) ++ [.int .u64 y])) (hg : (wr.alloc o).grownBy w3 (some (w.heap.size + 1))) :
    LInv w k (i + 1) (L ++ [y]) s w3 := by
  have hl : w.heap.size < wr.heap.size := (Array.getElem?_eq_some_iff.1 h.st).1
  refine ⟨by simp [h.len], ?_, by rw [List.map_append]; exact hown, grown_on (grown_on h.g (World.grownBy_alloc wr o none) (fun y hy => by cases hy)) hg (fun y hy => Or.inl (by have := Option.some.inj hy; omega))⟩
  rw [hg.block _ (by simp; omega) (by simp), (World.grownBy_alloc wr o none).block _ hl (by simp)]
  exact h.st
theorem LInv.set {w : World} {k i : Nat} {L : List Int} {s y : Int} {wr : World} (h : LInv w k i L s wr) (j : Nat) : LInv w k i (L.set j y) s (wr.setCell ⟨w.heap.size + 1, j, none⟩ (.int .u64 y)) := by
  obtain ⟨a, b⟩ := h.r.stored j (.int .u64 y)
  have hl : w.heap.size < wr.heap.size := (Array.getElem?_eq_some_iff.1 h.st).1
  refine ⟨by simpa using h.len, ?_, by rw [List.map_set]; exact a, grown_on h.g b (fun y hy => Or.inl (by have := Option.some.inj hy; omega))⟩
  rw [b.block _ hl (by simp)]
  exact h.st

theorem new11 (seed : Int) (w : World) : Calls Ybaf.prog 11 #[.int .i64 seed] w fun e w' => e = .returned (.pointer (some ⟨w.heap.size, 0, none⟩)) ∧ w' = w.alloc (.cells #[.int .u64 (IntKind.u64.wrap seed)] 41) := by
  go_enter Ybaf.func11, Ybaf.ntmps11
  go_wp2
  go_ret
  exact ⟨rfl, rfl⟩
end Go.Proofs.YbulkdmhkFmt
