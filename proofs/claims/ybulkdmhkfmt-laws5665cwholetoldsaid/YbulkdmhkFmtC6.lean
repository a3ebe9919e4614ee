import Derived.Test.YbulkdmhkFmtC5
import Derived.Maps.OwnOps
import Derived.OwnWalk
import Derived.Laws.EntriesVeiled
namespace Go.Proofs.YbulkdmhkFmt
open Go.RowKit

/-! ### The map from numbers to true -/
def entsL (s : Nat) : List Int → List MapEntry
  | [] => []
  | x :: r => { key := .int .u64 x, val := .bool true, born := s } :: entsL (s + 1) r
def ents (L : List Int) : Array MapEntry := (entsL 0 L).toArray
theorem entsL_append (y : Int) : ∀ (L : List Int) (s : Nat), entsL s (L ++ [y]) = entsL s L ++ [{ key := .int .u64 y, val := .bool true, born := s + L.length }]
  | [], s => by simp [entsL]
  | x :: r, s => by
    simp only [List.cons_append, entsL, entsL_append y r (s + 1), List.length_cons]
    rw [show s + 1 + r.length = s + (r.length + 1) by omega]
theorem ents_push (L : List Int) (y : Int) : (ents L).push { key := .int .u64 y, val := .bool true, born := L.length } = ents (L ++ [y]) := by
  unfold ents
  rw [entsL_append, Nat.zero_add]
  simp
theorem find_in (x : Int) : ∀ (L : List Int) (s i : Nat), x ∈ L → ∃ j, Instr.findNow (.int .u64) (.int .u64 x) (entsL s L) i = some (some (j, .bool true))
  | [], _, _, h => by simp at h
  | y :: r, s, i, h => by
    by_cases c : x = y
    · exact ⟨i, by simp [entsL, Instr.findNow, Instr.sameNow, c]⟩
    · have hr : x ∈ r := by simpa [c] using h
      obtain ⟨j, hj⟩ := find_in x r (s + 1) (i + 1) hr
      refine ⟨j, ?_⟩
      have c' : (x == y) = false := by simp [c]
      simp only [entsL, Instr.findNow, Instr.sameNow, if_true, c']
      exact hj
theorem find_out (x : Int) : ∀ (L : List Int) (s i : Nat), x ∉ L → Instr.findNow (.int .u64) (.int .u64 x) (entsL s L) i = some none
  | [], _, _, _ => rfl
  | y :: r, s, i, h => by
    have c : ¬ x = y := fun e => h (by simp [e])
    have hr : x ∉ r := fun e => h (by simp [e])
    have c' : (x == y) = false := by simp [c]
    simp only [entsL, Instr.findNow, Instr.sameNow, if_true, c']
    exact find_out x r (s + 1) (i + 1) hr

theorem look_in {w : World} {M : Nat} {L : List Int} {x : Int} (hb : w.heap[M]? = some (.map (ents L) L.length)) (hx : x ∈ L) :
    (Instr.lookup 51 (.map (some M)) (.int .u64 x) false).run Ybaf.prog w = .ok (.bool true) w := by
  obtain ⟨j, hj⟩ := find_in x L 0 0 hx
  have hf : (Instr.findKey 32 (.int .u64 x) (ents L).toList).run Ybaf.prog w = .ok (some (j, .bool true)) w := MapKept.run_findKey Ybaf.underlying32 (by simpa [ents] using hj)
  simp [Instr.lookup, run_underlying Ybaf.underlying51, MapKept.run_getObj_map hb, MapKept.run_checkKey Ybaf.underlying32 (k := .int .u64 x) rfl, hf, Result.andThen]
theorem look_out {w : World} {M : Nat} {L : List Int} {x : Int} (hb : w.heap[M]? = some (.map (ents L) L.length)) (hx : x ∉ L) :
    (Instr.lookup 51 (.map (some M)) (.int .u64 x) false).run Ybaf.prog w = .ok (.bool false) w := by
  have hf : (Instr.findKey 32 (.int .u64 x) (ents L).toList).run Ybaf.prog w = .ok none w := MapKept.run_findKey Ybaf.underlying32 (by simpa [ents] using find_out x L 0 0 hx)
  simp [Instr.lookup, run_underlying Ybaf.underlying51, MapKept.run_getObj_map hb, MapKept.run_checkKey Ybaf.underlying32 (k := .int .u64 x) rfl, hf, Ybaf.zeroValue4, Result.andThen]
theorem put_new {w : World} {M : Nat} {L : List Int} {y : Int} (hb : w.heap[M]? = some (.map (ents L) L.length)) (hy : y ∉ L) :
    ∃ w', (Instr.mapUpdate 51 (.map (some M)) (.int .u64 y) (.bool true)).run Ybaf.prog w = .ok () w' ∧ w'.heap[M]? = some (.map (ents (L ++ [y])) (L ++ [y]).length) ∧ w.grownBy w' (some M) := by
  have hf : (Instr.findKey 32 (.int .u64 y) (ents L).toList).run Ybaf.prog w = .ok none w := MapKept.run_findKey Ybaf.underlying32 (by simpa [ents] using find_out y L 0 0 hy)
  refine ⟨{ w with heap := w.heap.setIfInBounds M (.map (ents (L ++ [y])) (L ++ [y]).length) }, ?_, (MapKept.heap_set hb).1, ⟨rfl, rfl, rfl, by simp, fun j _ hj => (MapKept.heap_set hb).2 j (fun e => hj (by rw [e]))⟩⟩
  rw [← ents_push]
  simp [Instr.mapUpdate, run_underlying Ybaf.underlying51, MapKept.run_getObj_map hb, MapKept.run_checkKey Ybaf.underlying32 (k := .int .u64 y) rfl, hf, MapKept.run_setObj_map _ hb, Result.andThen]

theorem wpList_lookup_run {P : Program} (w : World) {ops : Array Oper} {rest : List Oper} {o : Oper} {a : Act} {Q : Exit → Act → World → Prop}
    (hg : o.guard = none) (m x : Operand) (t : TypeId) (hop : o.op = Op.lookup t m x false) (mv xv v : Value) (hm : a.eval m = mv) (hx : a.eval x = xv)
    (hrun : (Instr.lookup t mv xv false).run P w = .ok v w) (hK : wpList P ops Q rest (a.put o.dst v) w) : wpList P ops Q (o :: rest) a w := by
  refine wpList_plain hg fun K' hK' => ?_
  unfold Oper.wp
  simp [execOp, hop, hm, hx, hrun, Result.andThen]
  exact hK' _ _ hK
theorem wpList_mapUpdate_run {P : Program} (w w' : World) {ops : Array Oper} {rest : List Oper} {o : Oper} {a : Act} {Q : Exit → Act → World → Prop}
    (hg : o.guard = none) (m x y : Operand) (t : TypeId) (hop : o.op = Op.mapUpdate t m x y) (mv xv yv : Value) (hm : a.eval m = mv) (hx : a.eval x = xv) (hy : a.eval y = yv)
    (hrun : (Instr.mapUpdate t mv xv yv).run P w = .ok () w') (hK : wpList P ops Q rest (a.put o.dst undef) w') : wpList P ops Q (o :: rest) a w := by
  refine wpList_plain hg fun K' hK' => ?_
  unfold Oper.wp
  simp [execOp, hop, hm, hx, hy, hrun, Result.andThen]
  exact hK' _ _ hK

/-- Growing on: what turned before, or what is new, may turn. -/
theorem grown_on {w a b : World} {row row2 : Option Nat} (h1 : w.grownBy a row) (h2 : a.grownBy b row2) (hr : ∀ y, row2 = some y → w.heap.size ≤ y ∨ row = some y) : w.grownBy b row := by
  refine ⟨h2.os.trans h1.os, h2.tape.trans h1.tape, h2.output.trans h1.output, Nat.le_trans h1.size h2.size, fun j hj hjr => ?_⟩
  rw [h2.block j (Nat.lt_of_lt_of_le hj h1.size) (fun e => ?_)]
  · exact h1.block j hj hjr
  · rcases hr j e.symm with h | h
    · omega
    · exact hjr h.symm
theorem grown_set (w : World) (X : Nat) (v : Value) : w.grownBy (w.setCell ⟨X, 0, none⟩ v) (some X) := ⟨rfl, rfl, rfl, by simp, fun j _ hj => heap_setCell_other w ⟨X, 0, none⟩ j v (fun e => hj (by rw [e]))⟩

/-! ### Pick -/
/-- What lies where, after i rounds. -/
structure PInv (w : World) (X M R B k : Nat) (i : Nat) (L : List Int) (s : Int) (wr : World) : Prop where
  len : L.length = i
  x : wr.heap[X]? = some (.cells #[.int .u64 s] 41 (0, 0))
  m : wr.heap[M]? = some (.map (ents L) L.length)
  b : wr.heap[B]? = some (.cells #[.slice (some ⟨R, 0, none⟩) i k] 33 (0, 0))
  r : wr.ownsRow w.heap.size 32 1 (.slice (some ⟨R, 0, none⟩) i k) i (L.map (Value.int .u64))
  g : w.grownBy wr (some X)

/-- What Pick leaves. -/
def Picked (X : Nat) (m : Int) (k : Nat) (s : Int) (w : World) (e : Ending) (w' : World) : Prop :=
  ∃ L s' A R, Floyd m s k L s' ∧ SortOf L A ∧ w.heap.size ≤ R ∧ e = .returned (.slice (some ⟨R, 0, none⟩) k k) ∧ (∀ t, t < k → w'.cell? ⟨R, t, none⟩ = some (.int .u64 (A.getD t 0))) ∧
    w'.cell? ⟨X, 0, none⟩ = some (.int .u64 s') ∧ w.grownBy w' (some X)

theorem info32 : (Ybaf.prog.info? 32).map (fun i => (i.zero, i.size, i.bytes)) = some (some (.int .u64 0), 1, 8) := by kernel_rfl

/-- The draw turns the state's block alone. -/
theorem PInv.drew {w : World} {X M R B k i : Nat} {L : List Int} {s s' : Int} {wr : World} (h : PInv w X M R B k i L s wr) (hX : X < w.heap.size) (hM : w.heap.size ≤ M) (hR : w.heap.size ≤ R) (hB : w.heap.size ≤ B) :
    PInv w X M R B k i L s' (wr.setCell ⟨X, 0, none⟩ (.int .u64 s')) := by
  have ho : ∀ j, j ≠ X → (wr.setCell ⟨X, 0, none⟩ (.int .u64 s')).heap[j]? = wr.heap[j]? := fun j hj => heap_setCell_other wr ⟨X, 0, none⟩ j _ hj
  refine ⟨h.len, ?_, (ho M (by omega)).trans h.m, (ho B (by omega)).trans h.b, ?_, grown_on h.g (grown_set _ _ _) (fun y hy => Or.inr hy)⟩
  · have := heap_setCell_same wr X 0 _ 41 (.int .u64 s') h.x
    simpa using this
  · refine h.r.kept (grown_set _ _ _) (Or.inr ?_)
    simp [Value.ownBlock]
    omega
theorem PInv.lts {w : World} {X M R B k i : Nat} {L : List Int} {s : Int} {wr : World} (h : PInv w X M R B k i L s wr) : M < wr.heap.size ∧ B < wr.heap.size ∧ R < wr.heap.size := ⟨(Array.getElem?_eq_some_iff.1 h.m).1, (Array.getElem?_eq_some_iff.1 h.b).1, (h.r.lt R rfl).2⟩
theorem PInv.put {w : World} {X M R B k i : Nat} {L : List Int} {s : Int} {wr w2 : World} (h : PInv w X M R B k i L s wr) (hX : X < w.heap.size) (hM : w.heap.size ≤ M) (hMR : M < R) (hRB : R < B) (hg : wr.grownBy w2 (some M)) :
    w2.heap[X]? = some (.cells #[.int .u64 s] 41 (0, 0)) ∧ w2.heap[B]? = some (.cells #[.slice (some ⟨R, 0, none⟩) i k] 33 (0, 0)) ∧ w2.ownsRow w.heap.size 32 1 (.slice (some ⟨R, 0, none⟩) i k) i (L.map (Value.int .u64)) := by
  have hl := h.lts
  refine ⟨(hg.block X (by omega) (by simp; omega)).trans h.x, (hg.block B (by omega) (by simp; omega)).trans h.b, h.r.kept hg (Or.inr ?_)⟩
  simp [Value.ownBlock]
  omega
theorem PInv.more {w : World} {X M R B k i : Nat} {L : List Int} {s : Int} {wr w2 w3 : World} {y : Int} (h : PInv w X M R B k i L s wr) (hX : X < w.heap.size) (hM : w.heap.size ≤ M) (hMR : M < R) (hRB : R < B)
    (hm : w2.heap[M]? = some (.map (ents (L ++ [y])) (L ++ [y]).length)) (ho : wr.grownBy w2 (some M)) (o : Obj)
    (hown : w3.ownsRow w.heap.size 32 1 (.slice (some ⟨R, 0, none⟩) (i + 1) k) (i + 1) (L.map (Value.int .u64) ++ [.int .u64 y])) (hg : (w2.alloc o).grownBy w3 (some R)) :
    PInv w X M R B k (i + 1) (L ++ [y]) s (w3.setCell ⟨B, 0, none⟩ (.slice (some ⟨R, 0, none⟩) (i + 1) k)) := by
  have hl := h.lts
  have hz0 := h.g.size
  have hz1 := ho.size
  have hsa : (w2.alloc o).heap.size = w2.heap.size + 1 := by simp
  have hz := hg.size
  have a1 : ∀ j, j < w2.heap.size → j ≠ R → w3.heap[j]? = w2.heap[j]? := fun j hj hjR => by
    rw [hg.block j (by omega) (by simpa using hjR)]
    exact (World.grownBy_alloc w2 o none).block j hj (by simp)
  obtain ⟨p1, p2, _⟩ := h.put (w2 := w2) hX hM hMR hRB ho
  have a2 : ∀ j, j ≠ B → (w3.setCell ⟨B, 0, none⟩ (.slice (some ⟨R, 0, none⟩) (i + 1) k)).heap[j]? = w3.heap[j]? := fun j hj => heap_setCell_other w3 ⟨B, 0, none⟩ j _ hj
  refine ⟨by simp [h.len], ?_, ?_, ?_, ?_, ?_⟩
  · rw [a2 X (by omega), a1 X (by omega) (by omega)]; exact p1
  · rw [a2 M (by omega), a1 M (by omega) (by omega)]; exact hm
  · have := heap_setCell_same w3 B 0 _ 33 (.slice (some ⟨R, 0, none⟩) (i + 1) k) ((a1 B (by omega) (by omega)).trans p2)
    simpa using this
  · rw [List.map_append]
    refine hown.kept (grown_set _ _ _) (Or.inr ?_)
    simp [Value.ownBlock]
    omega
  · refine grown_on (grown_on (grown_on (grown_on h.g ho (fun y hy => Or.inl (by have := Option.some.inj hy; omega))) (World.grownBy_alloc w2 o none) (fun y hy => by cases hy)) hg (fun y hy => Or.inl (by have := Option.some.inj hy; omega))) (grown_set _ _ _) (fun y hy => Or.inl (by have := Option.some.inj hy; omega))
theorem PInv.cellB {w : World} {X M R B k i : Nat} {L : List Int} {s : Int} {wr : World} (h : PInv w X M R B k i L s wr) : wr.cell? ⟨B, 0, none⟩ = some (.slice (some ⟨R, 0, none⟩) i k) ∧ wr.frozen? ⟨B, 0, none⟩ = false := by
  refine ⟨?_, frozen_of_row wr B 0 _ _ h.b⟩
  rw [cell_of_row wr B 0 _ _ _ h.b]; rfl
theorem PInv.cellX {w : World} {X M R B k i : Nat} {L : List Int} {s : Int} {wr : World} (h : PInv w X M R B k i L s wr) : wr.cell? ⟨X, 0, none⟩ = some (.int .u64 s) ∧ wr.frozen? ⟨X, 0, none⟩ = false := by
  refine ⟨?_, frozen_of_row wr X 0 _ _ h.x⟩
  rw [cell_of_row wr X 0 _ _ _ h.x]; rfl
theorem PInv.cellR {w : World} {X M R B k i : Nat} {L : List Int} {s : Int} {wr : World} (h : PInv w X M R B k i L s wr) (t : Nat) (ht : t < i) : wr.cell? ⟨R, t, none⟩ = some (.int .u64 (L.getD t 0)) := by
  have hl := h.len
  rw [h.r.cellAt t (by omega)]
  simp [List.getD, show t < L.length by omega]
end Go.Proofs.YbulkdmhkFmt
