import Derived.Test.YbulkdmhyW1
namespace Go.Proofs.Ybulkdmhy
open Go.RowKit Go.MuLone

/-- A connection's cells. -/
def con (S : Nat) : Array Value := #[.pointer (some ⟨S, 0, none⟩), .nilIface, .string ⟨#[]⟩, .pointer none, .pointer none]
/-- The row of connections after i rounds. -/
def rowL (H n i : Nat) : List Value := (List.range (n + 1)).map fun j => if j < i then cp H j else .pointer none
theorem rowL_get (H n i t : Nat) : (rowL H n i)[t]? = if t < n + 1 then some (if t < i then cp H t else .pointer none) else none := by
  unfold rowL
  by_cases h : t < n + 1
  · simp [h]
  · simp [h]
theorem rowL_set (H n i : Nat) : (rowL H n i).set i (cp H i) = rowL H n (i + 1) := by
  apply List.ext_getElem?
  intro t
  rw [List.getElem?_set, rowL_get, rowL_get]
  by_cases h : i = t
  · subst h
    by_cases c : i < n + 1
    · simp [c, rowL]
    · simp [c, rowL]
  · by_cases c : t < n + 1
    · simp [h, c]
      by_cases d : t < i
      · simp [d, show t < i + 1 by omega]
      · simp [d, show ¬ t < i + 1 by omega]
    · simp [h, c]
theorem rowL_zero (H n : Nat) : List.replicate (n + 1) (Value.pointer none) = rowL H n 0 := by
  apply List.ext_getElem?
  intro t
  rw [rowL_get]
  by_cases c : t < n + 1
  · simp [c]
  · simp [c]

/-- After i rounds of the making. -/
structure CInv (w : World) (S M R H n : Nat) (st : Bool) (i : Nat) (wr : World) : Prop where
  sz : wr.heap.size = H + i
  fs : wr.heap[S]? = some (.cells (srv M st 0) 42 (0, 0))
  fm : wr.heap[M]? = some (.map #[] 0)
  own : wr.ownsRow w.heap.size 44 1 (.slice (some ⟨R, 0, none⟩) (n + 1) (n + 1)) (n + 1) (rowL H n i)
  fc : ∀ j, j < i → wr.heap[H + j]? = some (.cells (con S) 50 (0, 0))
  g : w.grownBy wr none
/-- The connections made, m of them in the map. -/
structure DInv (w : World) (S M R H n : Nat) (st : Bool) (f : Nat → Int) (m : Nat) (wr : World) : Prop where
  fs : wr.heap[S]? = some (.cells (srv M st 0) 42 (0, 0))
  fm : wr.heap[M]? = some (.map (ent H f m) m)
  own : wr.ownsRow w.heap.size 44 1 (.slice (some ⟨R, 0, none⟩) (n + 1) (n + 1)) (n + 1) (rowL H n (n + 1))
  fc : ∀ j, j ≤ n → wr.heap[H + j]? = some (.cells (con S) 50 (0, 0))
  g : w.grownBy wr none

theorem CInv.start {w w1 : World} {n : Nat} {st : Bool}
    (hown : w1.ownsRow w.heap.size 44 1 (.slice (some ⟨w.heap.size + 1 + 1, 0, none⟩) (n + 1) (n + 1)) (n + 1) (List.replicate (n + 1) (.pointer none)))
    (hg : ((w.alloc (.map #[] 0)).alloc (.cells (srv w.heap.size st 0) 42)).grownBy w1 none) : CInv w (w.heap.size + 1) w.heap.size (w.heap.size + 1 + 1) w1.heap.size n st 0 w1 := by
  have hz := hg.size
  have e1 : (w.alloc (.map #[] 0)).heap.size = w.heap.size + 1 := by simp
  have e2 : ((w.alloc (.map #[] 0)).alloc (.cells (srv w.heap.size st 0) 42)).heap.size = w.heap.size + 2 := by simp
  have g1 : w.grownBy ((w.alloc (.map #[] 0)).alloc (.cells (srv w.heap.size st 0) 42)) none := grown_on (World.grownBy_alloc w _ none) (World.grownBy_alloc _ _ none) (fun y hy => by cases hy)
  refine ⟨rfl, ?_, ?_, by rw [← rowL_zero]; exact hown, fun j hj => absurd hj (Nat.not_lt_zero _), grown_on g1 hg (fun y hy => by cases hy)⟩
  · rw [hg.block _ (by omega) (by simp)]
    have := heap_alloc_new (w.alloc (.map #[] 0)) (.cells (srv w.heap.size st 0) 42)
    rw [e1] at this
    exact this
  · rw [hg.block _ (by omega) (by simp), (World.grownBy_alloc (w.alloc (.map #[] 0)) _ none).block _ (by omega) (by simp)]
    exact heap_alloc_new _ _
theorem CInv.more {w : World} {S M R H n i : Nat} {st : Bool} {wr : World} (h : CInv w S M R H n st i wr) (hw : w.heap.size ≤ M) (hMS : M < S) (hSR : S < R) (hRH : R < H) :
    CInv w S M R H n st (i + 1) ((wr.setCell ⟨R, i, none⟩ (.pointer (some ⟨wr.heap.size, 0, none⟩))).alloc (.cells (con S) 50)) := by
  have hz := h.sz
  have hv : (Value.pointer (some ⟨wr.heap.size, 0, none⟩)) = cp H i := by unfold cp; rw [h.sz]
  rw [hv]
  obtain ⟨o1, o2⟩ := h.own.stored i (cp H i)
  rw [rowL_set] at o1
  have hs : (wr.setCell ⟨R, i, none⟩ (cp H i)).heap.size = wr.heap.size := by simp
  have hb : ∀ j, j < wr.heap.size → j ≠ R → ((wr.setCell ⟨R, i, none⟩ (cp H i)).alloc (.cells (con S) 50)).heap[j]? = wr.heap[j]? := fun j hj hjR => by
    rw [(World.grownBy_alloc (wr.setCell ⟨R, i, none⟩ (cp H i)) _ none).block j (by omega) (by simp)]
    exact heap_setCell_other _ ⟨R, i, none⟩ j _ hjR
  refine ⟨by simp; omega, (hb S (by omega) (by omega)).trans h.fs, (hb M (by omega) (by omega)).trans h.fm, o1.alloc _, fun j hj => ?_, grown_on (grown_on h.g o2 (fun y hy => Or.inl (by have : R = y := Option.some.inj hy; omega))) (World.grownBy_alloc _ _ none) (fun y hy => by cases hy)⟩
  by_cases c : j = i
  · subst c
    have := heap_alloc_new (wr.setCell ⟨R, j, none⟩ (cp H j)) (.cells (con S) 50)
    rw [hs, h.sz] at this
    exact this
  · rw [hb (H + j) (by omega) (by omega)]
    exact h.fc j (by omega)
theorem CInv.whole {w : World} {S M R H n : Nat} {st : Bool} {wr : World} (h : CInv w S M R H n st (n + 1) wr) (f : Nat → Int) : DInv w S M R H n st f 0 wr :=
  ⟨h.fs, h.fm, h.own, fun j hj => h.fc j (by omega), h.g⟩

theorem DInv.conns {w : World} {S M R H n m : Nat} {st : Bool} {f : Nat → Int} {wr : World} (h : DInv w S M R H n st f m wr) : Conns H n wr := fun j hj => ⟨_, h.fc j hj⟩
theorem DInv.drewN {w : World} {S M R H n m : Nat} {st : Bool} {f : Nat → Int} {wr : World} (h : DInv w S M R H n st f m wr) (q : Nat) : DInv w S M R H n st f m (wr.drewN q) := ⟨h.fs, h.fm, h.own, h.fc, ⟨h.g.os, h.g.tape, h.g.output, h.g.size, h.g.block⟩⟩
theorem DInv.drew {w : World} {S M R H n m : Nat} {st : Bool} {f : Nat → Int} {wr : World} (h : DInv w S M R H n st f m wr) : DInv w S M R H n st f m wr.drew := ⟨h.fs, h.fm, h.own, h.fc, ⟨h.g.os, h.g.tape, h.g.output, h.g.size, h.g.block⟩⟩
/-- The map alone turned. -/
theorem DInv.turn {w : World} {S M R H n m m' : Nat} {st : Bool} {f f' : Nat → Int} {wr w2 : World} (h : DInv w S M R H n st f m wr) (hw : w.heap.size ≤ M) (hMS : M < S) (hSR : S < R) (hRH : R < H)
    (hm : w2.heap[M]? = some (.map (ent H f' m') m')) (hg : wr.grownBy w2 (some M)) : DInv w S M R H n st f' m' w2 := by
  have hS : S < wr.heap.size := (Array.getElem?_eq_some_iff.1 h.fs).1
  refine ⟨(hg.block S hS (by simp; omega)).trans h.fs, hm, h.own.kept hg (Or.inr (by simp [Value.ownBlock]; omega)), fun j hj => ?_, grown_on h.g hg (fun y hy => Or.inl (by have := Option.some.inj hy; omega))⟩
  rw [hg.block (H + j) (Array.getElem?_eq_some_iff.1 (h.fc j hj)).1 (by simp; omega)]
  exact h.fc j hj
theorem DInv.cellR {w : World} {S M R H n m : Nat} {st : Bool} {f : Nat → Int} {wr : World} (h : DInv w S M R H n st f m wr) (t : Nat) (ht : t ≤ n) : wr.cell? ⟨R, t, none⟩ = some (cp H t) := by
  rw [h.own.cellAt t (by omega), rowL_get, if_pos (by omega), if_pos (by omega)]
theorem DInv.old {w : World} {S M R H n m : Nat} {st : Bool} {f : Nat → Int} {wr : World} (h : DInv w S M R H n st f m wr) {a : Addr} {v : Value} (hc : w.cell? a = some v) : wr.cell? a = some v := h.g.cell hc (by simp)
theorem DInv.cells {w : World} {S M R H n m : Nat} {st : Bool} {f : Nat → Int} {wr : World} (h : DInv w S M R H n st f m wr) :
    wr.cell? ⟨S, 0, none⟩ = some (.pointer none) ∧ wr.cell? ⟨S, 5, none⟩ = some (.map (some M)) ∧ wr.cell? ⟨S, 6, none⟩ = some (.bool st) ∧ wr.cell? ⟨S, 3, none⟩ = some (.int .i32 0) ∧ wr.frozen? ⟨S, 3, none⟩ = false := by
  refine ⟨?_, srv_map h.fs, ?_, (srv_mu h.fs).1, (srv_mu h.fs).2⟩
  · rw [cell_of_row wr S 0 _ _ _ h.fs]; rfl
  · rw [cell_of_row wr S 6 _ _ _ h.fs]; rfl
theorem DInv.conn {w : World} {S M R H n m : Nat} {st : Bool} {f : Nat → Int} {wr : World} (h : DInv w S M R H n st f m wr) (j : Nat) (hj : j ≤ n) :
    wr.cell? ⟨H + j, 0, none⟩ = some (.pointer (some ⟨S, 0, none⟩)) ∧ wr.cell? ⟨H + j, 1, none⟩ = some .nilIface ∧ wr.cell? ⟨H + j, 2, none⟩ = some (.string ⟨#[]⟩) ∧ wr.cell? ⟨H + j, 3, none⟩ = some (.pointer none) ∧ wr.cell? ⟨H + j, 4, none⟩ = some (.pointer none) := by
  have e := fun o => cell_of_row wr (H + j) o _ _ _ (h.fc j hj)
  exact ⟨(e 0).trans rfl, (e 1).trans rfl, (e 2).trans rfl, (e 3).trans rfl, (e 4).trans rfl⟩
end Go.Proofs.Ybulkdmhy
