import Derived.Test.YbulkdmeeW2
namespace Go.Proofs.Ybulkdmee
open Go.RowKit

/-- Cell i of element j of the row of 'function's that the law builds. -/
def fcell (nm : Nat → ByteArray) (lg : Nat → Bool) (bb n j : Nat) : Nat → Value
  | 0 => .string (nm j)
  | 1 => .slice (some ⟨bb, 0, none⟩) j n
  | 2 => .int .i64 0
  | 3 => .nilFunc
  | _ => .bool (lg j)
/-- Cell i of a zero 'function'. -/
def zcell : Nat → Value
  | 0 => .string ⟨#[]⟩
  | 1 => .slice none 0 0
  | 2 => .int .i64 0
  | 3 => .nilFunc
  | _ => .bool false
/-- The row when k elements have been laid. -/
def fsArr (nm : Nat → ByteArray) (lg : Nat → Bool) (bb n k : Nat) : Array Value :=
  Array.ofFn (n := n * 5) fun t => if t.val / 5 < k then fcell nm lg bb n (t.val / 5) (t.val % 5) else zcell (t.val % 5)

theorem fsArr_get (nm : Nat → ByteArray) (lg : Nat → Bool) (bb n k t : Nat) (h : t < n * 5) : (fsArr nm lg bb n k)[t]? = some (if t / 5 < k then fcell nm lg bb n (t / 5) (t % 5) else zcell (t % 5)) := by
  unfold fsArr
  rw [Array.getElem?_ofFn, dif_pos h]
theorem fsArr_size (nm : Nat → ByteArray) (lg : Nat → Bool) (bb n k : Nat) : (fsArr nm lg bb n k).size = n * 5 := by simp [fsArr]

theorem fsArr_zero (nm : Nat → ByteArray) (lg : Nat → Bool) (bb n : Nat) : madeCells #[.string ⟨#[]⟩, .slice none 0 0, .int .i64 0, .nilFunc, .bool false] (n * 5) = fsArr nm lg bb n 0 := by
  apply Array.ext
  · simp [size_madeCells, fsArr_size]
  · intro t h1 h2
    have h : t < n * 5 := by simpa [size_madeCells] using h1
    have e := fsArr_get nm lg bb n 0 t h
    rw [Array.getElem?_eq_getElem h2] at e
    rw [Option.some.inj e]
    simp only [Nat.not_lt_zero, if_false, madeCells, Array.getElem_map, Array.getElem_range]
    have h5 : t % 5 < 5 := Nat.mod_lt _ (by omega)
    generalize t % 5 = q at h5
    match q, h5 with
    | 0, _ => rfl
    | 1, _ => rfl
    | 2, _ => rfl
    | 3, _ => rfl
    | 4, _ => rfl

theorem fsArr_step (nm : Nat → ByteArray) (lg : Nat → Bool) (bb n k : Nat) (hk : k < n) :
    (((((fsArr nm lg bb n k).setIfInBounds (k * 5) (fcell nm lg bb n k 0)).setIfInBounds (k * 5 + 1) (fcell nm lg bb n k 1)).setIfInBounds (k * 5 + 2) (fcell nm lg bb n k 2)).setIfInBounds (k * 5 + 3) (fcell nm lg bb n k 3)).setIfInBounds (k * 5 + 4) (fcell nm lg bb n k 4) = fsArr nm lg bb n (k + 1) := by
  apply Array.ext_getElem?
  intro t
  by_cases h : t < n * 5
  · rw [fsArr_get nm lg bb n (k + 1) t h]
    simp only [Array.getElem?_setIfInBounds, Array.size_setIfInBounds, fsArr_size]
    rw [fsArr_get nm lg bb n k t h]
    by_cases hq : t / 5 = k
    · have : t % 5 = 0 ∨ t % 5 = 1 ∨ t % 5 = 2 ∨ t % 5 = 3 ∨ t % 5 = 4 := by omega
      rcases this with h' | h' | h' | h' | h'
      · rw [if_neg (by omega), if_neg (by omega), if_neg (by omega), if_neg (by omega), if_pos (by omega), if_pos (by omega), if_pos (by omega), h', hq]
      · rw [if_neg (by omega), if_neg (by omega), if_neg (by omega), if_pos (by omega), if_pos (by omega), if_pos (by omega), h', hq]
      · rw [if_neg (by omega), if_neg (by omega), if_pos (by omega), if_pos (by omega), if_pos (by omega), h', hq]
      · rw [if_neg (by omega), if_pos (by omega), if_pos (by omega), if_pos (by omega), h', hq]
      · rw [if_pos (by omega), if_pos (by omega), if_pos (by omega), h', hq]
    · rw [if_neg (by omega), if_neg (by omega), if_neg (by omega), if_neg (by omega), if_neg (by omega)]
      by_cases hl : t / 5 < k
      · rw [if_pos hl, if_pos (by omega)]
      · rw [if_neg hl, if_neg (by omega)]
  · rw [Array.getElem?_eq_none (by simp [fsArr_size]; omega), Array.getElem?_eq_none (by simp [fsArr_size]; omega)]

theorem fs_step (wr : World) (nm : Nat → ByteArray) (lg : Nat → Bool) (bb n k F : Nat) (hk : k < n) (hF : wr.heap[F]? = some (.cells (fsArr nm lg bb n k) 59 (0, 0))) :
    (((((wr.setCell ⟨F, k * 5, none⟩ (.string (nm k))).setCell ⟨F, k * 5 + 1, none⟩ (.slice (some ⟨bb, 0, none⟩) k n)).setCell ⟨F, k * 5 + 2, none⟩ (.int .i64 0)).setCell ⟨F, k * 5 + 3, none⟩ .nilFunc).setCell ⟨F, k * 5 + 4, none⟩ (.bool (lg k))).heap[F]? = some (.cells (fsArr nm lg bb n (k + 1)) 59 (0, 0)) := by
  have h1 := heap_setCell_same wr F (k * 5) _ 59 (.string (nm k)) hF
  have h2 := heap_setCell_same _ F (k * 5 + 1) _ 59 (.slice (some ⟨bb, 0, none⟩) k n) h1
  have h3 := heap_setCell_same _ F (k * 5 + 2) _ 59 (.int .i64 0) h2
  have h4 := heap_setCell_same _ F (k * 5 + 3) _ 59 .nilFunc h3
  have h5 := heap_setCell_same _ F (k * 5 + 4) _ 59 (.bool (lg k)) h4
  rw [h5]
  have := fsArr_step nm lg bb n k hk
  simp only [fcell] at this
  rw [this]

theorem fs_cell (wr : World) (nm : Nat → ByteArray) (lg : Nat → Bool) (bb n k F j i : Nat) (hF : wr.heap[F]? = some (.cells (fsArr nm lg bb n k) 59 (0, 0))) (hj : j < n) (hi : i < 5) :
    wr.cell? ⟨F, j * 5 + i, none⟩ = some (if j < k then fcell nm lg bb n j i else zcell i) := by
  rw [cell_of_row wr F _ _ _ _ hF, fsArr_get nm lg bb n k _ (by omega)]
  have e1 : (j * 5 + i) / 5 = j := by omega
  have e2 : (j * 5 + i) % 5 = i := by omega
  rw [e1, e2]

theorem fs_row (wr : World) (nm : Nat → ByteArray) (lg : Nat → Bool) (bb n F : Nat) (hF : wr.heap[F]? = some (.cells (fsArr nm lg bb n n) 59 (0, 0))) : FRow wr F bb n nm lg := by
  intro j hj
  have h := fun i hi => fs_cell wr nm lg bb n n F j i hF hj hi
  simp only [hj, if_true] at h
  exact ⟨h 0 (by omega), h 1 (by omega), h 2 (by omega), h 3 (by omega), h 4 (by omega)⟩

theorem fs_zero (wr : World) (nm : Nat → ByteArray) (lg : Nat → Bool) (bb n k F : Nat) (hF : wr.heap[F]? = some (.cells (fsArr nm lg bb n k) 59 (0, 0))) (hk : k < n) :
    wr.cell? ⟨F, k * 5, none⟩ = some (.string ⟨#[]⟩) ∧ wr.cell? ⟨F, k * 5 + 1, none⟩ = some (.slice none 0 0) ∧ wr.cell? ⟨F, k * 5 + 2, none⟩ = some (.int .i64 0) ∧
    wr.cell? ⟨F, k * 5 + 3, none⟩ = some .nilFunc ∧ wr.cell? ⟨F, k * 5 + 4, none⟩ = some (.bool false) := by
  have h := fun i hi => fs_cell wr nm lg bb n k F k i hF hk hi
  simp only [Nat.lt_irrefl, if_false] at h
  exact ⟨h 0 (by omega), h 1 (by omega), h 2 (by omega), h 3 (by omega), h 4 (by omega)⟩
end Go.Proofs.Ybulkdmee
