import Derived.Test.YbulkdmhkFmtC2
import Derived.Test.YbulkdmhkFmtC3
import Derived.Test.YbulkdmhkFmtC4
import Derived.Shelf.GgSortFunc.Whole
import Derived.Shelf.GgSortFunc.Tiny
import Derived.Deep.QuietTactic
import Derived.Lib.RowBridge
import Derived.Lib.SortBridge
import Derived.Sort.LotA
import Derived.MapKept
import Derived.WalkKit
namespace Go.Proofs.YbulkdmhkFmt
open Go.Shelf Go.RowKit Go.Lib Go.Sort

/-! ### Is x in the row? -/
set_option maxHeartbeats 1000000 in
theorem has10 (g i cap : Nat) (L : List Int) (x : Int) (w : World) (hi : L.length = i) (hi' : i < 9223372036854775808) (hc : ∀ t, t < i → w.cell? ⟨g, t, none⟩ = some (.int .u64 (L.getD t 0))) :
    Calls Ybaf.prog 10 #[.slice (some ⟨g, 0, none⟩) i cap, .int .u64 x] w fun e w' => e = .returned (.bool (decide (x ∈ L))) ∧ w' = w := by
  have HC : Hid (∀ t, t < i → w.cell? ⟨g, t, none⟩ = some (.int .u64 (L.getD t 0))) := hc
  have HI : Hid (L.length = i) := hi
  clear hc hi
  go_enter Ybaf.func10, Ybaf.ntmps10
  go_wp2
  go_loop [5] (fun v => ∃ j : Nat, j ≤ i ∧ v = .int .i64 j ∧ ∀ t, t < j → L.getD t 0 ≠ x) (fun v => i - (intOf v).toNat)
  case atStart => exact ⟨0, Nat.zero_le _, rfl, fun t ht => absurd ht (Nat.not_lt_zero _)⟩
  case round =>
    obtain ⟨j, hj, rfl, hno⟩ := hrel
    have HN : Hid (∀ t, t < j → L.getD t 0 ≠ x) := hno
    clear hno
    by_cases hji : j < i
    · have cj := HC.out j hji
      obtain ⟨y, hy⟩ : ∃ y, y = L.getD j 0 := ⟨_, rfl⟩
      rw [← hy] at cj
      have HY : Hid (y = L.getD j 0) := hy
      clear hy
      by_cases he : y = x
      · go_wp2
        have hm : x ∈ L := by
          have hl : j < L.length := by rw [HI.out]; exact hji
          have e : L.getD j 0 = L[j] := by simp [List.getD, hl]
          rw [← he, HY.out, e]
          exact List.getElem_mem hl
        go_ret
        exact ⟨by simp [hm], rfl⟩
      · go_wp2
        go_round
        case rel =>
          refine ⟨j + 1, by omega, by go_num, fun t ht => ?_⟩
          by_cases c : t = j
          · subst c; rw [← HY.out]; exact he
          · exact HN.out t (by omega)
        case measure => simp [intOf]; omega
    · have hm : x ∉ L := by
        intro hx
        obtain ⟨t, ht, rfl⟩ := List.getElem_of_mem hx
        have := HN.out t (by have := HI.out; omega)
        exact this (by simp [List.getD, ht])
      go_wp2
      go_ret
      exact ⟨rfl, rfl⟩

/-! ### sort.Slice over a row of uint64 -/
set_option maxHeartbeats 2000000 in
theorem less20 (blk off c Bs size : Nat) (W : World) (G : Nat → Int) (hs : W.cell? ⟨Bs, 0, none⟩ = some (.slice (some ⟨blk, off, none⟩) size c))
    (hc : ∀ t, t < size → W.cell? ⟨blk, off + t, none⟩ = some (.int .u64 (G t))) (i j : Nat) (hi : i < size) (hj : j < size) :
    Calls Ybaf.prog 20 #[.int .i64 i, .int .i64 j, .pointer (some ⟨Bs, 0, none⟩)] W fun e w' => e = .returned (.bool (decide (G i < G j))) ∧ ∃ q, w' = W.drewN q := by
  have ci := hc i hi
  have cj := hc j hj
  go_enter Ybaf.func20, Ybaf.ntmps20
  go_wp2
  go_quiet (fail)
  go_wp2
  go_ret
  exact ⟨rfl, nq, rfl⟩

theorem siT_desc : (Ybaf.prog.info? 33).map (·.desc) = some (.slice 32) := by kernel_rfl
theorem siE_all : (Ybaf.prog.info? 32).map (fun i => (i.hasPointers, i.bytes, i.size)) = some (false, 8, 1) := by kernel_rfl
theorem siT_parts : ∃ i, Ybaf.prog.info? 33 = some i ∧ i.desc = .slice 32 := Option.map_eq_some_iff.1 siT_desc
theorem siE_parts : ∃ i, Ybaf.prog.info? 32 = some i ∧ i.hasPointers = false ∧ i.bytes = 8 ∧ i.size = 1 := by
  obtain ⟨i, hi, h⟩ := Option.map_eq_some_iff.1 siE_all
  simp only [Prod.mk.injEq] at h
  exact ⟨i, hi, h.1, h.2.1, h.2.2⟩
theorem siK (ie : TypeInfo) (a : ie.hasPointers = false) (b : ie.bytes = 8) (n : Nat) (h2 : 2 ≤ n) : Lib.swapperK n ie 11 = 5 := by
  have c : (n == 0) = false := by simp; omega
  have d : (n == 1) = false := by simp; omega
  simp [Lib.swapperK, a, b, c, d]

/-- The row sorted, the rest of the cells as they were. -/
def SortedAt (R : Nat) (L : List Int) (w : World) (e : Ending) (w' : World) : Prop :=
  e = .returned (.tuple #[]) ∧ ∃ A, SortOf L A ∧ (∀ t, t < A.length → w'.cell? ⟨R, t, none⟩ = some (.int .u64 (A.getD t 0))) ∧ w.grownBy w' (some R)

theorem sortOf_arrays (L : List Int) (d' : Array Int) (hp : PermIn 0 L.toArray.size L.toArray d') (hs : SortedIn ltInt 0 L.toArray.size d') : SortOf L d'.toList := by
  obtain ⟨h1, _, h3⟩ := hp
  have h1' : d'.size = L.length := by simpa using h1
  refine ⟨?_, ?_⟩
  · have e1 : d'.extract 0 L.toArray.size = d' := by rw [← h1, Array.extract_size]
    have e2 : L.toArray.extract 0 L.toArray.size = L.toArray := Array.extract_size
    rw [e1, e2] at h3
    exact h3
  · unfold Sorted
    rw [List.pairwise_iff_getElem]
    intro i j hi hj hij
    have := hs i j (Nat.zero_le _) hij (by simp at hj ⊢; omega)
    simp only [ltInt, decide_eq_false_iff_not] at this
    have hi' : i < d'.size := by simpa using hi
    have hj' : j < d'.size := by simpa using hj
    rw [getElem!_pos d' j hj', getElem!_pos d' i hi'] at this
    simp only [Array.getElem_toList]
    omega

set_option maxHeartbeats 2000000 in
theorem sort19 (R B n cap : Nat) (L : List Int) (w : World) (hl : L.length = n) (hn : n < 4611686018427387904) (hB : w.cell? ⟨B, 0, none⟩ = some (.slice (some ⟨R, 0, none⟩) n cap)) (hBR : B ≠ R)
    (hc : ∀ t, t < n → w.cell? ⟨R, t, none⟩ = some (.int .u64 (L.getD t 0))) (hf : ∀ t, t < n → w.frozen? ⟨R, t, none⟩ = false) :
    Calls Ybaf.prog 19 #[.iface 33 (.slice (some ⟨R, 0, none⟩) n cap), .func (.func 20) #[] #[.pointer (some ⟨B, 0, none⟩)]] w fun e w' => SortedAt R L w e w' := by
  obtain ⟨siT, t1, t2⟩ := siT_parts
  obtain ⟨siE, e1, e2, e3, e4⟩ := siE_parts
  have hBl : B < w.heap.size := World.block_lt_of_cell? w ⟨B, 0, none⟩ hB
  have hsz : L.toArray.size = n := by simpa using hl
  by_cases h2 : 2 ≤ n
  · have hRl : R < w.heap.size := World.block_lt_of_cell? w ⟨R, 0, none⟩ (hc 0 (by omega))
    have hH : Holds (Value.int .u64) w R 0 L.toArray := by
      intro j hj
      have hj' : j < L.length := by simpa using hj
      have e : L.toArray[j]! = L.getD j 0 := by rw [getElem!_pos L.toArray j hj]; simp [List.getD, hj']
      rw [Nat.zero_add, e]
      exact ⟨hc j (by omega), hf j (by omega)⟩
    have hless : LessReads Ybaf.prog 20 #[.pointer (some ⟨B, 0, none⟩)] (Value.int .u64) ltInt R 0 L.toArray.size w := by
      intro m os dk hs i j hi hj
      have e : sortWorld (Value.int .u64) w R 0 m dk os = putRow (Value.int .u64) (grow (Sort.ahead w m) os) R 0 dk := by
        unfold sortWorld; rw [putRow_grow _ (Sort.ahead w m) _ R 0 _ hRl]
      have hHg : Holds (Value.int .u64) (grow (Sort.ahead w m) os) R 0 L.toArray := holds_grow _ _ _ R 0 L.toArray hRl (holds_ahead _ _ _ _ _ _ hH)
      refine less20 R 0 cap B L.toArray.size _ (fun t => dk[t]!) ?_ (fun t ht => ?_) i j hi hj
      · rw [e, cell?_putRow_other _ _ R 0 dk _ (Or.inl (by exact hBR)), cell?_grow _ _ _ (by exact hBl), hsz]
        exact hB
      · rw [e]; exact cell?_putRow _ _ R 0 L.toArray dk hHg hs t (by omega)
    have hS := Any.sort_Slice_sorted Ybaf.sa6 33 32 siT siE t1 t2 (by kernel_rfl) e1 11 (fun _ => by kernel_rfl) e4 (fun _ => by kernel_rfl) (Value.int .u64) (fun _ => rfl) ltInt swo_ltInt 20 _
      (enters_of Ybaf.func20 (by kernel_rfl) rfl) R 0 cap L.toArray (by rw [hsz]; exact h2) (by rw [hsz]; exact hn) 33 (by rw [siK siE e2 e3 _ (by rw [hsz]; exact h2)]; kernel_rfl) true
      (fun args W => run_callFunc_extern Ybaf.func33 (by kernel_rfl) (by kernel_rfl) (by kernel_rfl) (e := Extern.ReflectliteSwapper.swap true) (by kernel_rfl) args W) w hless hH hRl
    change Calls Ybaf.prog 19 _ _ _ at hS
    rw [hsz] at hS
    refine hS.mono ?_
    rintro e w' ⟨rfl, d', q, os, hp, hso, rfl⟩
    have hs' : d'.size = L.toArray.size := by rw [hsz]; simpa [hsz] using hp.1
    refine ⟨rfl, d'.toList, sortOf_arrays L d' (by rw [hsz]; exact hp) (by rw [hsz]; exact hso), fun t ht => ?_, ?_⟩
    · have ht' : t < d'.size := by simpa using ht
      have hg : R < (putRow (Value.int .u64) (Sort.ahead w q) R 0 d').heap.size := by
        have := World.block_lt_of_cell? _ ⟨R, 0 + t, none⟩ (cell?_putRow (Value.int .u64) (Sort.ahead w q) R 0 L.toArray d' (holds_ahead _ _ _ _ _ _ hH) hs' t ht')
        exact this
      rw [cell?_grow _ _ _ hg]
      have := cell?_putRow (Value.int .u64) (Sort.ahead w q) R 0 L.toArray d' (holds_ahead _ _ _ _ _ _ hH) hs' t ht'
      rw [Nat.zero_add, getElem!_pos d' t ht'] at this
      rw [this]
      simp [List.getD, ht']
    · refine ⟨rfl, rfl, rfl, by simp [putRow, mapBlock, grow, Sort.ahead], fun j hj hjR => ?_⟩
      have hjR' : j ≠ R := fun e => hjR (by rw [e])
      rw [heap_grow_old _ _ (by simp [putRow, mapBlock, Sort.ahead]; exact hj)]
      simp only [putRow, mapBlock, Array.getElem?_modify, Sort.ahead, if_neg (Ne.symm hjR')]
  · have hK : Lib.swapperK n siE 11 = n + 1 := by
      rcases Nat.eq_zero_or_pos n with h | h
      · rw [h]; simp [Lib.swapperK]
      · obtain rfl : n = 1 := by omega
        simp [Lib.swapperK]
    have hS := Any.sort_Slice_tiny Ybaf.sa6 33 32 siT siE t1 t2 (by kernel_rfl) e1 11 (fun _ => by kernel_rfl) (some ⟨R, 0, none⟩) n cap (by omega) (29 + n) (by
      rw [hK]
      rcases Nat.eq_zero_or_pos n with h | h
      · rw [h]; kernel_rfl
      · obtain rfl : n = 1 := by omega
        kernel_rfl) (.func 20) #[] #[.pointer (some ⟨B, 0, none⟩)] w
    change Calls Ybaf.prog 19 _ _ _ at hS
    refine hS.mono ?_
    rintro e w' ⟨rfl, os, rfl⟩
    refine ⟨rfl, L, ⟨List.Perm.refl _, ?_⟩, fun t ht => ?_, ⟨rfl, rfl, rfl, by simp [grow], fun j hj _ => heap_grow_old _ _ hj⟩⟩
    · have hl1 : L.length ≤ 1 := by omega
      match L, hl1 with
      | [], _ => exact List.Pairwise.nil
      | [x], _ => exact List.pairwise_singleton _ _
      | x :: y :: r, h => simp at h
    · rw [cell?_grow _ _ _ (World.block_lt_of_cell? w ⟨R, t, none⟩ (hc t (by omega)))]
      exact hc t (by omega)
end Go.Proofs.YbulkdmhkFmt
