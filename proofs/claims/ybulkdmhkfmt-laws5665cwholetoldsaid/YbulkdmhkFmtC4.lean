import Derived.Test.YbulkdmhkFmtC0
namespace Go.Proofs.YbulkdmhkFmt
open Go.RowKit

/-- The sample after i rounds: m is n - k, s0 the first state; the numbers in the order drawn, and the state. -/
def Floyd (m s0 : Int) : Nat → List Int → Int → Prop
  | 0, L, s => L = [] ∧ s = s0
  | i + 1, L, s => ∃ L' s' x, Floyd m s0 i L' s' ∧ Drawn (m + i + 1) s' x s ∧ L = L' ++ [if x ∈ L' then m + i else x]

theorem Floyd.unique {m s0 : Int} : ∀ {i : Nat} {L L2 : List Int} {s s2 : Int}, Floyd m s0 i L s → Floyd m s0 i L2 s2 → L = L2 ∧ s = s2
  | 0, _, _, _, _, ⟨a1, a2⟩, ⟨b1, b2⟩ => ⟨a1.trans b1.symm, a2.trans b2.symm⟩
  | i + 1, _, _, _, _, ⟨A, t, x, a1, a2, a3⟩, ⟨B, u, y, b1, b2, b3⟩ => by
    obtain ⟨rfl, rfl⟩ := Floyd.unique a1 b1
    obtain ⟨rfl, rfl⟩ := a2.unique b2
    exact ⟨a3.trans b3.symm, rfl⟩
theorem Floyd.length {m s0 : Int} : ∀ {i : Nat} {L : List Int} {s : Int}, Floyd m s0 i L s → L.length = i
  | 0, _, _, ⟨a1, _⟩ => by rw [a1]; rfl
  | i + 1, _, _, ⟨A, t, x, a1, a2, a3⟩ => by
    have := Floyd.length a1
    rw [a3, List.length_append, this]; rfl
theorem Floyd.u64 {m s0 : Int} (h0 : U64 s0) : ∀ {i : Nat} {L : List Int} {s : Int}, Floyd m s0 i L s → U64 s
  | 0, _, _, ⟨_, a2⟩ => by rw [a2]; exact h0
  | i + 1, _, _, ⟨_, _, _, _, a2, _⟩ => a2.u64
theorem Floyd.bound {m s0 : Int} (hm : 0 ≤ m) : ∀ {i : Nat} {L : List Int} {s : Int}, Floyd m s0 i L s → ∀ x ∈ L, 0 ≤ x ∧ x < m + i
  | 0, _, _, ⟨a1, _⟩ => by rw [a1]; intro x hx; simp at hx
  | i + 1, _, _, ⟨A, t, x, a1, a2, a3⟩ => by
    have ih := Floyd.bound hm a1
    have hx := a2.lt (by omega)
    intro y hy
    rw [a3, List.mem_append] at hy
    rcases hy with hy | hy
    · have := ih y hy
      omega
    · rw [List.mem_singleton] at hy
      rw [hy]
      split <;> omega
theorem Floyd.nodup {m s0 : Int} (hm : 0 ≤ m) : ∀ {i : Nat} {L : List Int} {s : Int}, Floyd m s0 i L s → L.Nodup
  | 0, _, _, ⟨a1, _⟩ => by rw [a1]; exact List.nodup_nil
  | i + 1, _, _, ⟨A, t, x, a1, a2, a3⟩ => by
    have ih := Floyd.nodup hm a1
    have hb := Floyd.bound hm a1
    rw [a3, List.nodup_append]
    refine ⟨ih, by simp, fun a ha b hb' => ?_⟩
    rw [List.mem_singleton] at hb'
    rw [hb']
    split
    · have := hb a ha; omega
    · rename_i h; intro e; rw [e] at ha; exact h ha

/-- A round. -/
theorem Floyd.step {m s0 : Int} {i : Nat} {L : List Int} {s x s' : Int} (h : Floyd m s0 i L s) (d : Drawn (m + i + 1) s x s') : Floyd m s0 (i + 1) (L ++ [if x ∈ L then m + i else x]) s' := ⟨L, s, x, h, d, rfl⟩
/-- What a round puts in is new. -/
theorem Floyd.fresh {m s0 : Int} (hm : 0 ≤ m) {i : Nat} {L : List Int} {s x s' : Int} (h : Floyd m s0 i L s) (_ : Drawn (m + i + 1) s x s') : (if x ∈ L then m + i else x) ∉ L := by
  split
  · intro c
    have := h.bound hm _ c
    omega
  · assumption

/-! ### Sorted lists -/
def Sorted (L : List Int) : Prop := L.Pairwise (· ≤ ·)
def SortOf (L W : List Int) : Prop := W.Perm L ∧ Sorted W
theorem SortOf.unique {L A B : List Int} (a : SortOf L A) (b : SortOf L B) : A = B :=
  List.Perm.eq_of_pairwise (fun _ _ _ _ h1 h2 => Int.le_antisymm h1 h2) a.2 b.2 (a.1.trans b.1.symm)
theorem SortOf.length {L A : List Int} (a : SortOf L A) : A.length = L.length := a.1.length_eq
theorem SortOf.mem {L A : List Int} (a : SortOf L A) {x : Int} (h : x ∈ A) : x ∈ L := a.1.mem_iff.1 h
/-- With no number twice it rises strictly. -/
theorem SortOf.lt {L A : List Int} (a : SortOf L A) (h : L.Nodup) (i : Nat) (hi : i + 1 < A.length) : A.getD i 0 < A.getD (i + 1) 0 := by
  have hn : A.Nodup := a.1.nodup_iff.2 h
  have hs := a.2
  unfold Sorted at hs
  rw [List.pairwise_iff_getElem] at hs
  have h1 := hs i (i + 1) (by omega) hi (by omega)
  have h2 : A[i] ≠ A[i + 1] := by
    have := List.pairwise_iff_getElem.1 hn i (i + 1) (by omega) hi (by omega)
    exact this
  have e1 : A.getD i 0 = A[i] := by simp [List.getD, show i < A.length by omega]
  have e2 : A.getD (i + 1) 0 = A[i + 1] := by simp [List.getD, hi]
  rw [e1, e2]
  omega

/-! ### The insertion -/
/-- The row with the gap at m: c lies in it. -/
def gap (P : List Int) (m : Nat) (c : Int) (R : List Int) : List Int := P.take m ++ c :: (P.drop m ++ R)
theorem gap_length (P R : List Int) (m : Nat) (c : Int) (hm : m ≤ P.length) : (gap P m c R).length = P.length + 1 + R.length := by
  simp [gap]; omega
theorem gap_set (P R : List Int) (m : Nat) (c a : Int) (hm : m ≤ P.length) : (gap P m c R).set m a = gap P m a R := by
  unfold gap
  rw [List.set_append, if_neg (by simp; omega)]
  have : m - (P.take m).length = 0 := by simp; omega
  rw [this]
  rfl
theorem gap_down (P R : List Int) (m : Nat) (hm : m < P.length) : gap P (m + 1) (P.getD m 0) R = gap P m (P.getD m 0) R := by
  have e : P.getD m 0 = P[m] := by simp [List.getD, hm]
  unfold gap
  have e1 : P.take (m + 1) = P.take m ++ [P[m]] := by rw [← List.take_concat_get hm, List.concat_eq_append]
  rw [e, List.drop_eq_getElem_cons hm, e1]
  simp only [List.append_assoc, List.cons_append, List.nil_append]
theorem gap_left (P R : List Int) (m : Nat) (c : Int) (hm : m < P.length) : (gap P (m + 1) c R).getD m 0 = P.getD m 0 := by
  unfold gap
  have h : m < (P.take (m + 1)).length := by simp; omega
  simp only [List.getD, List.getElem?_append_left h]
  rw [List.getElem?_take, if_pos (by omega)]
theorem gap_perm (P R : List Int) (m : Nat) (v : Int) : (gap P m v R).Perm (P ++ v :: R) := by
  unfold gap
  refine List.perm_middle.trans ?_
  rw [← List.append_assoc, List.take_append_drop]
  exact List.perm_middle.symm
/-- What has been shifted is above v. -/
def Above (P : List Int) (m : Nat) (v : Int) : Prop := ∀ x ∈ P.drop m, v < x
theorem Above.top (P : List Int) (v : Int) (m : Nat) (h : P.length ≤ m) : Above P m v := by
  intro x hx
  rw [List.drop_eq_nil_of_le h] at hx
  simp at hx
theorem Above.down {P : List Int} {m : Nat} {v : Int} (h : Above P (m + 1) v) (hm : m < P.length) (hv : v < P.getD m 0) : Above P m v := by
  intro x hx
  rw [List.drop_eq_getElem_cons hm] at hx
  have e : P.getD m 0 = P[m] := by simp [List.getD, hm]
  rcases List.mem_cons.1 hx with rfl | hx
  · omega
  · exact h x hx
theorem sorted_insert {P : List Int} {m : Nat} {v : Int} (hP : Sorted P) (h : Above P m v) (hv : m = 0 ∨ (P.getD (m - 1) 0 ≤ v ∧ m ≤ P.length)) : Sorted (P.take m ++ v :: P.drop m) := by
  unfold Sorted at hP ⊢
  have hP' := hP
  rw [← List.take_append_drop m P, List.pairwise_append] at hP'
  obtain ⟨h1, h2, h3⟩ := hP'
  have hl : ∀ x ∈ P.take m, x ≤ v := by
    intro x hx
    rcases hv with rfl | ⟨hv, hml⟩
    · simp at hx
    · obtain ⟨j, hj, rfl⟩ := List.getElem_of_mem hx
      have hj' : j < m := by simp at hj; omega
      rw [List.getElem_take]
      have e : P.getD (m - 1) 0 = P[m - 1] := by simp [List.getD, show m - 1 < P.length by omega]
      have hh := List.pairwise_iff_getElem.1 hP
      by_cases c : j = m - 1
      · subst c; omega
      · have := hh j (m - 1) (by omega) (by omega) (by omega)
        omega
  rw [List.pairwise_append]
  refine ⟨h1, List.pairwise_cons.2 ⟨fun x hx => by have := h x hx; omega, h2⟩, fun a ha b hb => ?_⟩
  rcases List.mem_cons.1 hb with rfl | hb
  · exact hl a ha
  · exact h3 a ha b hb
/-- The row before the i-th round of the sort. -/
def Upto (L : List Int) (i : Nat) (W : List Int) : Prop := W.Perm L ∧ Sorted (W.take i)
theorem Upto.parted {W : List Int} {i : Nat} (hi : i < W.length) : gap (W.take i) i (W.getD i 0) (W.drop (i + 1)) = W := by
  unfold gap
  have e : W.getD i 0 = W[i] := by simp [List.getD, hi]
  have e2 : (W.take i).drop i = [] := List.drop_eq_nil_of_le (by simp; omega)
  rw [e, e2, List.take_take, Nat.min_self, List.nil_append, ← List.drop_eq_getElem_cons hi, List.take_append_drop]
theorem Upto.more {L W : List Int} {i : Nat} (h : Upto L i W) (hi : i < W.length) {m : Nat} (hmi : m ≤ i) (ha : Above (W.take i) m (W.getD i 0)) (hv : m = 0 ∨ (W.take i).getD (m - 1) 0 ≤ W.getD i 0) :
    Upto L (i + 1) (gap (W.take i) m (W.getD i 0) (W.drop (i + 1))) := by
  have hl : (W.take i).length = i := by simp; omega
  refine ⟨(gap_perm _ _ _ _).trans ?_, ?_⟩
  · have e := Upto.parted hi
    have := (gap_perm (W.take i) (W.drop (i + 1)) i (W.getD i 0)).symm
    rw [e] at this
    exact this.trans h.1
  · have e : (gap (W.take i) m (W.getD i 0) (W.drop (i + 1))).take (i + 1) = (W.take i).take m ++ W.getD i 0 :: (W.take i).drop m := by
      unfold gap
      rw [show (W.take i).take m ++ W.getD i 0 :: ((W.take i).drop m ++ W.drop (i + 1)) = ((W.take i).take m ++ W.getD i 0 :: (W.take i).drop m) ++ W.drop (i + 1) by simp]
      rw [List.take_append_of_le_length (by simp; omega), List.take_of_length_le (by simp; omega)]
    rw [e]
    rcases hv with hv | hv
    · exact sorted_insert h.2 ha (Or.inl hv)
    · exact sorted_insert h.2 ha (Or.inr ⟨hv, by omega⟩)
theorem Upto.whole {L W : List Int} {i : Nat} (h : Upto L i W) (hi : W.length ≤ i) : SortOf L W := ⟨h.1, by have := h.2; rw [List.take_of_length_le hi] at this; exact this⟩
theorem Upto.start (L : List Int) : Upto L 1 L := by
  refine ⟨List.Perm.refl _, ?_⟩
  match L with
  | [] => exact List.Pairwise.nil
  | x :: r => exact List.pairwise_singleton _ _
end Go.Proofs.YbulkdmhkFmt
