import Derived.Test.YbulkdmeeW1

namespace Go.Proofs.Ybulkdmee
open Go.RowKit

/-- The second method's name of an interface type, as the program's own table has it. -/
theorem second_name {P : Program} {t : TypeId} {x0 x1 : String × TypeId} {l : List (String × TypeId)} (_h : P.underlying t = some (.interface (x0 :: x1 :: l).toArray)) (Q : String → Prop) (hq : Q x1.1) : Q x1.1 := hq

/-- What a row of 'function's holds. -/
def FRow (w : World) (fb bb n : Nat) (nm : Nat → ByteArray) (lg : Nat → Bool) : Prop :=
  ∀ j, j < n → w.cell? ⟨fb, j * 5, none⟩ = some (.string (nm j)) ∧ w.cell? ⟨fb, j * 5 + 1, none⟩ = some (.slice (some ⟨bb, 0, none⟩) j n) ∧ w.cell? ⟨fb, j * 5 + 2, none⟩ = some (.int .i64 0) ∧
    w.cell? ⟨fb, j * 5 + 3, none⟩ = some .nilFunc ∧ w.cell? ⟨fb, j * 5 + 4, none⟩ = some (.bool (lg j))

theorem Below.alloc' (w : World) (o : Obj) : Below w.heap.size w (w.alloc o) := (Below.refl _ _).alloc (Nat.le_refl _) o

theorem str_eq {a b : ByteArray} (h : (a.toList == b.toList) = true) : a = b := by
  have h := eq_of_beq h
  rw [ByteArray.toList_eq, ByteArray.toList_eq] at h
  cases a; cases b; simp_all
theorem str_ne {a b : ByteArray} (h : (a.toList == b.toList) = false) : a ≠ b := by
  intro e; subst e; simp at h

theorem two_blocks (w : World) (B : Nat) (o1 : Obj) (c2 : Array Value) (t2 : TypeId) (u : Value) (hB : B < w.heap.size) :
    Below w.heap.size (w.setCell ⟨B, 1, none⟩ u) (((w.alloc o1).alloc (.cells c2 t2)).setCell ⟨B, 1, none⟩ u) ∧
    (((w.alloc o1).alloc (.cells c2 t2)).setCell ⟨B, 1, none⟩ u).heap.size = w.heap.size + 2 ∧
    (((w.alloc o1).alloc (.cells c2 t2)).setCell ⟨B, 1, none⟩ u).heap[w.heap.size + 1]? = some (.cells c2 t2 (0, 0)) := by
  have e1 : ((w.alloc o1).alloc (.cells c2 t2)).setCell ⟨B, 1, none⟩ u = ((w.setCell ⟨B, 1, none⟩ u).alloc o1).alloc (.cells c2 t2) := by
    rw [World.setCell_alloc_past _ _ _ _ (by simp; omega), World.setCell_alloc_past _ _ _ _ hB]
  have e2 : (w.setCell ⟨B, 1, none⟩ u).heap.size = w.heap.size := by simp [World.setCell]
  rw [e1]
  refine ⟨?_, by simp [e2], ?_⟩
  · have := ((Below.refl w.heap.size (w.setCell ⟨B, 1, none⟩ u)).alloc (by rw [e2]; exact Nat.le_refl _) o1).alloc (by simp [e2]) (.cells c2 t2)
    exact this
  · have := heap_alloc_new ((w.setCell ⟨B, 1, none⟩ u).alloc o1) (.cells c2 t2)
    simpa [e2] using this

set_option maxHeartbeats 400000 in
theorem function_any (fb bb n : Nat) (nm : Nat → ByteArray) (lg : Nat → Bool) (name : ByteArray) (B : Nat) (w : World) (hn : n ≤ 1048576)
    (h0 : w.cell? ⟨B, 0, none⟩ = some (.slice (some ⟨fb, 0, none⟩) n n)) (h1 : w.cell? ⟨B, 1, none⟩ = some (.int .i64 0)) (f1 : w.frozen? ⟨B, 1, none⟩ = false)
    (hB : B < w.heap.size) (hfb : fb < w.heap.size) (hne : fb ≠ B) (hrow : FRow w fb bb n nm lg) :
    Calls Yba.prog 8 #[.agg #[.pointer none, .iface 60 (.pointer (some ⟨B, 0, none⟩)), .int .i64 0, .int .i64 0, .int .i64 0, .int .i64 0, .int .i64 0, .int .i64 0, .slice none 0 0, .pointer none], .string name] w fun e w' =>
      ((∃ k, k < n ∧ nm k = name ∧ (∀ j, j < k → nm j ≠ name) ∧ e = .returned (.tuple #[.agg #[.string (nm k), .slice (some ⟨bb, 0, none⟩) k n, .int .i64 0, .nilFunc, .bool (lg k)], .bool true])) ∨
       ((∀ j, j < n → nm j ≠ name) ∧ e = .returned (.tuple #[.agg #[.string ByteArray.empty, .slice none 0 0, .int .i64 0, .nilFunc, .bool false], .bool false]))) ∧
      Below w.heap.size (w.setCell ⟨B, 1, none⟩ (.int .i64 1)) w' := by
  have hm := second_name Yba.underlying65 (fun nm => ∀ (a : Addr) (w : World), (method 272 60 (.pointer (some a)) nm).run Yba.prog w = .ok (35, .pointer (some a)) w) (fun a w => by kernel_rfl)
  dsimp only at hm
  have bb2 : ∀ o1 o2, Below w.heap.size w ((w.alloc o1).alloc o2) := fun o1 o2 => ((Below.refl _ _).alloc (Nat.le_refl _) o1).alloc (by simp) o2
  go_enter Yba.func8, Yba.ntmps8
  go_wp2_with fail
  refine (functions_any B _ ⟨_, _, _, rfl⟩ _ (((bb2 _ _).cell hB).trans h0) (((bb2 _ _).cell hB).trans h1) (((bb2 _ _).frozen hB).trans f1)).mono ?_
  rintro e w1 ⟨rfl, hw1⟩
  obtain ⟨hb1, hs1, hr1⟩ := two_blocks w B _ _ _ (.int .i64 1) hB
  rw [← hw1] at hb1 hs1 hr1
  have hrow1 : FRow w1 fb bb n nm lg := by
    intro j hj
    have e : ∀ o, w1.cell? ⟨fb, o, none⟩ = w.cell? ⟨fb, o, none⟩ := fun o => by
      rw [hb1.cell (p := ⟨fb, o, none⟩) hfb, World.cell?_setCell_other _ _ _ _ (fun h => hne (congrArg Addr.block h).symm)]
    rw [e, e, e, e, e]
    exact hrow j hj
  clear hw1 hrow bb2 h0 h1 f1 hm
  go_wp2
  go_loopw [12] (fun i wr => ∃ k : Nat, k ≤ n ∧ i = .int .i64 k ∧ (∀ j, j < k → nm j ≠ name) ∧ Below (w.heap.size + 2) w1 wr) (fun i _ => n - (intOf i).toNat)
  case atStart => exact ⟨0, Nat.zero_le _, rfl, fun j hj => absurd hj (Nat.not_lt_zero _), Below.refl _ _⟩
  case round =>
    obtain ⟨k, hk, rfl, hno, hbr⟩ := hrel
    have hz := hbr.size
    have hbw : Below w.heap.size (w.setCell ⟨B, 1, none⟩ (.int .i64 1)) wr := hb1.trans (hbr.mono (by omega))
    have hrr : wr.heap[w.heap.size + 1]? = _ := (hbr.block (w.heap.size + 1) (by omega)).trans hr1
    have hsz : w.heap.size + 1 < wr.heap.size := by omega
    have r0 := fun o => cell_of_row wr (w.heap.size + 1) o _ _ _ hrr
    have rf : ∀ o, wr.frozen? ⟨w.heap.size + 1, o, none⟩ = false := fun o => frozen_of_row wr (w.heap.size + 1) o _ _ hrr
    have q0 := r0 0
    have q1 := r0 1
    have q2 := r0 2
    have q3 := r0 3
    have q4 := r0 4
    simp at q0 q1 q2 q3 q4
    clear r0
    by_cases hlt : k < n
    · have hc := hrow1 k hlt
      have e : ∀ o, wr.cell? ⟨fb, o, none⟩ = w1.cell? ⟨fb, o, none⟩ := fun o => hbr.cell (p := ⟨fb, o, none⟩) (show fb < _ by omega)
      rw [← e, ← e, ← e, ← e, ← e] at hc
      obtain ⟨c0, c1, c2, c3, c4⟩ := hc
      clear e
      have hHid : Hid (∀ j, j < k → nm j ≠ name) := hno
      have hBh : Hid (Below (w.heap.size + 2) w1 wr) := hbr
      have hBw : Hid (Below w.heap.size (w.setCell ⟨B, 1, none⟩ (.int .i64 1)) wr) := hbw
      clear hno hrow1 hrr hr1 hbr hb1 hbw
      go_wp2
      · have heq : ((nm k).toList == name.toList) = true := by assumption
        refine bodyPost_ret (v := .tuple #[.agg #[.string (nm k), .slice (some ⟨bb, 0, none⟩) k n, .int .i64 0, .nilFunc, .bool (lg k)], .bool true]) (by simp [results, Yba.results8, go_sem, q0, q1, q2, q3, q4, hsz]) rfl ⟨.inl ⟨k, hlt, str_eq heq, hHid.out, rfl⟩, ?_⟩
        exact (((((hBw.out.setCell (Nat.le_succ _) _).setCell (Nat.le_succ _) _).setCell (Nat.le_succ _) _).setCell (Nat.le_succ _) _).setCell (Nat.le_succ _) _).alloc (by simp [World.setCell]; omega) _
      · have heq : ((nm k).toList == name.toList) = false := by assumption
        go_roundw
        case rel =>
          refine ⟨k + 1, by omega, by go_num, fun j hj => ?_, hBh.out.alloc (by omega) _⟩
          by_cases e : j = k
          · subst e; exact str_ne heq
          · exact hHid.out j (by omega)
        case measure => simp [intOf]; omega
    · have hkn : k = n := by omega
      subst hkn
      have hHid : Hid (∀ j, j < k → nm j ≠ name) := hno
      have hBw : Hid (Below w.heap.size (w.setCell ⟨B, 1, none⟩ (.int .i64 1)) wr) := hbw
      clear hno hrow1 hrr hr1 hbr hb1 hbw
      go_wp2
      refine bodyPost_ret (v := .tuple #[.agg #[.string ⟨#[]⟩, .slice none 0 0, .int .i64 0, .nilFunc, .bool false], .bool false]) (by simp [results, Yba.results8, go_sem, q0, q1, q2, q3, q4]) rfl ⟨.inr ⟨hHid.out, rfl⟩, ?_⟩
      exact ((((hBw.out.setCell (Nat.le_succ _) _).setCell (Nat.le_succ _) _).setCell (Nat.le_succ _) _).setCell (Nat.le_succ _) _).setCell (Nat.le_succ _) _
end Go.Proofs.Ybulkdmee
