import Derived.Test.YbulkdmhyM
namespace Go.Proofs.Ybulkdmhy
open Go.RowKit Go.MuLone

/-- The server's cells: its lock's word, its map, its flag. -/
def srv (M : Nat) (st : Bool) (mu : Int) : Array Value := #[.pointer none, .int .u64 0, .int .u32 0, .int .i32 mu, .int .u32 0, .map (some M), .bool st]

theorem grown_on {w a b : World} {row row2 : Option Nat} (h1 : w.grownBy a row) (h2 : a.grownBy b row2) (hr : ∀ y, row2 = some y → w.heap.size ≤ y ∨ row = some y) : w.grownBy b row := by
  refine ⟨h2.os.trans h1.os, h2.tape.trans h1.tape, h2.output.trans h1.output, Nat.le_trans h1.size h2.size, fun j hj hjr => ?_⟩
  rw [h2.block j (Nat.lt_of_lt_of_le hj h1.size) (fun e => ?_)]
  · exact h1.block j hj hjr
  · rcases hr j e.symm with h | h
    · omega
    · exact hjr h.symm

theorem srv_set {w : World} {S M : Nat} {st : Bool} {mu : Int} (h : w.heap[S]? = some (.cells (srv M st mu) 42 (0, 0))) (mu' : Int) : (w.setCell ⟨S, 3, none⟩ (.int .i32 mu')).heap[S]? = some (.cells (srv M st mu') 42 (0, 0)) := by
  have := heap_setCell_same w S 3 _ 42 (.int .i32 mu') h
  simpa [srv] using this
theorem srv_mu {w : World} {S M : Nat} {st : Bool} {mu : Int} (h : w.heap[S]? = some (.cells (srv M st mu) 42 (0, 0))) : w.cell? ⟨S, 3, none⟩ = some (.int .i32 mu) ∧ w.frozen? ⟨S, 3, none⟩ = false := by
  refine ⟨?_, frozen_of_row w S 3 _ _ h⟩
  rw [cell_of_row w S 3 _ _ _ h]; rfl
theorem srv_map {w : World} {S M : Nat} {st : Bool} {mu : Int} (h : w.heap[S]? = some (.cells (srv M st mu) 42 (0, 0))) : w.cell? ⟨S, 5, none⟩ = some (.map (some M)) := by
  rw [cell_of_row w S 5 _ _ _ h]; rfl
theorem set_other (w : World) (S j : Nat) (v : Value) (h : j ≠ S) : (w.setCell ⟨S, 3, none⟩ v).heap[j]? = w.heap[j]? := heap_setCell_other w ⟨S, 3, none⟩ j v h
theorem conns_of {H n : Nat} {w w' : World} (h : Conns H n w) (ho : ∀ j, H ≤ j → j < w.heap.size → w'.heap[j]? = w.heap[j]?) : Conns H n w' := by
  intro j hj
  obtain ⟨c, hc⟩ := h j hj
  exact ⟨c, (ho (H + j) (by omega) (Array.getElem?_eq_some_iff.1 hc).1).trans hc⟩

theorem try5 (a : Addr) (w : World) (hc : w.cell? a = some (.int .i32 0)) (hz : w.frozen? a = false) :
    Calls Yba.prog 5 #[.pointer (some a)] w fun e w' => e = .returned (.bool true) ∧ w' = w.setCell a (.int .i32 1) := by
  go_enter Yba.func5, Yba.ntmps5
  go_wp2_with fail
  refine (itry_free a _ hc hz).mono ?_
  rintro e w1 ⟨rfl, rfl⟩
  go_wp2
  go_ret
  exact ⟨rfl, rfl⟩

/-- What setActive leaves: the map turned, all else as it was. -/
def Turned (S M H k m : Nat) (f : Nat → Int) (st : Bool) (w : World) (e : Ending) (w' : World) : Prop :=
  e = .returned (.tuple #[]) ∧ w'.heap[M]? = some (.map (ent H (upd f k 1) (max m (k + 1))) (max m (k + 1))) ∧ w'.heap[S]? = some (.cells (srv M st 0) 42 (0, 0)) ∧ w.grownBy w' (some M)

set_option maxHeartbeats 1600000 in
theorem active4 (S M H n m k : Nat) (f : Nat → Int) (st : Bool) (w : World) (hS : w.heap[S]? = some (.cells (srv M st 0) 42 (0, 0))) (hM : w.heap[M]? = some (.map (ent H f m) m)) (hC : Conns H n w) (hk : k ≤ n) (hkm : k ≤ m) (hm : m ≤ n + 1) (hSH : S < H) (hMS : M ≠ S) :
    Calls Yba.prog 4 #[.pointer (some ⟨S, 0, none⟩), cp H k] w fun e w' => Turned S M H k m f st w e w' := by
  obtain ⟨c3, f3⟩ := srv_mu hS
  have hS1 := srv_set hS 1
  have c5 := srv_map hS1
  have hM1 : (w.setCell ⟨S, 3, none⟩ (.int .i32 1)).heap[M]? = some (.map (ent H f m) m) := (set_other w S M _ hMS).trans hM
  have hC1 : Conns H n (w.setCell ⟨S, 3, none⟩ (.int .i32 1)) := conns_of hC fun j hj _ => set_other w S j _ (by omega)
  obtain ⟨w2, hup, u1, u2⟩ := put_any 1 hC1 hk hkm hm hM1
  have hSl : S < w.heap.size := (Array.getElem?_eq_some_iff.1 hS).1
  have hS2 : w2.heap[S]? = some (.cells (srv M st 1) 42 (0, 0)) := (u2.block S (by simpa using hSl) (by simpa using Ne.symm hMS)).trans hS1
  have HS2 : Hid (w2.heap[S]? = some (.cells (srv M st 1) 42 (0, 0))) := hS2
  have HU1 : Hid (w2.heap[M]? = some (.map (ent H (upd f k 1) (max m (k + 1))) (max m (k + 1)))) := u1
  have HU2 : Hid ((w.setCell ⟨S, 3, none⟩ (.int .i32 1)).grownBy w2 (some M)) := u2
  have HS : Hid (w.heap[S]? = some (.cells (srv M st 0) 42 (0, 0))) := hS
  clear hS hS1 hM1 hC1 u1 u2 hS2 hM hC
  generalize cp H k = pk at hup
  go_enter_defers Yba.func4, Yba.ntmps4
  go_wp2_with (go_at_call 7; refine (lock_free muLib ⟨S, 3, none⟩ _ c3 f3).mono ?_; rintro e w' ⟨rfl, rfl⟩)
  refine leaves_cons (f := 6) (args := #[.pointer (some ⟨S, 3, none⟩)]) (by simp) (by simp [go_sem]) ?_
  refine (unlock_deferred muLib ⟨S, 3, none⟩ .returning _ (srv_mu HS2.out).1 (srv_mu HS2.out).2).mono ?_
  rintro e u' w'' ⟨rfl, rfl, rfl⟩
  refine ⟨_, results_none rfl _ _ _, rfl, ?_, srv_set HS2.out 0, ?_⟩
  · rw [set_other _ _ _ _ hMS]; exact HU1.out
  · have hS3 := srv_set HS2.out 0
    refine ⟨HU2.out.os, HU2.out.tape, HU2.out.output, by have := HU2.out.size; simpa using this, fun j hj hjM => ?_⟩
    by_cases c : j = S
    · rw [c, hS3]; exact HS.out.symm
    · rw [set_other _ _ _ _ c, HU2.out.block j (by simpa using hj) hjM, set_other _ _ _ _ c]
end Go.Proofs.Ybulkdmhy
