import Derived.Test.YbulkdmeeW4
namespace Go.Proofs.Ybulkdmee
open Go.RowKit
set_option maxHeartbeats 1000000 in
theorem walk_zero (sa : Option Addr) (cs : Nat) (la : Option Addr) (ln lc : Nat) (name : ByteArray) (pick : Int) (w : World) (hp0 : 0 ≤ pick) (hp1 : pick ≤ 255) :
    Calls Yba.prog 4 #[.slice sa 0 cs, .slice la ln lc, .string name, .int .u8 pick] w fun e w' => e = .returned (.bool true) ∧ Below w.heap.size w w' := by
  have mb : ∀ w, (Instr.makeSlice 54 (.int .i64 0) (.int .i64 0)).run Yba.prog w = .ok (.slice (some ⟨w.heap.size, 0, none⟩) 0 0) (w.alloc (baseObj 0)) := make_base 0 (by omega)
  have mf : ∀ w', (Instr.makeSlice 55 (.int .i64 0) (.int .i64 0)).run Yba.prog w' = .ok (.slice (some ⟨w'.heap.size, 0, none⟩) 0 0) (w'.alloc (.cells (fsArr (fun _ => name) (fun _ => false) w.heap.size 0 0) 59)) := make_fs 0 (by omega) (fun _ => name) (fun _ => false) w.heap.size
  have q1 := eqFunc
  have q2 := eqSl
  obtain ⟨W, hW⟩ : ∃ W, W = (w.alloc (baseObj 0)).alloc (.cells (fsArr (fun _ => name) (fun _ => false) w.heap.size 0 0) 59) := ⟨_, rfl⟩
  have hsz : W.heap.size = w.heap.size + 2 := by rw [hW]; simp
  have hB : Below w.heap.size w W := by rw [hW]; exact ((Below.refl _ _).alloc (Nat.le_refl _) _).alloc (by simp) _
  have hR : FRow W (w.heap.size + 1) w.heap.size 0 (fun _ => name) (fun _ => false) := fun j hj => absurd hj (Nat.not_lt_zero _)
  have HC := call_facts w W (fun _ => name) (fun _ => false) 0 (.slice (some ⟨w.heap.size + 1, 0, none⟩) 0 0)
  have h : pick % 2 = 1 ∨ pick % 2 = 0 := by omega
  rcases h with h | h
  all_goals
    go_enter Yba.func4, Yba.ntmps4
    go_wp2
    refine wp_loop_rounds 1 ?_
    rw [rounds_succ]
    go_wp2_with fail
    rw [← hW]
    obtain ⟨g0, g1, gf, gs, gR, gB⟩ := HC _ hsz hR hB
    refine (function_any (w.heap.size + 1) w.heap.size 0 (fun _ => name) (fun _ => false) name (w.heap.size + 2) _ (by omega) g0 g1 gf (by omega) (by omega) (by omega) gR).mono ?_
    rintro e w1 ⟨hor, hb1⟩
    obtain ⟨cn1, hs1, hB1⟩ := after_facts w _ w1 gs g1 gB hb1
    have hz1 : w.heap.size + 2 < w1.heap.size := by omega
    have HB1 : Hid (Below w.heap.size w w1) := hB1
    clear hb1 hB1 g0 g1 gf gs gR gB hR hB HC hW
    rcases hor with ⟨q, hq, _⟩ | ⟨_, rfl⟩
    · exact absurd hq (Nat.not_lt_zero _)
    · go_wp2
      refine wp_loop_rounds 1 ?_
      rw [rounds_succ]
      go_wp2
      go_ret
      exact ⟨rfl, HB1.out.alloc (by omega) _⟩
set_option maxHeartbeats 1000000 in
theorem walk_big (sa : Option Addr) (n cs : Nat) (la : Option Addr) (ln lc : Nat) (name : ByteArray) (pick : Int) (w : World) (hn : 1048576 < n) :
    Calls Yba.prog 4 #[.slice sa n cs, .slice la ln lc, .string name, .int .u8 pick] w fun e w' => e = .returned (.bool true) ∧ Below w.heap.size w w' := by
  have h : (1048576 : Int) < n := by omega
  go_enter Yba.func4, Yba.ntmps4
  go_wp2
  go_ret
  exact ⟨rfl, Below.refl _ _⟩
end Go.Proofs.Ybulkdmee
