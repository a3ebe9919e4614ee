import Derived.Test.YbulkdmhkFmtB3
namespace Go.Proofs.YbulkdmhkFmt
open Go.RowKit Go.Extern.Stop Go.Stop Go.Extern

theorem back (B cap : Nat) (l : List UInt8) (w : World) (hR : BRow w B l) : (convert 23 9 (.slice (some ⟨B, 0, none⟩) l.length cap)).run Ybaf.prog w = .ok (.string ⟨l.toArray⟩) w := by
  refine run_convert_bytes_back (P := Ybaf.prog) w 23 9 5 ⟨B, 0, none⟩ cap l Ybaf.underlying23 Ybaf.underlying5 Ybaf.underlying9 (fun j hj => ?_)
  have hadd : (⟨B, 0, none⟩ : Addr).add j = ⟨B, j, none⟩ := by unfold Addr.add; split <;> simp_all
  rw [hadd]
  exact hR j hj

/-- UnmarshalText of the name of rule 0. -/
theorem unmarshal0 (X B cap : Nat) (v : Int) (w : World) (hR : BRow w B [116, 114, 117, 110, 99, 97, 116, 101]) (hB : B < w.heap.size) (hX : X < w.heap.size) (cX : w.cell? ⟨X, 0, none⟩ = some (.int .i64 v)) (fX : w.frozen? ⟨X, 0, none⟩ = false) :
    Calls Ybaf.prog 8 #[.pointer (some ⟨X, 0, none⟩), .slice (some ⟨B, 0, none⟩) 8 cap] w fun e w' => e = .returned .nilIface ∧ w'.cell? ⟨X, 0, none⟩ = some (.int .i64 0) ∧ ∀ C, C ≤ X → Below C w w' := by
  have hb : ∀ o q, (convert 23 9 (.slice (some ⟨B, 0, none⟩) 8 cap)).run Ybaf.prog ((w.alloc o).drewN q) = .ok (.string ⟨#[116, 114, 117, 110, 99, 97, 116, 101]⟩) ((w.alloc o).drewN q) := fun o q => back B cap [116, 114, 117, 110, 99, 97, 116, 101] _ (brow_below hR (below_drewN ((Below.refl _ _).alloc (Nat.le_refl _) o) q) hB)
  go_enter Ybaf.func8, Ybaf.ntmps8
  go_wp2
  refine wp_loop_rounds 1 ?_
  rw [rounds_succ]
  go_wp2
  go_quiet ((go_at_call 14; exact Calls.quiet_of_same (string0 _)))
  go_wp2
  go_ret
  exact ⟨rfl, World.cell?_setCell_same _ _ _ (((below_drewN ((Below.refl _ _).alloc (Nat.le_refl _) _) nq).cell (p := ⟨X, 0, none⟩) hX).trans cX), fun C hC => (below_drewN ((Below.refl _ _).alloc (by omega) _) nq).setCell hC _⟩

/-- UnmarshalText of the name of rule 1. -/
theorem unmarshal1 (X B cap : Nat) (v : Int) (w : World) (hR : BRow w B [114, 111, 117, 110, 100]) (hB : B < w.heap.size) (hX : X < w.heap.size) (cX : w.cell? ⟨X, 0, none⟩ = some (.int .i64 v)) (fX : w.frozen? ⟨X, 0, none⟩ = false) :
    Calls Ybaf.prog 8 #[.pointer (some ⟨X, 0, none⟩), .slice (some ⟨B, 0, none⟩) 5 cap] w fun e w' => e = .returned .nilIface ∧ w'.cell? ⟨X, 0, none⟩ = some (.int .i64 1) ∧ ∀ C, C ≤ X → Below C w w' := by
  have hb : ∀ o q, (convert 23 9 (.slice (some ⟨B, 0, none⟩) 5 cap)).run Ybaf.prog ((w.alloc o).drewN q) = .ok (.string ⟨#[114, 111, 117, 110, 100]⟩) ((w.alloc o).drewN q) := fun o q => back B cap [114, 111, 117, 110, 100] _ (brow_below hR (below_drewN ((Below.refl _ _).alloc (Nat.le_refl _) o) q) hB)
  have hb2 : ∀ o q q', (convert 23 9 (.slice (some ⟨B, 0, none⟩) 5 cap)).run Ybaf.prog (((w.alloc o).drewN q).drewN q') = .ok (.string ⟨#[114, 111, 117, 110, 100]⟩) (((w.alloc o).drewN q).drewN q') := fun o q q' => back B cap [114, 111, 117, 110, 100] _ (brow_below hR (below_drewN (below_drewN ((Below.refl _ _).alloc (Nat.le_refl _) o) q) q') hB)
  go_enter Ybaf.func8, Ybaf.ntmps8
  go_wp2
  refine wp_loop_rounds 2 ?_
  rw [rounds_succ]
  go_wp2
  go_quiet ((go_at_call 14; exact Calls.quiet_of_same (string0 _)))
  go_wp2
  rw [rounds_succ]
  go_wp2
  go_quiet ((go_at_call 14; exact (string1 _).mono fun e w' h => ⟨h.1, _, h.2⟩))
  go_wp2
  go_ret
  exact ⟨rfl, World.cell?_setCell_same _ _ _ (((below_drewN ((Below.refl _ _).alloc (Nat.le_refl _) _) _).cell (p := ⟨X, 0, none⟩) hX).trans cX), fun C hC => (below_drewN ((Below.refl _ _).alloc (by omega) _) _).setCell hC _⟩

set_option maxRecDepth 8000 in
set_option maxHeartbeats 1600000 in
theorem lawRT_any (sel prior : Int) (w : World) (h0 : 0 ≤ sel) (h1 : sel ≤ 255) :
    Calls Ybaf.prog 4 #[.int .u8 sel, .int .i64 prior] w fun e w' => e = .returned (.bool true) ∧ Below w.heap.size w w' := by
  have q1 := neqNil
  have h : sel % 2 = 1 ∨ sel % 2 = 0 := by omega
  rcases h with h | h
  · go_enter Ybaf.func4, Ybaf.ntmps4
    go_wp2_with fail
    refine (marshal1 _).mono ?_
    rintro e w1 ⟨⟨B, cap, rfl, hB, hR, hBw⟩, hb⟩
    have HR : Hid (BRow w1 B [114, 111, 117, 110, 100]) := hR
    have HB : Hid (Below w.heap.size w w1) := hb
    have hsz := hb.size
    clear hR hb
    go_wp2_with fail
    refine (unmarshal1 w1.heap.size B cap prior _ (brow_below HR.out ((Below.refl _ _).alloc (Nat.le_refl _) _) hB) (by simp; omega) (by simp) (by simp) (by simp)).mono ?_
    rintro e w2 ⟨rfl, cX, hb2⟩
    have HB2 : Hid (Below w.heap.size w w2) := (HB.out.alloc hsz _).trans (hb2 _ hsz)
    clear hb2
    go_wp2
    go_ret
    exact ⟨rfl, HB2.out⟩
  · go_enter Ybaf.func4, Ybaf.ntmps4
    go_wp2_with fail
    refine (marshal0 _).mono ?_
    rintro e w1 ⟨⟨B, cap, rfl, hB, hR, hBw⟩, hb⟩
    have HR : Hid (BRow w1 B [116, 114, 117, 110, 99, 97, 116, 101]) := hR
    have HB : Hid (Below w.heap.size w w1) := hb
    have hsz := hb.size
    clear hR hb
    go_wp2_with fail
    refine (unmarshal0 w1.heap.size B cap prior _ (brow_below HR.out ((Below.refl _ _).alloc (Nat.le_refl _) _) hB) (by simp; omega) (by simp) (by simp) (by simp)).mono ?_
    rintro e w2 ⟨rfl, cX, hb2⟩
    have HB2 : Hid (Below w.heap.size w w2) := (HB.out.alloc hsz _).trans (hb2 _ hsz)
    clear hb2
    go_wp2
    go_ret
    exact ⟨rfl, HB2.out⟩
end Go.Proofs.YbulkdmhkFmt
