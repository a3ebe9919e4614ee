import Derived.Test.YbulkdmhyProg
import Derived.Conc.RwLib
import Derived.Conc.MuLone
import Derived.KernelRfl
import Derived.WalkKit
import Derived.WalkLawsBesides
import Derived.WalkSpells
import Derived.Laws.LoneSync
namespace Go.Proofs.Ybulkdmhy
open Go.RowKit Go.MuLone

/-- The numbers under which this dump holds the lock's functions and types. -/
abbrev muLink : Go.Conc.Locks.MuLink := { lock := 7, unlock := 6, ilock := 10, iunlock := 9, lockSlow := 18, unlockSlow := 17, disable := 11, enable := 12, acquire := 14, relMerge := 15, cas32 := 13, add32 := 16, tMutex := 40, tIMutex := 38, tPMutex := 56, tPIMutex := 57, tPI32 := 59, tUP := 61, tNoCopy := 28, tU32 := 34 }
theorem muLib : Go.Conc.Locks.MuLib Yba.prog muLink :=
  ⟨Yba.func7, Yba.func6, Yba.func10, Yba.func9, Yba.func11, Yba.func12, Yba.func14, Yba.func15, Yba.func13, Yba.func16, Yba.underlying38, Yba.runUnderlying38, Yba.sizeOf38, Yba.isAgg38, Yba.zeroValue38, Yba.underlying40, Yba.runUnderlying40, Yba.sizeOf40, Yba.isAgg40, Yba.zeroValue40, Yba.underlying56, Yba.runUnderlying56, Yba.sizeOf56, Yba.isAgg56, Yba.zeroValue56, Yba.underlying57, Yba.runUnderlying57, Yba.sizeOf57, Yba.isAgg57, Yba.zeroValue57, Yba.underlying59, Yba.runUnderlying59, Yba.sizeOf59, Yba.isAgg59, Yba.zeroValue59, Yba.underlying61, Yba.runUnderlying61, Yba.sizeOf61, Yba.isAgg61, Yba.zeroValue61, Yba.underlying28, Yba.runUnderlying28, Yba.sizeOf28, Yba.isAgg28, Yba.zeroValue28, Yba.underlying21, Yba.runUnderlying21, Yba.sizeOf21, Yba.isAgg21, Yba.zeroValue21, (by kernel_rfl)⟩

theorem info38 : (Yba.prog.info? 38).map (·.size) = some 2 := by kernel_rfl
theorem shape_of {w : World} {a : Addr} {v : Value} (h : w.cell? a = some v) : ∃ c e fr, w.heap[a.block]? = some (.cells c e fr) ∧ a.off < c.size ∧ a.spot = none := by
  unfold World.cell? at h
  split at h
  · rename_i c e fr hb
    split at h
    · cases h
    · rename_i hs
      exact ⟨c, e, fr, hb, (Array.getElem?_eq_some_iff.1 h).1, by simpa using hs⟩
  · cases h
theorem bindOfPure {α β : Type} (x : α) (f : α → Sem β) : Sem.bind (pure x) f = f x := rfl
theorem conv57 {a : Addr} {v : Value} {w : World} (hc : w.cell? a = some v) : (convert 57 61 (.pointer (some a))).run Yba.prog w = .ok (.pointer (some a)) w := by
  obtain ⟨i0, h0, h1⟩ := Option.map_eq_some_iff.1 info38
  obtain ⟨c, e, fr, hb, hlt, hsp⟩ := shape_of hc
  have hge : ¬ (c.size ≤ a.off) := by omega
  simp [convert, run_underlying Yba.underlying57, run_underlying Yba.underlying61, Result.andThen]
  change Sem.run Yba.prog (Sem.program _) w = _
  simp only [Sem.run, Sem.bind, Yba.underlying57, bindOfPure]
  simp [run_underlying Yba.underlying61, Conv.seenAt, viewAt, cellsIn, sizeOf, typeInfo, h0, h1, World.shape?, hb, hge, Result.andThen]

theorem and5 : bits .and .i32 0 5 = 0 := by decide +kernel
theorem or1 : bits .or .i32 0 1 = 1 := by decide +kernel

set_option maxRecDepth 8000 in
set_option maxHeartbeats 1600000 in
/-- TryLock of the lock's inner word, free and nobody waiting: taken. -/
theorem itry_free (a : Addr) (w : World) (hc : w.cell? a = some (.int .i32 0)) (hz : w.frozen? a = false) :
    Calls Yba.prog 8 #[.pointer (some a)] w fun e w' => e = .returned (.bool true) ∧ w' = w.setCell a (.int .i32 1) := by
  have hd : ∀ w, (callFunc 11 #[]).run Yba.prog w = .ok (.value (.tuple #[])) w := disable muLib
  have he : ∀ w, (callFunc 12 #[]).run Yba.prog w = .ok (.value (.tuple #[])) w := enable muLib
  have ha : ∀ a w, (callFunc 14 #[.pointer (some a)]).run Yba.prog w = .ok (.value (.tuple #[])) w := acquire muLib
  have hcas : (callFunc 13 #[.pointer (some a), .int .i32 0, .int .i32 1]).run Yba.prog w = .ok (.value (.bool true)) (w.setCell a (.int .i32 1)) := run_call_cas_hit (P := Yba.prog) muLib.f_cas32 (by kernel_rfl) (by kernel_rfl) (by kernel_rfl) .i32 (by kernel_rfl) (y := 1) hc hz
  have hc' : (w.setCell a (.int .i32 1)).cell? a = some (.int .i32 1) := by simp [go_sem, hc]
  have hcv := conv57 hc'
  have h5 := and5
  have h1 := or1
  go_enter Yba.func8, Yba.ntmps8
  go_wp2
  go_ret
  exact ⟨rfl, rfl⟩
end Go.Proofs.Ybulkdmhy
