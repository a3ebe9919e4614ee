import Derived.Test.YbulkdmeeW3
import Derived.RegionTactic
import Derived.BigRegion
import Derived.Deep.QuietTactic
import Derived.BigQuiet
namespace Go.Proofs.Ybulkdmee
open Go.RowKit

theorem Yba.info59 : (Yba.prog.info? 59).map (fun i => (i.zero, i.size, i.bytes)) = some (some (.agg #[.string ⟨#[]⟩, .slice none 0 0, .int .i64 0, .nilFunc, .bool false]), 5, 64) := by kernel_rfl
theorem Yba.info99 : (Yba.prog.info? 99).map (fun i => (i.zero, i.size, i.bytes)) = some (some (.agg #[.nilFunc, .string ⟨#[]⟩, .string ⟨#[]⟩]), 3, 40) := by kernel_rfl

/-- The block that 'make([]param, n)' lays. -/
def baseObj (n : Nat) : Obj := .cells (madeCells #[.nilFunc, .string ⟨#[]⟩, .string ⟨#[]⟩] (n * 3)) 99

theorem make_base (n : Nat) (hn : n ≤ 1048576) (w : World) : (Instr.makeSlice 54 (.int .i64 (n : Int)) (.int .i64 (n : Int))).run Yba.prog w = .ok (.slice (some ⟨w.heap.size, 0, none⟩) n n) (w.alloc (baseObj n)) := by
  obtain ⟨i0, hi, hz0, hz1, hz2⟩ := info_parts Yba.info99
  have := run_make (P := Yba.prog) w 54 99 i0 _ Yba.underlying54 hi hz0 .i64 .i64 n n (by omega) (by omega) (by rw [hz2]; omega) (by omega)
  rw [this, hz1]
  rfl
theorem make_fs (n : Nat) (hn : n ≤ 1048576) (nm : Nat → ByteArray) (lg : Nat → Bool) (bb : Nat) (w : World) : (Instr.makeSlice 55 (.int .i64 (n : Int)) (.int .i64 (n : Int))).run Yba.prog w = .ok (.slice (some ⟨w.heap.size, 0, none⟩) n n) (w.alloc (.cells (fsArr nm lg bb n 0) 59)) := by
  obtain ⟨i0, hi, hz0, hz1, hz2⟩ := info_parts Yba.info59
  have := run_make (P := Yba.prog) w 55 59 i0 _ Yba.underlying55 hi hz0 .i64 .i64 n n (by omega) (by omega) (by rw [hz2]; omega) (by omega)
  rw [this, hz1, ← fsArr_zero nm lg bb n]
  rfl

def lgOf (ln : Nat) (lv : Nat → Bool) (j : Nat) : Bool := if 0 < ln then lv (j % ln) else false

theorem eqFunc (w : World) : (binOp .eql 57 .nilFunc .nilFunc).run Yba.prog w = .ok (.bool true) w := by kernel_rfl
theorem eqSl (w : World) : (binOp .eql 54 (.slice none 0 0) (.slice none 0 0)).run Yba.prog w = .ok (.bool true) w := by kernel_rfl
theorem str_neF {a b : ByteArray} (h : a ≠ b) : (a.toList == b.toList) = false := by
  cases e : (a.toList == b.toList) with
  | false => rfl
  | true => exact absurd (str_eq e) h
theorem leg_cell (w wr : World) (lb lo ln k : Nat) (lv lg : Nat → Bool) (hlb : lb < w.heap.size) (hl : 0 < ln) (HB : Below w.heap.size w wr) (HLV : ∀ i, i < ln → w.cell? ⟨lb, lo + i, none⟩ = some (.bool (lv i))) (HG : lg = lgOf ln lv) :
    wr.cell? ⟨lb, lo + k % ln, none⟩ = some (.bool (lg k)) := by
  rw [HB.cell (p := ⟨lb, lo + k % ln, none⟩) hlb, HLV (k % ln) (Nat.mod_lt k hl), HG, lgOf, if_pos hl]
theorem round_rel (w wr : World) (nm : Nat → ByteArray) (lg : Nat → Bool) (n k : Nat) (b : Bool) (hb : lg k = b) (hk : k < n) (hF : wr.heap[w.heap.size + 1]? = some (.cells (fsArr nm lg w.heap.size n k) 59 (0, 0))) (hsz : wr.heap.size = w.heap.size + 2) (hB : Below w.heap.size w wr) :
    ∃ k' : Nat, k' ≤ n ∧ (.int .i64 ((k : Int) + 1) : Value) = .int .i64 k' ∧ ((((((wr.setCell ⟨w.heap.size + 1, k * 5, none⟩ (.string (nm k))).setCell ⟨w.heap.size + 1, k * 5 + 1, none⟩ (.slice (some ⟨w.heap.size, 0, none⟩) k n)).setCell ⟨w.heap.size + 1, k * 5 + 2, none⟩ (.int .i64 0)).setCell ⟨w.heap.size + 1, k * 5 + 3, none⟩ .nilFunc).setCell ⟨w.heap.size + 1, k * 5 + 4, none⟩ (.bool b)).drew).heap[w.heap.size + 1]? = some (.cells (fsArr nm lg w.heap.size n k') 59 (0, 0)) ∧
      ((((((wr.setCell ⟨w.heap.size + 1, k * 5, none⟩ (.string (nm k))).setCell ⟨w.heap.size + 1, k * 5 + 1, none⟩ (.slice (some ⟨w.heap.size, 0, none⟩) k n)).setCell ⟨w.heap.size + 1, k * 5 + 2, none⟩ (.int .i64 0)).setCell ⟨w.heap.size + 1, k * 5 + 3, none⟩ .nilFunc).setCell ⟨w.heap.size + 1, k * 5 + 4, none⟩ (.bool b)).drew).heap.size = w.heap.size + 2 ∧
      Below w.heap.size w ((((((wr.setCell ⟨w.heap.size + 1, k * 5, none⟩ (.string (nm k))).setCell ⟨w.heap.size + 1, k * 5 + 1, none⟩ (.slice (some ⟨w.heap.size, 0, none⟩) k n)).setCell ⟨w.heap.size + 1, k * 5 + 2, none⟩ (.int .i64 0)).setCell ⟨w.heap.size + 1, k * 5 + 3, none⟩ .nilFunc).setCell ⟨w.heap.size + 1, k * 5 + 4, none⟩ (.bool b)).drew) := by
  subst hb
  refine ⟨k + 1, by omega, by simp, ?_, ?_, ?_⟩
  · rw [heap_drew]; exact fs_step wr nm lg w.heap.size n k (w.heap.size + 1) hk hF
  · rw [heap_drew, ← hsz]; simp only [World.setCell, Array.size_modify]
  · exact (((((hB.setCell (Nat.le_succ _) _).setCell (Nat.le_succ _) _).setCell (Nat.le_succ _) _).setCell (Nat.le_succ _) _).setCell (Nat.le_succ _) _).drew

/-- What the call of 'function' is handed. -/
theorem call_facts (w wr : World) (nm : Nat → ByteArray) (lg : Nat → Bool) (n : Nat) (v : Value) (o2 : Obj) (hsz : wr.heap.size = w.heap.size + 2) (hR : FRow wr (w.heap.size + 1) w.heap.size n nm lg) (hB : Below w.heap.size w wr) :
    ((wr.alloc (.cells #[v, .int .i64 0] 62)).alloc o2).cell? ⟨w.heap.size + 2, 0, none⟩ = some v ∧ ((wr.alloc (.cells #[v, .int .i64 0] 62)).alloc o2).cell? ⟨w.heap.size + 2, 1, none⟩ = some (.int .i64 0) ∧
    ((wr.alloc (.cells #[v, .int .i64 0] 62)).alloc o2).frozen? ⟨w.heap.size + 2, 1, none⟩ = false ∧ ((wr.alloc (.cells #[v, .int .i64 0] 62)).alloc o2).heap.size = w.heap.size + 4 ∧
    FRow ((wr.alloc (.cells #[v, .int .i64 0] 62)).alloc o2) (w.heap.size + 1) w.heap.size n nm lg ∧ Below w.heap.size w ((wr.alloc (.cells #[v, .int .i64 0] 62)).alloc o2) := by
  have hb : Below wr.heap.size wr ((wr.alloc (.cells #[v, .int .i64 0] 62)).alloc o2) := ((Below.refl _ _).alloc (Nat.le_refl _) _).alloc (by simp) _
  refine ⟨?_, ?_, ?_, by simp [hsz], ?_, hB.trans (hb.mono (by omega))⟩
  · rw [World.cell?_alloc_past _ _ _ (by simp [hsz]), World.cell?_alloc_at _ _ _ _ hsz.symm]; rfl
  · rw [World.cell?_alloc_past _ _ _ (by simp [hsz]), World.cell?_alloc_at _ _ _ _ hsz.symm]; rfl
  · rw [World.frozen?_alloc_past _ _ _ (by simp [hsz]), World.frozen?_alloc_at _ _ _ _ hsz.symm]
  · intro j hj
    have e : ∀ o, ((wr.alloc (.cells #[v, .int .i64 0] 62)).alloc o2).cell? ⟨w.heap.size + 1, o, none⟩ = wr.cell? ⟨w.heap.size + 1, o, none⟩ := fun o => hb.cell (p := ⟨w.heap.size + 1, o, none⟩) (show w.heap.size + 1 < _ by omega)
    rw [e, e, e, e, e]
    exact hR j hj

theorem after_facts (w W w1 : World) (gs : W.heap.size = w.heap.size + 4) (g1 : W.cell? ⟨w.heap.size + 2, 1, none⟩ = some (.int .i64 0)) (gB : Below w.heap.size w W)
    (hb1 : Below W.heap.size (W.setCell ⟨w.heap.size + 2, 1, none⟩ (.int .i64 1)) w1) : w1.cell? ⟨w.heap.size + 2, 1, none⟩ = some (.int .i64 1) ∧ w.heap.size + 4 ≤ w1.heap.size ∧ Below w.heap.size w w1 := by
  refine ⟨?_, ?_, (gB.setCell (show w.heap.size ≤ w.heap.size + 2 by omega) _).trans (hb1.mono (by omega))⟩
  · rw [hb1.cell (p := ⟨w.heap.size + 2, 1, none⟩) (show w.heap.size + 2 < _ by omega)]
    exact World.cell?_setCell_same _ _ _ g1
  · have := hb1.size
    simp only [World.setCell, Array.size_modify] at this
    omega

set_option maxHeartbeats 1000000 in
theorem walk_pos (sb so n cs : Nat) (nm : Nat → ByteArray) (la : Option Addr) (lb lo ln lc : Nat) (lv : Nat → Bool) (name N : ByteArray) (pick : Int) (w : World)
    (hn : n ≤ 1048576) (hn0 : 0 < n) (hsb : sb < w.heap.size) (hnm : ∀ i, i < n → w.cell? ⟨sb, so + i, none⟩ = some (.string (nm i)))
    (hla : 0 < ln → la = some ⟨lb, lo, none⟩ ∧ lb < w.heap.size) (hlv : ∀ i, i < ln → w.cell? ⟨lb, lo + i, none⟩ = some (.bool (lv i))) (hln : ln ≤ 9223372036854775807)
    (hp0 : 0 ≤ pick) (hp1 : pick ≤ 255) (hN : (pick % 2 = 1 ∧ N = nm ((pick / 2).toNat % n)) ∨ (¬ pick % 2 = 1 ∧ N = name)) :
    Calls Yba.prog 4 #[.slice (some ⟨sb, so, none⟩) n cs, .slice la ln lc, .string name, .int .u8 pick] w fun e w' => e = .returned (.bool true) ∧ Below w.heap.size w w' := by
  obtain ⟨lg, hlg⟩ : ∃ lg, lg = lgOf ln lv := ⟨_, rfl⟩
  have HG : Hid (lg = lgOf ln lv) := hlg
  have HNM : Hid (∀ i, i < n → w.cell? ⟨sb, so + i, none⟩ = some (.string (nm i))) := hnm
  have HLA : Hid (0 < ln → la = some ⟨lb, lo, none⟩ ∧ lb < w.heap.size) := hla
  have HLV : Hid (∀ i, i < ln → w.cell? ⟨lb, lo + i, none⟩ = some (.bool (lv i))) := hlv
  have mb := make_base n hn
  have mf := make_fs n hn nm lg w.heap.size
  have hnI : (n : Int) ≤ 1048576 := by omega
  clear hlg hnm hla hlv
  rcases hN with ⟨hp, hN⟩ | ⟨hp, hN⟩
  focus
    have hcN := HNM.out ((pick / 2).toNat % n) (Nat.mod_lt _ hn0)
    rw [← hN] at hcN
    have ei : (pick / 2).toNat % n = (pick / 2 % (n : Int)).toNat := by
      obtain ⟨q, hq⟩ : ∃ q : Nat, pick / 2 = (q : Int) := ⟨(pick / 2).toNat, by omega⟩
      rw [hq]; simp [← Int.natCast_emod]
    rw [ei] at hcN
    have hix : 0 ≤ pick / 2 % (n : Int) ∧ pick / 2 % (n : Int) < n := ⟨Int.emod_nonneg _ (by omega), Int.emod_lt_of_pos _ (by omega)⟩
    clear hN ei
    go_enter Yba.func4, Yba.ntmps4
    go_wp2
    clear hcN hix
  rotate_left
  focus
    subst hN
    have hp2 : pick % 2 = 0 := by omega
    clear hp
    have hp : pick % 2 = 0 := hp2
    clear hp2
    go_enter Yba.func4, Yba.ntmps4
    go_wp2
  all_goals
    clear mb mf hp
    go_loopw [12] (fun i wr => ∃ k : Nat, k ≤ n ∧ i = .int .i64 k ∧ wr.heap[w.heap.size + 1]? = some (.cells (fsArr nm lg w.heap.size n k) 59 (0, 0)) ∧ wr.heap.size = w.heap.size + 2 ∧ Below w.heap.size w wr) (fun i _ => n - (intOf i).toNat)
    case atStart =>
      refine ⟨0, Nat.zero_le _, rfl, ?_, by simp, ((Below.refl _ _).alloc (Nat.le_refl _) _).alloc (by simp) _⟩
      have := heap_alloc_new (w.alloc (baseObj n)) (.cells (fsArr nm lg w.heap.size n 0) 59)
      simpa using this
    case round =>
      obtain ⟨k, hk, rfl, hF, hsz, hbel⟩ := hrel
      by_cases hlt : k < n
      · obtain ⟨c0, c1, c2, c3, c4⟩ := fs_zero wr nm lg w.heap.size n k (w.heap.size + 1) hF hlt
        have fz : ∀ o, wr.frozen? ⟨w.heap.size + 1, o, none⟩ = false := fun o => frozen_of_row wr (w.heap.size + 1) o _ _ hF
        have cn : wr.cell? ⟨sb, so + k, none⟩ = some (.string (nm k)) := (hbel.cell (p := ⟨sb, so + k, none⟩) hsb).trans (HNM.out k hlt)
        have HF : Hid (wr.heap[w.heap.size + 1]? = some (.cells (fsArr nm lg w.heap.size n k) 59 (0, 0))) := hF
        have HB : Hid (Below w.heap.size w wr) := hbel
        clear hF hbel
        by_cases hl : 0 < ln
        · obtain ⟨rfl, hlb⟩ := HLA.out hl
          have cl := leg_cell w wr lb lo ln k lv lg hlb hl HB.out HLV.out HG.out
          have hix : 0 ≤ (k : Int) % (ln : Int) ∧ (k : Int) % (ln : Int) < ln := ⟨Int.emod_nonneg _ (by omega), Int.emod_lt_of_pos _ (by omega)⟩
          go_wp2
          go_region
          go_wp2
          go_roundw
          case rel => exact round_rel w wr nm lg n k _ rfl hlt HF.out hsz HB.out
          case measure => simp [intOf]; omega
        · have hl0 : ln = 0 := by omega
          have el : lg k = false := by rw [HG.out, lgOf, if_neg hl]
          have HL : Hid (lg k = false) := el
          subst hl0
          clear el
          go_wp2
          go_region
          go_wp2
          go_roundw
          case rel => exact round_rel w wr nm lg n k _ HL.out hlt HF.out hsz HB.out
          case measure => simp [intOf]; omega
      · have hkn : k = n := by omega
        subst hkn
        have hrow := fs_row wr nm lg w.heap.size k (w.heap.size + 1) hF
        have HR : Hid (FRow wr (w.heap.size + 1) w.heap.size k nm lg) := hrow
        have HB : Hid (Below w.heap.size w wr) := hbel
        clear hF hbel hrow
        go_wp2_with fail
        obtain ⟨g0, g1, gf, gs, gR, gB⟩ := call_facts w wr nm lg k (.slice (some ⟨w.heap.size + 1, 0, none⟩) k k) _ hsz HR.out HB.out
        refine (function_any (w.heap.size + 1) w.heap.size k nm lg N (w.heap.size + 2) _ hn g0 g1 gf (by omega) (by omega) (by omega) gR).mono ?_
        rintro e w1 ⟨hor, hb1⟩
        obtain ⟨cn1, hs1, hB1⟩ := after_facts w _ w1 gs g1 gB hb1
        have HB1 : Hid (Below w.heap.size w w1) := hB1
        have hz1 : w.heap.size + 2 < w1.heap.size := by omega
        have hz2 : sb < w1.heap.size := by omega
        have hz3 : 0 < ln → lb < w1.heap.size := fun h => by have := (HLA.out h).2; omega
        have HZ : Hid (0 < ln → lb < w1.heap.size) := hz3
        clear hb1 hB1 g0 g1 gf gs gR gB HR HB hk hlt hz3
        have cnm : ∀ o, o < k → w1.cell? ⟨sb, so + o, none⟩ = some (.string (nm o)) := fun o ho => (HB1.out.cell (p := ⟨sb, so + o, none⟩) hsb).trans (HNM.out o ho)
        have HC : Hid (∀ o, o < k → w1.cell? ⟨sb, so + o, none⟩ = some (.string (nm o))) := cnm
        clear cnm
        rcases hor with ⟨q, hq, hnq, hno, rfl⟩ | ⟨hno, rfl⟩
        · have HQ : Hid (nm q = N) := hnq
          have HO : Hid (∀ j, j < q → nm j ≠ N) := hno
          clear hnq hno
          go_wp2
          go_loop [18, 19] (fun v i => ∃ m : Nat, m ≤ q ∧ v = .int .i64 (-1) ∧ i = .int .i64 m) (fun _ i => k - (intOf i).toNat)
          case atStart => exact ⟨0, Nat.zero_le _, rfl, rfl⟩
          case round =>
            obtain ⟨m, hm, rfl, rfl⟩ := hrel
            have cm := HC.out m (by omega)
            by_cases hmq : m = q
            · subst hmq
              have te : ((nm m).toList == N.toList) = true := by rw [HQ.out]; simp
              by_cases hl : 0 < ln
              · obtain ⟨rfl, hlb⟩ := HLA.out hl
                have hlb1 := HZ.out hl
                have cl := leg_cell w w1 lb lo ln m lv lg hlb hl HB1.out HLV.out HG.out
                have hix : 0 ≤ (m : Int) % (ln : Int) ∧ (m : Int) % (ln : Int) < ln := ⟨Int.emod_nonneg _ (by omega), Int.emod_lt_of_pos _ (by omega)⟩
                have q1 := eqFunc
                go_wp2
                go_ret
                exact ⟨rfl, HB1.out.alloc (by omega) _⟩
              · have el : lg m = false := by rw [HG.out, lgOf, if_neg hl]
                have hl0 : ln = 0 := by omega
                subst hl0
                have q1 := eqFunc
                go_wp2
                go_ret
                exact ⟨rfl, HB1.out.alloc (by omega) _⟩
            · have te : ((nm m).toList == N.toList) = false := str_neF (HO.out m (by omega))
              go_wp2
              go_round
              case rel => exact ⟨m + 1, by omega, rfl, by go_num⟩
              case measure => simp [intOf]; omega
        · have HO : Hid (∀ j, j < k → nm j ≠ N) := hno
          clear hno
          go_wp2
          go_loop [18, 19] (fun v i => ∃ m : Nat, m ≤ k ∧ v = .int .i64 (-1) ∧ i = .int .i64 m) (fun _ i => k - (intOf i).toNat)
          case atStart => exact ⟨0, Nat.zero_le _, rfl, rfl⟩
          case round =>
            obtain ⟨m, hm, rfl, rfl⟩ := hrel
            by_cases hmk : m < k
            · have cm := HC.out m hmk
              have te : ((nm m).toList == N.toList) = false := str_neF (HO.out m hmk)
              go_wp2
              go_round
              case rel => exact ⟨m + 1, by omega, rfl, by go_num⟩
              case measure => simp [intOf]; omega
            · have hmk : m = k := by omega
              subst hmk
              have q1 := eqFunc
              have q2 := eqSl
              go_wp2
              go_ret
              exact ⟨rfl, HB1.out.alloc (by omega) _⟩
end Go.Proofs.Ybulkdmee
