import Derived.Test.YbulkdmhyL
import Derived.LaidEql
import Derived.MapKept
import Derived.OwnWalk
import Derived.Maps.OwnOps
import Derived.Below
namespace Go.Proofs.Ybulkdmhy
open Go.RowKit

/-- The address of the j-th connection. -/
def cp (H j : Nat) : Value := .pointer (some ⟨H + j, 0, none⟩)
def entF (H : Nat) (f : Nat → Int) : Nat → Nat → List MapEntry
  | _, 0 => []
  | s, m + 1 => { key := cp H s, val := .int .i64 (f s), born := s } :: entF H f (s + 1) m
/-- The map's entries: m of them, in the order in which they came. -/
def ent (H : Nat) (f : Nat → Int) (m : Nat) : Array MapEntry := (entF H f 0 m).toArray
/-- The connections' blocks. -/
def Conns (H n : Nat) (w : World) : Prop := ∀ j, j ≤ n → ∃ c, w.heap[H + j]? = some (.cells c 50 (0, 0))
def upd (f : Nat → Int) (i : Nat) (v : Int) : Nat → Int := fun j => if j = i then v else f j

theorem entF_get (H : Nat) (f : Nat → Int) : ∀ (m s i : Nat), (entF H f s m)[i]? = if i < m then some { key := cp H (s + i), val := .int .i64 (f (s + i)), born := s + i } else none
  | 0, _, _ => by simp [entF]
  | m + 1, s, 0 => by simp [entF]
  | m + 1, s, i + 1 => by
    simp only [entF, List.getElem?_cons_succ, entF_get H f m (s + 1) i]
    rw [show s + 1 + i = s + (i + 1) by omega]
    by_cases h : i < m
    · rw [if_pos h, if_pos (by omega)]
    · rw [if_neg h, if_neg (by omega)]
theorem entF_length (H : Nat) (f : Nat → Int) : ∀ (m s : Nat), (entF H f s m).length = m
  | 0, _ => rfl
  | m + 1, s => by simp [entF, entF_length H f m (s + 1)]
theorem ent_get (H : Nat) (f : Nat → Int) (m i : Nat) : (ent H f m)[i]? = if i < m then some { key := cp H i, val := .int .i64 (f i), born := i } else none := by
  unfold ent
  rw [List.getElem?_toArray, entF_get]
  simp
theorem ent_size (H : Nat) (f : Nat → Int) (m : Nat) : (ent H f m).size = m := by simp [ent, entF_length]

theorem info50 : (Yba.prog.info? 50).map (·.size) = some 5 := by kernel_rfl
theorem info50_parts : ∃ i, Yba.prog.info? 50 = some i ∧ i.size = 5 := Option.map_eq_some_iff.1 info50
theorem eq_same (H i : Nat) (w : World) : (Op.equal 44 (cp H i) (cp H i)).run Yba.prog w = .ok true w := by
  obtain ⟨i0, h0, _⟩ := info50_parts
  have h : ∀ d : Nat, (Op.equalIn (d + 1) 44 (cp H i) (cp H i)).run Yba.prog w = .ok true w := fun d => by simp [Op.equalIn, cp, run_underlying Yba.underlying44, sizeOf, typeInfo, h0, run_sameAddr_same]
  exact h 9999
theorem eq_other {H n i j : Nat} {w : World} (hC : Conns H n w) (hi : i ≤ n) (hj : j ≤ n) (hne : i ≠ j) : (Op.equal 44 (cp H i) (cp H j)).run Yba.prog w = .ok false w := by
  obtain ⟨i0, h0, h1⟩ := info50_parts
  obtain ⟨c, hc⟩ := hC i hi
  obtain ⟨d, hd⟩ := hC j hj
  have hn : (⟨H + i, 0, none⟩ : Addr) ≠ ⟨H + j, 0, none⟩ := by
    intro e
    simp only [Addr.mk.injEq] at e
    omega
  have hs := run_sameAddr_other (P := Yba.prog) w (a := ⟨H + i, 0, none⟩) (b := ⟨H + j, 0, none⟩) hn hc hd
  have h : ∀ d : Nat, (Op.equalIn (d + 1) 44 (cp H i) (cp H j)).run Yba.prog w = .ok false w := fun d => by simp [Op.equalIn, cp, run_underlying Yba.underlying44, sizeOf, typeInfo, h0, h1, hs]
  exact h 9999

theorem find_at {H n i : Nat} {w : World} (f : Nat → Int) (hC : Conns H n w) (hi : i ≤ n) : ∀ (m s d : Nat), s ≤ i → s + m ≤ n + 1 →
    (Instr.findAsking 44 (cp H i) (entF H f s m) d).run Yba.prog w = .ok (if i < s + m then some (d + (i - s), .int .i64 (f i)) else none) w
  | 0, s, d, h, _ => by
    rw [if_neg (by omega)]
    rfl
  | m + 1, s, d, h, hm => by
    by_cases e : s = i
    · subst e
      rw [if_pos (by omega)]
      simp [entF, Instr.findAsking, eq_same, Result.andThen]
    · have ih := find_at f hC hi m (s + 1) (d + 1) (by omega) (by omega)
      have hne := eq_other hC hi (show s ≤ n by omega) (fun c => e c.symm)
      simp only [entF, Instr.findAsking, Sem.run_bind, hne, Result.andThen, Bool.false_eq_true, if_false]
      rw [ih, show s + 1 + m = s + (m + 1) by omega]
      by_cases c : i < s + (m + 1)
      · rw [if_pos c, if_pos c, show d + 1 + (i - (s + 1)) = d + (i - s) by omega]
      · rw [if_neg c, if_neg c]
theorem find_key {H n i m : Nat} {w : World} (f : Nat → Int) (hC : Conns H n w) (hi : i ≤ n) (hm : m ≤ n + 1) :
    (Instr.findKey 44 (cp H i) (ent H f m).toList).run Yba.prog w = .ok (if i < m then some (i, .int .i64 (f i)) else none) w := by
  have h := find_at f hC hi m 0 0 (Nat.zero_le _) (by omega)
  simp only [Nat.zero_add, Nat.sub_zero] at h
  cases m with
  | zero => simp [ent, entF, Instr.findKey, run_underlying Yba.underlying44, Instr.findNow, Result.andThen]
  | succ m =>
    have hn : Instr.findNow (.pointer 50) (cp H i) (ent H f (m + 1)).toList 0 = none := by simp [ent, entF, Instr.findNow, Instr.sameNow, cp]
    simp only [Instr.findKey, Sem.run_bind, run_underlying Yba.underlying44, Result.andThen, hn]
    exact h

theorem check_key (e : Bool) (H i : Nat) (w : World) : (Instr.checkKey e 10000 44 (cp H i)).run Yba.prog w = .ok () w := by
  unfold Instr.checkKey
  simp [run_underlying Yba.underlying44, cp, Result.andThen]

theorem look_in {H n i m M clock : Nat} {w : World} {f : Nat → Int} (hC : Conns H n w) (hi : i ≤ n) (hm : m ≤ n + 1) (hb : w.heap[M]? = some (.map (ent H f m) clock)) (h : i < m) :
    (Instr.lookup 25 (.map (some M)) (cp H i) true).run Yba.prog w = .ok (.tuple #[.int .i64 (f i), .bool true]) w := by
  have hf := find_key f hC hi hm
  rw [if_pos h] at hf
  simp [Instr.lookup, run_underlying Yba.underlying25, MapKept.run_getObj_map hb, check_key, hf, Result.andThen]
theorem look_out {H n i m M clock : Nat} {w : World} {f : Nat → Int} (hC : Conns H n w) (hi : i ≤ n) (hm : m ≤ n + 1) (hb : w.heap[M]? = some (.map (ent H f m) clock)) (h : ¬ i < m) :
    (Instr.lookup 25 (.map (some M)) (cp H i) true).run Yba.prog w = .ok (.tuple #[.int .i64 0, .bool false]) w := by
  have hf := find_key f hC hi hm
  rw [if_neg h] at hf
  simp [Instr.lookup, run_underlying Yba.underlying25, MapKept.run_getObj_map hb, check_key, hf, Yba.zeroValue51, Result.andThen]
theorem len_map {M clock m H : Nat} {w : World} {f : Nat → Int} (hb : w.heap[M]? = some (.map (ent H f m) clock)) (ty : TypeId) : (Builtin.len_ #[25] ty #[.map (some M)]).run Yba.prog w = .ok (.int .i64 m) w := by
  simp [Builtin.len_, run_underlying Yba.underlying25, MapKept.run_getObj_map hb, goInt, Result.andThen, ent_size]

theorem grown_obj {w : World} {M : Nat} {o o' : Obj} (hb : w.heap[M]? = some o) : w.grownBy { w with heap := w.heap.setIfInBounds M o' } (some M) :=
  ⟨rfl, rfl, rfl, by simp, fun j _ hj => (MapKept.heap_set hb).2 j (fun e => hj (by rw [e]))⟩

theorem put_in {H n i m M : Nat} {w : World} {f : Nat → Int} (v : Int) (hC : Conns H n w) (hi : i ≤ n) (hm : m ≤ n + 1) (hb : w.heap[M]? = some (.map (ent H f m) m)) (h : i < m) :
    ∃ w', (Instr.mapUpdate 25 (.map (some M)) (cp H i) (.int .i64 v)).run Yba.prog w = .ok () w' ∧ w'.heap[M]? = some (.map (ent H (upd f i v) m) m) ∧ w.grownBy w' (some M) := by
  have hf := find_key f hC hi hm
  rw [if_pos h] at hf
  refine ⟨{ w with heap := w.heap.setIfInBounds M (.map (ent H (upd f i v) m) m) }, ?_, (MapKept.heap_set hb).1, grown_obj hb⟩
  have hg := ent_get H f m i
  rw [if_pos h] at hg
  have hk : ((((ent H f m)[i]?).map (·.key)).getD (cp H i)) = cp H i := by rw [hg]; rfl
  have hks : (Instr.keyThatStays (cp H i) (cp H i)).run Yba.prog w = .ok (cp H i) w := by simp [Instr.keyThatStays, Instr.sameBits, cp]
  have hes : (ent H f m).modify i (fun e => { e with key := cp H i, val := .int .i64 v }) = ent H (upd f i v) m := by
    apply Array.ext_getElem?
    intro j
    rw [Array.getElem?_modify, ent_get, ent_get]
    by_cases hj : i = j
    · subst hj
      simp [h, upd]
    · by_cases hjm : j < m
      · simp [hj, hjm, upd, Ne.symm hj]
      · simp [hj, hjm]
  simp only [Instr.mapUpdate, Sem.run_bind, run_underlying Yba.underlying25, MapKept.run_getObj_map hb, check_key, hf, Result.andThen, hk, hks, hes, MapKept.run_setObj_map _ hb]
theorem put_new {H n m M : Nat} {w : World} {f : Nat → Int} (v : Int) (hC : Conns H n w) (hm : m ≤ n) (hb : w.heap[M]? = some (.map (ent H f m) m)) :
    ∃ w', (Instr.mapUpdate 25 (.map (some M)) (cp H m) (.int .i64 v)).run Yba.prog w = .ok () w' ∧ w'.heap[M]? = some (.map (ent H (upd f m v) (m + 1)) (m + 1)) ∧ w.grownBy w' (some M) := by
  have hf := find_key f hC hm (show m ≤ n + 1 by omega)
  rw [if_neg (Nat.lt_irrefl _)] at hf
  refine ⟨{ w with heap := w.heap.setIfInBounds M (.map (ent H (upd f m v) (m + 1)) (m + 1)) }, ?_, (MapKept.heap_set hb).1, grown_obj hb⟩
  have hes : (ent H f m).push { key := cp H m, val := .int .i64 v, born := m } = ent H (upd f m v) (m + 1) := by
    apply Array.ext_getElem?
    intro j
    rw [Array.getElem?_push, ent_get, ent_get, ent_size]
    by_cases hj : j = m
    · subst hj
      simp [upd]
    · by_cases hjm : j < m
      · simp [hj, hjm, upd, show j < m + 1 by omega]
      · simp [hj, hjm, show ¬ j < m + 1 by omega]
  simp only [Instr.mapUpdate, Sem.run_bind, run_underlying Yba.underlying25, MapKept.run_getObj_map hb, check_key, hf, Result.andThen, hes, MapKept.run_setObj_map _ hb]
theorem put_any {H n m i M : Nat} {w : World} {f : Nat → Int} (v : Int) (hC : Conns H n w) (hi : i ≤ n) (him : i ≤ m) (hm : m ≤ n + 1) (hb : w.heap[M]? = some (.map (ent H f m) m)) :
    ∃ w', (Instr.mapUpdate 25 (.map (some M)) (cp H i) (.int .i64 v)).run Yba.prog w = .ok () w' ∧ w'.heap[M]? = some (.map (ent H (upd f i v) (max m (i + 1))) (max m (i + 1))) ∧ w.grownBy w' (some M) := by
  by_cases h : i < m
  · rw [show max m (i + 1) = m by omega]
    exact put_in v hC hi hm hb h
  · obtain rfl : i = m := by omega
    rw [show max i (i + 1) = i + 1 by omega]
    exact put_new v hC hi hb
theorem upd_same (f : Nat → Int) (i : Nat) (v : Int) : upd f i v i = v := by simp [upd]
theorem upd_other (f : Nat → Int) (i j : Nat) (v : Int) (h : j ≠ i) : upd f i v j = f j := by simp [upd, h]
end Go.Proofs.Ybulkdmhy
