import Derived.Test.YbulkdmgiW3
import Derived.Deep.RegionLaw
namespace Go.Proofs.Ybulkdmgi
open Go.RowKit

/-- The cells of a closureSums of which only 'sums' is laid. -/
def boxC (v : Value) : Array Value :=
  #[.int .i64 0, .slice none 0 0, .slice none 0 0, .slice none 0 0, .int .i64 0, .slice none 0 0, .slice none 0 0, .int .i64 0, .int .i64 0, .slice none 0 0, .slice none 0 0, v, .slice none 0 0, .int .i64 0]

/-- append onto a row that the call owns, as one step of a region that draws its order. -/
theorem step_append_own {P : Program} {ops : Array Oper} {o : Oper} {a : Act} {w : World} {K : Act → World → Prop} {Q : Exit → Act → World → Prop} {E : Prop}
    (hg : o.guard = none) (s x : Operand) (t : TypeId) (hop : o.op = Op.call { callee := Callee.builtin Builtin.append, args := #[s, x], argTypes := #[t, t] })
    (base : Nat) (e : TypeId) (i : TypeInfo) (z : Value) (size bytes : Nat) (h1 : P.underlying t = some (.slice e)) (h2 : P.info? e = some i) (h3 : i.zero = some z) (h4 : i.size = size) (h5 : i.bytes = bytes) (h6 : z.cells.size = size) (h7 : 0 < size)
    (v : Value) (n : Nat) (xs : List Value) (hs : a.eval s = v) (hown : w.ownsRow base e size v n xs)
    (ad : Addr) (m c : Nat) (news : List Value) (hx : a.eval x = .slice (some ad) m c) (hn : news.length = m * size) (hc : ∀ j u, news[j]? = some u → w.cell? (ad.add j) = some u) (h1c : ∀ u ∈ news, u.oneCell' = true)
    (b1 : n + m ≤ maxLen) (b2 : (n + m) * bytes ≤ 140737488355328) (hbase : base ≤ w.heap.size)
    (hK : ∀ v' w', w'.ownsRow base e size v' (n + m) (xs ++ news) → w.grownBy w' v.ownBlock → K (a.put o.dst v') w') :
    if Region.wanted o (yielded ops a.tmps) = true then Oper.wp P o a w K Q else E := by
  have hw : Region.wanted o (yielded ops a.tmps) = true := by simp [Region.wanted, hg]
  rw [if_pos hw]
  obtain ⟨v', w', hrun, r1, r2, _⟩ := run_append_own (P := P) w base t o.type e i z size bytes h1 h2 h3 h4 h5 h6 h7 v n xs hown ad m c news hn hc h1c b1 b2 hbase
  unfold Oper.wp
  simp [execOp, hop, resolve, invoke, builtin, hs, hx, hrun, Result.andThen]
  exact hK v' w' r1 r2

/-- The struct's block, the row, nothing old turned. -/
structure Inv (S C : Nat) (T : List Node) (g cap : Nat) (w : World) : Prop where
  box : w.heap[C]? = some (.cells (boxC (.slice (some ⟨g, 0, none⟩) T.length cap)) 90 (0, 0))
  own : w.ownsRow S 82 4 (.slice (some ⟨g, 0, none⟩) T.length cap) T.length (cellsOf T)

theorem ne_blocks {w : World} {C g : Nat} {c1 c2 : Array Value} {f1 f2 : Nat × Nat} (h1 : w.heap[C]? = some (.cells c1 90 f1)) (h2 : w.heap[g]? = some (.cells c2 82 f2)) : C ≠ g := by
  rintro rfl
  rw [h1] at h2
  simp at h2

/-- What stands behind the append, and behind the store of the new slice. -/
theorem made_end {S C g cap g' cap' n : Nat} {T : List Node} {w W w' : World} {x : Node} (hI : Inv S C T g cap w) (hn : n = T.length) (hbox : W.heap[C]? = w.heap[C]?) (hB : Below S w W) (hS : S ≤ W.heap.size) (hSC : S ≤ C) (hCW : C < W.heap.size)
    (hgrow : W.grownBy w' (some g)) (hown : w'.ownsRow S 82 4 (.slice (some ⟨g', 0, none⟩) (n + 1) cap') (n + 1) (cellsOf T ++ [.int .i32 x.root, .int .i32 x.base, .int .i32 x.dep, .int .i32 x.jmp])) :
    w'.cell? ⟨C, 11, none⟩ = some (.slice (some ⟨g, 0, none⟩) n cap) ∧ w'.frozen? ⟨C, 11, none⟩ = false ∧
    Inv S C (T ++ [x]) g' cap' (w'.setCell ⟨C, 11, none⟩ (.slice (some ⟨g', 0, none⟩) (n + 1) cap')) ∧ Below S w (w'.setCell ⟨C, 11, none⟩ (.slice (some ⟨g', 0, none⟩) (n + 1) cap')) := by
  subst hn
  have hgS : S ≤ g := (hI.own.lt g rfl).1
  have hCg : C ≠ g := by
    rcases hI.own.2 with ⟨h, _⟩ | ⟨g1, cap1, cur, h, _, hg, _⟩
    · simp at h
    · simp only [Value.slice.injEq, Option.some.injEq, Addr.mk.injEq, and_true, true_and] at h
      obtain ⟨rfl, rfl⟩ := h
      exact ne_blocks hI.box hg
  have hb : w'.heap[C]? = some (.cells (boxC (.slice (some ⟨g, 0, none⟩) T.length cap)) 90 (0, 0)) := by
    rw [hgrow.block C hCW (by simp [hCg]), hbox, hI.box]
  refine ⟨cell_of_row w' C 11 _ _ _ hb, frozen_of_row w' C 11 _ _ hb, ⟨?_, ?_⟩, ?_⟩
  · rw [heap_setCell_same w' C 11 _ 90 _ hb]
    simp [boxC]
  · have hl : (T ++ [x]).length = T.length + 1 := by simp
    have hc : cellsOf (T ++ [x]) = cellsOf T ++ [.int .i32 x.root, .int .i32 x.base, .int .i32 x.dep, .int .i32 x.jmp] := by simp [cellsOf]
    rw [hl, hc]
    refine ⟨hown.1, ?_⟩
    rcases hown.2 with ⟨h, _⟩ | ⟨g1, cap1, cur, h, h1, hg, r⟩
    · simp at h
    · refine .inr ⟨g1, cap1, cur, h, h1, ?_, r⟩
      rw [heap_setCell_other w' ⟨C, 11, none⟩ g1 _ (fun e => ne_blocks hb hg e.symm)]
      exact hg
  · exact (hB.grown hgrow hS (fun k hk => by cases hk; exact hgS)).setCell hSC _

theorem Hid.mk' {p : Prop} (h : p) : Hid p := h
theorem one4 (a b c d : Int) : ∀ u ∈ [Value.int .i32 a, .int .i32 b, .int .i32 c, .int .i32 d], u.oneCell' = true := by
  intro u hu
  simp at hu
  rcases hu with rfl | rfl | rfl | rfl <;> rfl
theorem three_blocks (w : World) (o1 o2 o3 : Obj) (q : Nat) : Below w.heap.size w ((((w.alloc o1).alloc o2).drewN q).alloc o3) :=
  (below_drewN (((Below.refl _ _).alloc (Nat.le_refl _) o1).alloc (by simp) o2) q).alloc (by simp [World.drewN]; omega) o3
theorem three_size (w : World) (o1 o2 o3 : Obj) (q : Nat) : ((((w.alloc o1).alloc o2).drewN q).alloc o3).heap.size = w.heap.size + 3 := by simp [World.drewN]
theorem three_cells (w : World) (o1 o2 : Obj) (q : Nat) (l : List Value) : ∀ (j : Nat) (u : Value), l[j]? = some u → ((((w.alloc o1).alloc o2).drewN q).alloc (.cells l.toArray 82)).cell? ((⟨w.heap.size + 2, 0, none⟩ : Addr).add j) = some u := by
  intro j u hu
  have hadd : (⟨w.heap.size + 2, 0, none⟩ : Addr).add j = ⟨w.heap.size + 2, j, none⟩ := by unfold Addr.add; split <;> simp_all
  rw [hadd, World.cell?_alloc_at _ _ _ _ (by simp [World.drewN])]
  simpa using hu

def Made (S C : Nat) (T : List Node) (e : Ending) (w' : World) : Prop :=
  ∃ T' g' cap' v, e = .returned v ∧ WF T' ∧ T'.length = T.length + 1 ∧ Inv S C T' g' cap' w'

set_option maxHeartbeats 1000000 in
theorem made_any (S C g cap b : Nat) (T : List Node) (w : World) (hT : WF T) (hn : T.length ≤ 65536) (hI : Inv S C T g cap w) (hSC : S ≤ C) (hb : b < T.length) :
    Calls Yba.prog 16 #[.pointer (some ⟨C, 0, none⟩), .int .i32 b, .int .i32 (T.length : Nat)] w fun e w' => Made S C T e w' ∧ Below S w w' := by
  obtain ⟨n, hnn⟩ : ∃ n, n = T.length := ⟨_, rfl⟩
  have HN : Hid (n = T.length) := hnn
  have HI : Hid (Inv S C T g cap w) := hI
  have hCl : C < w.heap.size := (Array.getElem?_eq_some_iff.1 hI.box).1
  have hgl : g < w.heap.size := ((hI.own.lt g rfl).2)
  have cC : w.cell? ⟨C, 11, none⟩ = some (.slice (some ⟨g, 0, none⟩) n cap) := by rw [hnn]; exact cell_of_row w C 11 _ _ _ hI.box
  have fC : w.frozen? ⟨C, 11, none⟩ = false := frozen_of_row w C 11 _ _ hI.box
  have hR := nrow_of_owns hI.own
  obtain ⟨x0, x1, x2, x3⟩ := hR b hb
  have f := hT.2 b hb
  obtain ⟨j, hj⟩ : ∃ j : Nat, (nd T b).jmp = (j : Int) := ⟨(nd T b).jmp.toNat, by have := f.jmp.1; omega⟩
  have hjb : j ≤ b := by have := f.jmp.2.1; omega
  obtain ⟨y0, y1, y2, y3⟩ := hR j (by omega)
  have fj := hT.2 j (by omega)
  obtain ⟨m, hm⟩ : ∃ m : Nat, (nd T j).jmp = (m : Int) := ⟨(nd T j).jmp.toNat, by have := fj.jmp.1; omega⟩
  have hmj : m ≤ j := by have := fj.jmp.2.1; omega
  obtain ⟨z0, z1, z2, z3⟩ := hR m (by omega)
  have fm := hT.2 m (by omega)
  rw [hj] at x3
  rw [hm] at y3
  have A1 : Anc T j b := by have := f.jmp.2.2.2; rw [hj] at this; simpa using this
  have A2 : Anc T m j := by have := fj.jmp.2.2.2; rw [hm] at this; simpa using this
  have db := f.dep
  have dj := fj.dep
  have dm := fm.dep
  obtain ⟨rb, hrb⟩ : ∃ rb, rb = (nd T b).root := ⟨_, rfl⟩
  have hrn : ((n : Int) == rb) = false := by
    by_cases h0 : b = 0
    · have := (f.rootZ h0).1
      simp; omega
    · have := f.root (by omega)
      simp; omega
  rw [← hrb] at x0
  rw [← hnn] at hn hb ⊢
  obtain ⟨D1, hD1⟩ : ∃ D1, D1 = (nd T b).dep := ⟨_, rfl⟩
  obtain ⟨D2, hD2⟩ : ∃ D2, D2 = (nd T j).dep := ⟨_, rfl⟩
  obtain ⟨D3, hD3⟩ : ∃ D3, D3 = (nd T m).dep := ⟨_, rfl⟩
  rw [← hD1] at x2 db
  rw [← hD2] at y2 dj
  rw [← hD3] at z2 dm
  have HD1 : Hid (D1 = (nd T b).dep) := hD1
  have HA1 : Hid (Anc T j b) := A1
  have HA2 : Hid (Anc T m j) := A2
  have HT : Hid (WF T) := hT
  obtain ⟨p1, _⟩ : ∃ p1, p1 = (nd T b).base := ⟨_, rfl⟩
  generalize (nd T b).base = p1 at x1
  generalize (nd T j).base = p2 at y1
  generalize (nd T j).root = r2 at y0
  clear hI hnn hR f fj fm A1 A2 hT hrb hj hm z0 z1 z3 hD1 hD2 hD3
  obtain ⟨i0, hi, hz0, hz1, hz2⟩ := info_parts Yba.info82
  have HOWN : Hid (w.ownsRow S 82 4 (.slice (some ⟨g, 0, none⟩) n cap) n (cellsOf T)) := by have := HI.out.own; rw [← HN.out] at this; exact this
  have hSw : S ≤ w.heap.size := by omega
  have hwr : IntKind.i32.wrap (D1 + 1) = D1 + 1 := by rw [IntKind.wrap_i32]; omega
  have cC3 : ∀ o1 o2 o3 q, ((((w.alloc o1).alloc o2).drewN q).alloc o3).cell? ⟨C, 11, none⟩ = some (.slice (some ⟨g, 0, none⟩) n cap) := fun o1 o2 o3 q => ((three_blocks w o1 o2 o3 q).cell (p := ⟨C, 11, none⟩) hCl).trans cC
  by_cases ht : D1 - D2 = D2 - D3
  · go_enter Yba.func16, Yba.ntmps16
    go_wp2
    go_region
    go_wp2
    go_quiet (fail)
    go_wp2
    go_region_law (refine step_append_own rfl (.tmp 55) (.tmp 63) 83 rfl S 82 i0 _ 4 16 Yba.underlying83 hi hz0 hz1 hz2 rfl (by decide) (.slice (some ⟨g, 0, none⟩) n cap) n (cellsOf T) (by simp [Act.eval]) (((HOWN.out.alloc _).alloc _).alloc _) ⟨w.heap.size + 2, 0, none⟩ 1 1 [.int .i32 n, .int .i32 b, .int .i32 (D1 + 1), .int .i32 m] (by simp [Act.eval]) rfl (three_cells w _ _ _ [.int .i32 n, .int .i32 b, .int .i32 (D1 + 1), .int .i32 m]) (one4 _ _ _ _) (by unfold maxLen; omega) (by omega) (by rw [three_size]; omega) ?_; intro v' w' hown' hgrow; obtain ⟨g', cap', rfl, _⟩ := own_form hown' (Nat.succ_pos _); obtain ⟨F1, F2, F3, F4⟩ := made_end (x := ⟨n, b, D1 + 1, m⟩) HI.out HN.out ((three_blocks w _ _ _ _).block C hCl) ((three_blocks w _ _ _ _).mono hSw) (by rw [three_size]; omega) hSC (by rw [three_size]; omega) hgrow hown'; have H3 := Hid.mk' F3; have H4 := Hid.mk' F4; clear F3 F4 hgrow hown')
    go_wp2
    all_goals
      go_ret
      refine ⟨⟨T ++ [⟨n, b, D1 + 1, m⟩], g', cap', _, rfl, ?_, by simp, H3.out⟩, H4.out⟩
      have h1 := HN.out
      have h2 := HD1.out
      subst h1 h2
      exact wf_made HT.out hb (by omega) (anc_trans HA2.out HA1.out)
  · have ht' : (D1 - D2 == D2 - D3) = false := by simp; omega
    clear ht
    go_enter Yba.func16, Yba.ntmps16
    go_wp2
    go_region
    go_wp2
    go_quiet (fail)
    go_wp2
    go_region_law (refine step_append_own rfl (.tmp 55) (.tmp 63) 83 rfl S 82 i0 _ 4 16 Yba.underlying83 hi hz0 hz1 hz2 rfl (by decide) (.slice (some ⟨g, 0, none⟩) n cap) n (cellsOf T) (by simp [Act.eval]) (((HOWN.out.alloc _).alloc _).alloc _) ⟨w.heap.size + 2, 0, none⟩ 1 1 [.int .i32 n, .int .i32 b, .int .i32 (D1 + 1), .int .i32 b] (by simp [Act.eval]) rfl (three_cells w _ _ _ [.int .i32 n, .int .i32 b, .int .i32 (D1 + 1), .int .i32 b]) (one4 _ _ _ _) (by unfold maxLen; omega) (by omega) (by rw [three_size]; omega) ?_; intro v' w' hown' hgrow; obtain ⟨g', cap', rfl, _⟩ := own_form hown' (Nat.succ_pos _); obtain ⟨F1, F2, F3, F4⟩ := made_end (x := ⟨n, b, D1 + 1, b⟩) HI.out HN.out ((three_blocks w _ _ _ _).block C hCl) ((three_blocks w _ _ _ _).mono hSw) (by rw [three_size]; omega) hSC (by rw [three_size]; omega) hgrow hown'; have H3 := Hid.mk' F3; have H4 := Hid.mk' F4; clear F3 F4 hgrow hown')
    go_wp2
    all_goals
      go_ret
      refine ⟨⟨T ++ [⟨n, b, D1 + 1, b⟩], g', cap', _, rfl, ?_, by simp, H3.out⟩, H4.out⟩
      have h1 := HN.out
      have h2 := HD1.out
      subst h1 h2
      exact wf_made HT.out hb hb (anc_refl _ _)
end Go.Proofs.Ybulkdmgi
