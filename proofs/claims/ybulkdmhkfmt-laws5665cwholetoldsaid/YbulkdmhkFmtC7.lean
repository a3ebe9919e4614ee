import Derived.Test.YbulkdmhkFmtC6
namespace Go.Proofs.YbulkdmhkFmt
open Go.RowKit

theorem PInv.start {w w1 : World} {X k : Nat} {s : Int} (hx : w.heap[X]? = some (.cells #[.int .u64 s] 41 (0, 0))) (hX : X < w.heap.size) (hown : w1.ownsRow w.heap.size 32 1 (.slice (some ⟨w.heap.size + 1, 0, none⟩) 0 k) 0 [])
    (hg : (w.alloc (.map #[] 0)).grownBy w1 none) : PInv w X w.heap.size (w.heap.size + 1) w1.heap.size k 0 [] s (w1.alloc (.cells #[.slice (some ⟨w.heap.size + 1, 0, none⟩) 0 k] 33)) ∧ w.heap.size + 1 < w1.heap.size := by
  have hz := hg.size
  have hsa : (w.alloc (.map #[] 0)).heap.size = w.heap.size + 1 := by simp
  have hlt : w.heap.size + 1 < w1.heap.size := (hown.lt (w.heap.size + 1) rfl).2
  have ho : ∀ j, j < w.heap.size → (w1.alloc (.cells #[.slice (some ⟨w.heap.size + 1, 0, none⟩) 0 k] 33)).heap[j]? = w.heap[j]? := fun j hj => by
    rw [(World.grownBy_alloc w1 _ none).block j (by omega) (by simp), hg.block j (by omega) (by simp)]
    exact (World.grownBy_alloc w _ none).block j hj (by simp)
  refine ⟨⟨rfl, (ho X hX).trans hx, ?_, heap_alloc_new _ _, hown.alloc _, ?_⟩, hlt⟩
  rotate_left
  · exact grown_on (grown_on (World.grownBy_alloc w _ _) hg (fun y hy => by cases hy)) (World.grownBy_alloc w1 _ none) (fun y hy => by cases hy)
  rw [(World.grownBy_alloc w1 _ none).block _ (by omega) (by simp), hg.block _ (by omega) (by simp)]
  exact heap_alloc_new _ _

theorem one_cells (w : World) (v : Value) : ∀ j u, [v][j]? = some u → (w.alloc (.cells #[v] 32)).cell? ((⟨w.heap.size, 0, none⟩ : Addr).add j) = some u := by
  intro j u h
  cases j with
  | zero =>
    simp at h
    simp [h, Addr.add]
  | succ j => simp at h

theorem after_append {w4 w5 : World} {o : Obj} {B R : Nat} {v : Value} (hb : w4.heap[B]? = some (.cells #[v] 33 (0, 0))) (hg : (w4.alloc o).grownBy w5 (some R)) (hne : B ≠ R) : w5.cell? ⟨B, 0, none⟩ = some v ∧ w5.frozen? ⟨B, 0, none⟩ = false := by
  have hBl : B < w4.heap.size := (Array.getElem?_eq_some_iff.1 hb).1
  have h5 : w5.heap[B]? = some (.cells #[v] 33 (0, 0)) := by
    rw [hg.block B (by simp; omega) (by simpa using hne), (World.grownBy_alloc w4 o none).block B hBl (by simp)]
    exact hb
  refine ⟨?_, frozen_of_row w5 B 0 _ _ h5⟩
  rw [cell_of_row w5 B 0 _ _ _ h5]; rfl

theorem run_makeMap51 (w : World) (k : Int) : (Instr.makeMap 51 (some (.int .u64 k))).run Ybaf.prog w = .ok (.map (some w.heap.size)) (w.alloc (.map #[] 0)) := by
  simp [Instr.makeMap, run_underlying Ybaf.underlying51, asInt, asIntOf, Result.andThen]

set_option maxRecDepth 8000 in
set_option maxHeartbeats 2000000 in
theorem pick12 (X k : Nat) (n m s : Int) (w : World) (hs : U64 s) (hm0 : 0 ≤ m) (hmk : m + k = n) (hk : k ≤ 4096) (hn' : n < 18446744073709551616) (hx : w.heap[X]? = some (.cells #[.int .u64 s] 41 (0, 0))) :
    Calls Ybaf.prog 12 #[.pointer (some ⟨X, 0, none⟩), .int .u64 n, .int .u64 k] w fun e w' => Picked X m k s w e w' := by
  obtain ⟨ti, hi, hz0, hz1, hz2⟩ := info_parts info32
  have hX : X < w.heap.size := (Array.getElem?_eq_some_iff.1 hx).1
  have HX0 : Hid (w.heap[X]? = some (.cells #[.int .u64 s] 41 (0, 0))) := hx
  have HU : Hid (U64 s) := hs
  have hmk1 := run_makeMap51 w k
  clear hx hs
  go_enter Ybaf.func12, Ybaf.ntmps12
  go_wp2_with (at_make; refine wpList_make_own _ rfl _ _ 33 rfl w.heap.size 32 ti _ 1 Ybaf.underlying33 hi hz0 hz1 _ _ _ k rfl rfl rfl (by rw [hz2]; omega) (by unfold maxLen; omega) (by simp) ?_; intro w1 hown hgrow)
  have hnk : n - k = m := by omega
  rw [hnk]
  rw [show (w.alloc (.map #[] 0)).heap.size = w.heap.size + 1 by simp] at hown
  have hst := PInv.start (k := k) HX0.out hX hown hgrow
  have HO : Hid (w.heap.size + 1 < w1.heap.size) := hst.2
  have HST := hst.1
  obtain ⟨B, hB⟩ : ∃ B, B = w1.heap.size := ⟨_, rfl⟩
  rw [← hB] at HST HO ⊢
  generalize w1.alloc (.cells #[.slice (some ⟨w.heap.size + 1, 0, none⟩) 0 k] 33) = w2 at HST ⊢
  have HI0 : Hid (PInv w X w.heap.size (w.heap.size + 1) B k 0 [] s w2) := HST
  clear hst HST hB hown hgrow hmk1
  go_loopw [9] (fun v wr => ∃ (i : Nat) (L : List Int) (z : Int), i ≤ k ∧ v = .int .u64 (m + i) ∧ Floyd m s i L z ∧ PInv w X w.heap.size (w.heap.size + 1) B k i L z wr) (fun v _ => (n - intOf v).toNat)
  case atStart => exact ⟨0, [], s, Nat.zero_le _, by simp, ⟨rfl, rfl⟩, HI0.out⟩
  case round =>
    obtain ⟨i, L, z, hik, rfl, hF, hI⟩ := hrel
    have HF : Hid (Floyd m s i L z) := hF
    have HI : Hid (PInv w X w.heap.size (w.heap.size + 1) B k i L z wr) := hI
    obtain ⟨hc, hfr⟩ := hI.cellX
    have hz : U64 z := hF.u64 HU.out
    clear hF hI
    by_cases hlt : i < k
    · go_wp2_with fail
      refine (below18 X (m + i + 1) z _ hz (by omega) (by omega) hc hfr).mono ?_
      rintro e w3 ⟨x, z', hd, rfl, hw3⟩
      have HD : Hid (Drawn (m + i + 1) z x z') := hd
      have hI3 := HI.out.drew (s' := z') hX (Nat.le_refl _) (by omega) (by have := HO.out; omega)
      rw [← hw3] at hI3
      have hxb := hd.lt (by omega)
      clear hw3 hd hc hfr
      have hbound := HF.out.bound hm0
      by_cases hx : x ∈ L
      · have hlk := look_in hI3.m hx
        have hfresh : m + i ∉ L := fun c => by have := hbound _ c; omega
        obtain ⟨w4, hup, u1, u3⟩ := put_new (y := m + i) hI3.m hfresh
        obtain ⟨p1, p2, p3⟩ := hI3.put (w2 := w4) hX (Nat.le_refl _) (by omega) HO.out u3
        have cb : w4.cell? ⟨B, 0, none⟩ = some (.slice (some ⟨w.heap.size + 1, 0, none⟩) i k) := by rw [cell_of_row w4 B 0 _ _ _ p2]; rfl
        have HU1 : Hid (w4.heap[w.heap.size]? = some (.map (ents (L ++ [m + i])) (L ++ [m + i]).length)) := u1
        have HU3 : Hid (w3.grownBy w4 (some w.heap.size)) := u3
        have HI3 : Hid (PInv w X w.heap.size (w.heap.size + 1) B k i L z' w3) := hI3
        have HP2 : Hid (w4.heap[B]? = some (.cells #[.slice (some ⟨w.heap.size + 1, 0, none⟩) i k] 33 (0, 0))) := p2
        have HP3 : Hid (w4.ownsRow w.heap.size 32 1 (.slice (some ⟨w.heap.size + 1, 0, none⟩) i k) i (L.map (Value.int .u64))) := p3
        have HXL : Hid (m + i = if x ∈ L then m + i else x) := (if_pos hx).symm
        clear u1 u3 p1 p2 p3 hI3 hbound hz hx
        go_wp2_with (at_builtin; refine wpList_append_fits _ rfl _ _ 33 rfl w.heap.size 32 ti 1 Ybaf.underlying33 hi hz1 (w.heap.size + 1) i k (L.map (Value.int .u64)) rfl (HP3.out.alloc _) ⟨w4.heap.size, 0, none⟩ 1 1 [.int .u64 (m + i)] rfl rfl (one_cells w4 _) (fun u hu => by rw [List.mem_singleton] at hu; rw [hu]; rfl) (by omega) ?_)
        intro w5 hown5 hg5
        obtain ⟨cb5, fb5⟩ := after_append HP2.out hg5 (by have := HO.out; omega)
        have hI6 := HI3.out.more hX (Nat.le_refl _) (by omega) HO.out HU1.out HU3.out _ hown5 hg5
        have HI6 : Hid (PInv w X w.heap.size (w.heap.size + 1) B k (i + 1) (L ++ [m + i]) z' (w5.setCell ⟨B, 0, none⟩ (.slice (some ⟨w.heap.size + 1, 0, none⟩) (i + 1) k))) := hI6
        clear hown5 hg5 hI6 hlk hup cb
        go_wp2
        go_roundw
        case rel =>
          have hF' := HF.out.step HD.out
          rw [← HXL.out] at hF'
          exact ⟨i + 1, _, z', by omega, by simp; omega, hF', HI6.out⟩
        case measure => simp [intOf]; omega
      · have hlk := look_out hI3.m hx
        obtain ⟨w4, hup, u1, u3⟩ := put_new (y := x) hI3.m hx
        obtain ⟨p1, p2, p3⟩ := hI3.put (w2 := w4) hX (Nat.le_refl _) (by omega) HO.out u3
        have cb : w4.cell? ⟨B, 0, none⟩ = some (.slice (some ⟨w.heap.size + 1, 0, none⟩) i k) := by rw [cell_of_row w4 B 0 _ _ _ p2]; rfl
        have HU1 : Hid (w4.heap[w.heap.size]? = some (.map (ents (L ++ [x])) (L ++ [x]).length)) := u1
        have HU3 : Hid (w3.grownBy w4 (some w.heap.size)) := u3
        have HI3 : Hid (PInv w X w.heap.size (w.heap.size + 1) B k i L z' w3) := hI3
        have HP2 : Hid (w4.heap[B]? = some (.cells #[.slice (some ⟨w.heap.size + 1, 0, none⟩) i k] 33 (0, 0))) := p2
        have HP3 : Hid (w4.ownsRow w.heap.size 32 1 (.slice (some ⟨w.heap.size + 1, 0, none⟩) i k) i (L.map (Value.int .u64))) := p3
        have HXL : Hid (x = if x ∈ L then m + i else x) := (if_neg hx).symm
        clear u1 u3 p1 p2 p3 hI3 hbound hz hx
        go_wp2_with (at_builtin; refine wpList_append_fits _ rfl _ _ 33 rfl w.heap.size 32 ti 1 Ybaf.underlying33 hi hz1 (w.heap.size + 1) i k (L.map (Value.int .u64)) rfl (HP3.out.alloc _) ⟨w4.heap.size, 0, none⟩ 1 1 [.int .u64 (x)] rfl rfl (one_cells w4 _) (fun u hu => by rw [List.mem_singleton] at hu; rw [hu]; rfl) (by omega) ?_)
        intro w5 hown5 hg5
        obtain ⟨cb5, fb5⟩ := after_append HP2.out hg5 (by have := HO.out; omega)
        have hI6 := HI3.out.more hX (Nat.le_refl _) (by omega) HO.out HU1.out HU3.out _ hown5 hg5
        have HI6 : Hid (PInv w X w.heap.size (w.heap.size + 1) B k (i + 1) (L ++ [x]) z' (w5.setCell ⟨B, 0, none⟩ (.slice (some ⟨w.heap.size + 1, 0, none⟩) (i + 1) k))) := hI6
        clear hown5 hg5 hI6 hlk hup cb
        go_wp2
        go_roundw
        case rel =>
          have hF' := HF.out.step HD.out
          rw [← HXL.out] at hF'
          exact ⟨i + 1, _, z', by omega, by simp; omega, hF', HI6.out⟩
        case measure => simp [intOf]; omega
    · obtain rfl : i = k := by omega
      have hp := HI.out.cellB
      have hso := sort19 (w.heap.size + 1) B i i L wr HI.out.len (by omega) hp.1 (by have := HO.out; omega) HI.out.cellR (fun t _ => HI.out.r.frozenAt t)
      have cb := hp.1
      clear hp
      go_wp2_with fail
      refine hso.mono ?_
      rintro e w6 ⟨rfl, A, hA, hc6, ho6⟩
      have cb6 : w6.cell? ⟨B, 0, none⟩ = some (.slice (some ⟨w.heap.size + 1, 0, none⟩) i i) := ho6.cell cb (by have := HO.out; simp; omega)
      have HA : Hid (SortOf L A) := hA
      have HC6 : Hid (∀ t, t < A.length → w6.cell? ⟨w.heap.size + 1, t, none⟩ = some (.int .u64 (A.getD t 0))) := hc6
      have HO6 : Hid (wr.grownBy w6 (some (w.heap.size + 1))) := ho6
      clear hA hc6 ho6 hso
      go_wp2
      go_ret
      refine ⟨L, z, A, w.heap.size + 1, HF.out, HA.out, by omega, rfl, fun t ht => HC6.out t (by rw [HA.out.length, HI.out.len]; exact ht), ?_, grown_on HI.out.g HO6.out (fun y hy => Or.inl (by have := Option.some.inj hy; omega))⟩
      exact HO6.out.cell HI.out.cellX.1 (by simp; omega)
end Go.Proofs.YbulkdmhkFmt
