import Derived.Test.YbulkdmhkFmtC8
namespace Go.Proofs.YbulkdmhkFmt
open Go.RowKit

theorem wrap_u64 (x : Int) : U64 (IntKind.u64.wrap x) := by
  unfold U64
  rw [IntKind.wrap_u64]
  omega

theorem eqSlice (a : Addr) (n c : Nat) (w : World) : (binOp .eql 33 (.slice (some a) n c) (.slice none 0 0)).run Ybaf.prog w = .ok (.bool false) w := by kernel_rfl
theorem getD_mem {A : List Int} {t : Nat} (h : t < A.length) : A.getD t 0 ∈ A := by
  have e : A.getD t 0 = A[t] := by simp [List.getD, h]
  rw [e]
  exact List.getElem_mem h
theorem below_drewN {B : Nat} {a w : World} (h : Below B a w) (n : Nat) : Below B a (w.drewN n) := h.trans ⟨rfl, rfl, rfl, Nat.le_refl _, fun _ _ => rfl⟩

set_option maxRecDepth 8000 in
set_option maxHeartbeats 4000000 in
theorem lawC_any (seed n kk : Int) (w : World) (hn0 : 0 ≤ n) (hn1 : n < 18446744073709551616) (hk0 : 0 ≤ kk) (hk1 : kk < 18446744073709551616) :
    Calls Ybaf.prog 5 #[.int .i64 seed, .int .u64 n, .int .u64 kk] w fun e w' => e = .returned (.bool true) ∧ Below w.heap.size w w' := by
  obtain ⟨ti, hi, hz0, hz1, hz2⟩ := info_parts info32
  by_cases hbig : 4096 < kk
  · go_enter Ybaf.func5, Ybaf.ntmps5
    go_wp2
    go_ret
    exact ⟨rfl, Below.refl _ _⟩
  go_enter Ybaf.func5, Ybaf.ntmps5
  go_upto_if 22 with fail
  go_cut [2] from 18 (fun v wc => ∃ k : Nat, v = .int .u64 k ∧ (k : Int) ≤ n ∧ k ≤ 4096 ∧ wc = w)
  case first =>
    by_cases h : n < kk
    · go_wp2
      go_meet
      case rel => exact ⟨n.toNat, by congr 1; omega, by omega, by omega, rfl⟩
    · go_wp2
      go_meet
      case rel => exact ⟨kk.toNat, by congr 1; omega, by omega, by omega, rfl⟩
  case rest =>
    obtain ⟨k, rfl, hkn, hk, rfl⟩ := hcut
    clear hk0 hk1 hbig
    go_wp2_with (at_make; refine wpList_make_own _ rfl _ _ 33 rfl wc.heap.size 32 ti _ 1 Ybaf.underlying33 hi hz0 hz1 _ _ _ k rfl rfl rfl (by rw [hz2]; omega) (by unfold maxLen; omega) (by simp) ?_; intro w1 hown hgrow)
    rw [show (wc.alloc (.cells #[.int .u64 (IntKind.u64.wrap seed)] 32)).heap.size = wc.heap.size + 1 by simp] at hown
    have HI0 : Hid (LInv wc k 0 [] (IntKind.u64.wrap seed) w1) := LInv.start hown hgrow
    obtain ⟨s0, hs0⟩ : ∃ s0, s0 = IntKind.u64.wrap seed := ⟨_, rfl⟩
    have HU : Hid (U64 s0) := by rw [hs0]; exact wrap_u64 seed
    rw [← hs0] at HI0
    have HS0 : Hid (IntKind.u64.wrap seed = s0) := hs0.symm
    clear hs0 hown hgrow
    go_loopw [8, 9] (fun v8 v9 wr => ∃ (i : Nat) (L : List Int) (z : Int), i ≤ k ∧ v8 = .slice (some ⟨wc.heap.size + 1, 0, none⟩) i k ∧ v9 = .int .u64 i ∧ Floyd (n - k) s0 i L z ∧ LInv wc k i L z wr) (fun _ v9 _ => k - (intOf v9).toNat)
    case atStart => exact ⟨0, [], s0, Nat.zero_le _, rfl, rfl, ⟨rfl, rfl⟩, HI0.out⟩
    case round =>
      obtain ⟨i, L, z, hik, rfl, rfl, hF, hI⟩ := hrel
      have HF : Hid (Floyd (n - k) s0 i L z) := hF
      have HI : Hid (LInv wc k i L z wr) := hI
      obtain ⟨hc, hfr⟩ := hI.cellS
      have hz : U64 z := hF.u64 HU.out
      clear hF hI
      by_cases hlt : i < k
      · go_wp2_with fail
        refine (below9 wc.heap.size (n - k + i + 1) z _ hz (by omega) (by omega) hc hfr).mono ?_
        rintro e w3 ⟨x, z', hd, rfl, hw3⟩
        have HD : Hid (Drawn (n - k + i + 1) z x z') := hd
        have hI3 := HI.out.drew (s' := z')
        rw [← hw3] at hI3
        have HI3 : Hid (LInv wc k i L z' w3) := hI3
        have hxb := hd.lt (by omega)
        clear hw3 hd hc hfr hz hI3
        go_wp2_with fail
        refine (has10 (wc.heap.size + 1) i k L x w3 HI3.out.len (by omega) HI3.out.cellR).mono ?_
        rintro e w4 ⟨rfl, rfl⟩
        by_cases hx : x ∈ L
        · have HXL : Hid (n - k + i = if x ∈ L then n - k + i else x) := (if_pos hx).symm
          rw [decide_eq_true hx]
          clear hx
          go_wp2_with (at_builtin; refine wpList_append_fits _ rfl _ _ 33 rfl wc.heap.size 32 ti 1 Ybaf.underlying33 hi hz1 (wc.heap.size + 1) i k (L.map (Value.int .u64)) rfl (HI3.out.r.alloc _) ⟨w4.heap.size, 0, none⟩ 1 1 [.int .u64 (n - k + i)] rfl rfl (one_cells w4 _) (fun u hu => by rw [List.mem_singleton] at hu; rw [hu]; rfl) (by omega) ?_)
          intro w5 hown5 hg5
          have HI6 : Hid (LInv wc k (i + 1) (L ++ [n - k + i]) z' w5) := HI3.out.more _ hown5 hg5
          clear hown5 hg5
          go_wp2
          go_roundw
          case rel =>
            have hF' := HF.out.step HD.out
            rw [← HXL.out] at hF'
            exact ⟨i + 1, _, z', by omega, rfl, by go_num, hF', HI6.out⟩
          case measure => simp [intOf]; omega
        · have HXL : Hid (x = if x ∈ L then n - k + i else x) := (if_neg hx).symm
          rw [decide_eq_false hx]
          clear hx
          go_wp2_with (at_builtin; refine wpList_append_fits _ rfl _ _ 33 rfl wc.heap.size 32 ti 1 Ybaf.underlying33 hi hz1 (wc.heap.size + 1) i k (L.map (Value.int .u64)) rfl (HI3.out.r.alloc _) ⟨w4.heap.size, 0, none⟩ 1 1 [.int .u64 x] rfl rfl (one_cells w4 _) (fun u hu => by rw [List.mem_singleton] at hu; rw [hu]; rfl) (by omega) ?_)
          intro w5 hown5 hg5
          have HI6 : Hid (LInv wc k (i + 1) (L ++ [x]) z' w5) := HI3.out.more _ hown5 hg5
          clear hown5 hg5
          go_wp2
          go_roundw
          case rel =>
            have hF' := HF.out.step HD.out
            rw [← HXL.out] at hF'
            exact ⟨i + 1, _, z', by omega, rfl, by go_num, hF', HI6.out⟩
          case measure => simp [intOf]; omega
      · obtain rfl : i = k := by omega
        clear hc hfr hz HI0 hlt hik
        go_wp2
        have HIS : Hid (LInv wc i i L z wr) := HI.out
        clear HI
        go_loopw [12] (fun v12 wx => ∃ (p : Nat) (W : List Int), 1 ≤ p ∧ p ≤ i + 1 ∧ v12 = .int .i64 p ∧ Upto L p W ∧ LInv wc i i W z wx) (fun v12 _ => i + 1 - (intOf v12).toNat)
        case atStart => exact ⟨1, L, Nat.le_refl _, by omega, rfl, Upto.start L, HIS.out⟩
        case round =>
          obtain ⟨p, W, hp1, hpi, rfl, hU, hI⟩ := hrel
          have HUp : Hid (Upto L p W) := hU
          have HIW : Hid (LInv wc i i W z wr) := hI
          clear hU hI
          by_cases hlt : p < i
          · obtain ⟨v, hv⟩ : ∃ v, v = W.getD p 0 := ⟨_, rfl⟩
            have cv := HIW.out.cellR p hlt
            rw [← hv] at cv
            have HV : Hid (v = W.getD p 0) := hv
            clear hv
            obtain ⟨P, hP⟩ : ∃ P, P = W.take p := ⟨_, rfl⟩
            obtain ⟨R, hR⟩ : ∃ R, R = W.drop (p + 1) := ⟨_, rfl⟩
            have hWl : W.length = i := HIW.out.len
            have hPl : P.length = p := by rw [hP]; simp; omega
            have HG : Hid (gap P p v R = W) := by rw [HV.out, hP, hR]; exact Upto.parted (by omega)
            have HPE : Hid (P = W.take p) := hP
            have HRE : Hid (R = W.drop (p + 1)) := hR
            clear hP hR
            have HST : Hid (LInv wc i i (gap P p v R) z wr) := by rw [HG.out]; exact HIW.out
            clear HIW
            go_wp2
            go_loopw [14] (fun v14 wy => ∃ (m : Nat) (c : Int), m ≤ p ∧ v14 = .int .i64 m ∧ Above P m v ∧ LInv wc i i (gap P m c R) z wy) (fun v14 _ => (intOf v14).toNat)
            case atStart => exact ⟨p, v, Nat.le_refl _, rfl, Above.top P v p (by omega), HST.out⟩
            case round =>
              obtain ⟨m, c, hmp, rfl, hAb, hI⟩ := hrel
              have HAb : Hid (Above P m v) := hAb
              have HI : Hid (LInv wc i i (gap P m c R) z wr) := hI
              have hfz := fun t => HI.out.r.frozenAt t
              clear hAb hI HST cv
              cases m with
              | zero =>
                have cm := HI.out.cellR 0 (by omega)
                have fm := hfz 0
                clear hfz
                go_wp2
                refine ⟨⟨p + 1, gap P 0 v R, by omega, by omega, by go_num, ?_, ?_⟩, by simp [intOf]; omega⟩
                · have := HUp.out.more (m := 0) (by omega) (Nat.zero_le _) (by rw [← HPE.out, ← HV.out]; exact HAb.out) (Or.inl rfl)
                  rw [← HPE.out, ← HV.out, ← HRE.out] at this
                  exact this
                · have := HI.out.set (y := v) 0
                  rw [gap_set P R 0 c v (Nat.zero_le _)] at this
                  exact this
              | succ m =>
                obtain ⟨y, hy⟩ : ∃ y, y = P.getD m 0 := ⟨_, rfl⟩
                have cm := HI.out.cellR m (by omega)
                rw [gap_left P R m c (by omega), ← hy] at cm
                have cm1 := HI.out.cellR (m + 1) (by omega)
                have fm := hfz (m + 1)
                have HY : Hid (y = P.getD m 0) := hy
                clear hfz hy
                by_cases hvy : v < y
                · go_wp2
                  refine ⟨⟨m, y, by omega, rfl, HAb.out.down (by omega) (by rw [← HY.out]; exact hvy), ?_⟩, by simp [intOf]⟩
                  have := HI.out.set (y := y) (m + 1)
                  rw [gap_set P R (m + 1) c y (by omega), HY.out, gap_down P R m (by omega), ← HY.out] at this
                  exact this
                · go_wp2
                  refine ⟨⟨p + 1, gap P (m + 1) v R, by omega, by omega, by go_num, ?_, ?_⟩, by simp [intOf]; omega⟩
                  · have := HUp.out.more (m := m + 1) (by omega) hmp (by rw [← HPE.out, ← HV.out]; exact HAb.out) (Or.inr (by rw [← HPE.out, ← HV.out, Nat.add_sub_cancel, ← HY.out]; omega))
                    rw [← HPE.out, ← HV.out, ← HRE.out] at this
                    exact this
                  · have := HI.out.set (y := v) (m + 1)
                    rw [gap_set P R (m + 1) c v (by omega)] at this
                    exact this
          · have HSO : Hid (SortOf L W) := HUp.out.whole (by have := HIW.out.len; omega)
            clear HUp hp1
            go_wp2_with fail
            refine (new11 seed _).mono ?_
            rw [HS0.out]
            rintro e w7 ⟨rfl, rfl⟩
            go_wp2_with fail
            have hX : (wr.alloc (.cells #[.int .u64 s0] 41)).heap[wr.heap.size]? = some (.cells #[.int .u64 s0] 41 (0, 0)) := heap_alloc_new _ _
            refine (pick12 wr.heap.size i n (n - i) s0 _ HU.out (by omega) (by omega) hk hn1 hX).mono ?_
            rintro e w8 ⟨L2, z2, A, R2, hF2, hA2, hR2, rfl, hc2, hx2, hg2⟩
            obtain ⟨rfl, rfl⟩ := hF2.unique HF.out
            obtain rfl := hA2.unique HSO.out
            have hgw : wr.grownBy w8 none := by
              have h0 := grown_on (World.grownBy_alloc wr (.cells #[.int .u64 s0] 41) (some wr.heap.size)) hg2 (fun y hy => Or.inr hy)
              exact ⟨h0.os, h0.tape, h0.output, h0.size, fun j hj _ => h0.block j hj (by simp; omega)⟩
            have HB : Hid (Below wc.heap.size wc w8) := by
              have h0 := grown_on HIW.out.g hgw (fun y hy => by cases hy)
              exact ⟨h0.os, h0.tape, h0.output, h0.size, fun j hj => h0.block j hj (by simp)⟩
            have HWC : Hid (∀ t, t < i → w8.cell? ⟨wc.heap.size + 1, t, none⟩ = some (.int .u64 (A.getD t 0))) := fun t ht => hgw.cell (HIW.out.cellR t ht) (by simp)
            have HGC : Hid (∀ t, t < i → w8.cell? ⟨R2, t, none⟩ = some (.int .u64 (A.getD t 0))) := hc2
            have cst : w8.cell? ⟨wc.heap.size, 0, none⟩ = some (.int .u64 z2) := hgw.cell HIW.out.cellS.1 (by simp)
            have HAL : Hid (A.length = i) := HIW.out.len
            clear hgw hg2 hc2 hR2 hA2 hF2 hX HIW HIS
            have qs := eqSlice ⟨R2, 0, none⟩ i i
            have HBD : Hid (∀ t, t < i → 0 ≤ A.getD t 0 ∧ A.getD t 0 < n) := fun t ht => by
              have := HF.out.bound (by omega) _ (HSO.out.mem (getD_mem (A := A) (t := t) (by have := HAL.out; omega)))
              omega
            have HLT : Hid (∀ t, t + 1 < i → A.getD t 0 < A.getD (t + 1) 0) := fun t ht => HSO.out.lt (HF.out.nodup (by omega)) t (by have := HAL.out; omega)
            clear HF HSO
            go_wp2
            clear qs
            go_loopw [17] (fun v wx => ∃ (t : Nat) (q : Nat), t ≤ i ∧ v = .int .i64 t ∧ wx = w8.drewN q) (fun v _ => i - (intOf v).toNat)
            case atStart => exact ⟨0, 0, Nat.zero_le _, rfl, rfl⟩
            case round =>
              obtain ⟨t, q, hti, rfl, rfl⟩ := hrel
              by_cases hlt2 : t < i
              · have c1 := HWC.out t hlt2
                have c2 := HGC.out t hlt2
                have b2 := HBD.out t hlt2
                cases t with
                | zero =>
                  generalize A.getD 0 0 = y at c1 c2 b2
                  go_wp2
                  go_quiet (fail)
                  go_wp2
                  go_quiet (fail)
                  go_wp2
                  exact ⟨⟨1, _, by omega, rfl, rfl⟩, by simp [intOf]; omega⟩
                | succ t =>
                  have l2 := HLT.out t hlt2
                  have c3 := HGC.out t (by omega)
                  generalize A.getD (t + 1) 0 = y at c1 c2 b2 l2
                  generalize A.getD t 0 = x at c3 l2
                  go_wp2
                  go_quiet (fail)
                  go_wp2
                  go_quiet (fail)
                  go_wp2
                  exact ⟨⟨t + 1 + 1, _, by omega, by go_num, rfl⟩, by simp [intOf]; omega⟩
              · go_wp2
                go_quiet (fail)
                go_wp2
                go_ret
                exact ⟨rfl, below_drewN (below_drewN HB.out _) _⟩
end Go.Proofs.YbulkdmhkFmt
