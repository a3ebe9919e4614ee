import Derived.Test.YbulkdmhyW2
import Derived.Deep.Cut
import Derived.Deep.QuietTactic
import Derived.RegionTactic
import Derived.BigRegion
import Derived.BigQuiet
namespace Go.Proofs.Ybulkdmhy
open Go.RowKit Go.MuLone

theorem info44 : (Yba.prog.info? 44).map (fun i => (i.zero, i.size, i.bytes)) = some (some (.pointer none), 1, 8) := by kernel_rfl

theorem wpList_len_run {P : Program} (w : World) {ops : Array Oper} {rest : List Oper} {o : Oper} {a : Act} {Q : Exit → Act → World → Prop}
    (hg : o.guard = none) (m : Operand) (t : TypeId) (hop : o.op = Op.call { callee := Callee.builtin Builtin.len, args := #[m], argTypes := #[t] }) (mv v : Value) (hm : a.eval m = mv)
    (hrun : (Builtin.len_ #[t] o.type #[mv]).run P w = .ok v w) (hK : wpList P ops Q rest (a.put o.dst v) w) : wpList P ops Q (o :: rest) a w := by
  refine wpList_plain hg fun K' hK' => ?_
  unfold Oper.wp
  simp [execOp, hop, resolve, invoke, builtin, hm, hrun, Result.andThen]
  exact hK' _ _ hK

theorem ne24 (S : Nat) (w : World) : (binOp .neq 24 (.pointer (some ⟨S, 0, none⟩)) (.pointer (some ⟨S, 0, none⟩))).run Yba.prog w = .ok (.bool false) w := by
  have hs : (sameAddr ⟨S, 0, none⟩ ⟨S, 0, none⟩).run Yba.prog w = .ok true w := run_sameAddr_same w _
  obtain ⟨i0, h0, h1⟩ : ∃ i, Yba.prog.info? 42 = some i ∧ i.size = 7 := Option.map_eq_some_iff.1 (by kernel_rfl)
  have h : ∀ d : Nat, (Op.equalIn (d + 1) 24 (.pointer (some ⟨S, 0, none⟩)) (.pointer (some ⟨S, 0, none⟩))).run Yba.prog w = .ok true w := fun d => by simp [Op.equalIn, run_underlying Yba.underlying24, sizeOf, typeInfo, h0, h1, hs]
  simp only [binOp]
  simp [Op.equal, Op.maxDepth, h 9999]
theorem ne26 (w : World) : (binOp .neq 26 (.pointer none) (.pointer none)).run Yba.prog w = .ok (.bool false) w := by kernel_rfl
theorem ne46 (w : World) : (binOp .neq 46 .nilIface .nilIface).run Yba.prog w = .ok (.bool false) w := by kernel_rfl
theorem ne47 (w : World) : (binOp .neq 47 (.pointer none) (.pointer none)).run Yba.prog w = .ok (.bool false) w := by kernel_rfl
theorem ne48 (w : World) : (binOp .neq 48 (.pointer none) (.pointer none)).run Yba.prog w = .ok (.bool false) w := by kernel_rfl
theorem ne9 (w : World) : (binOp .neq 9 (.string ⟨#[]⟩) (.string ⟨#[]⟩)).run Yba.prog w = .ok (.bool false) w := by kernel_rfl
theorem ne4 (b : Bool) (w : World) : (binOp .neq 4 (.bool b) (.bool b)).run Yba.prog w = .ok (.bool false) w := by cases b <;> kernel_rfl

set_option maxRecDepth 8000 in
set_option maxHeartbeats 4000000 in
theorem law_any (a0 : Option Addr) (n cap : Nat) (G : Nat → Int) (pick : Int) (st : Bool) (w : World) (hp0 : 0 ≤ pick) (hn : n ≤ maxLen)
    (hrow : ∀ j, j < n → ∃ x, a0 = some x ∧ w.cell? (x.add j) = some (.int .i64 (G j))) :
    Calls Yba.prog 3 #[.slice a0 n cap, .int .u64 pick, .bool st] w fun e w' => e = .returned (.bool true) ∧ Below w.heap.size w w' := by
  obtain ⟨ti, hi, hz0, hz1, hz2⟩ := info_parts info44
  have HR : Hid (∀ j, j < n → ∃ x, a0 = some x ∧ w.cell? (x.add j) = some (.int .i64 (G j))) := hrow
  unfold maxLen at hn
  clear hrow
  by_cases hbig : 65536 < n
  · go_enter Yba.func3, Yba.ntmps3
    go_wp2
    go_ret
    exact ⟨rfl, Below.refl _ _⟩
  have hmk : (Instr.makeMap 25 none).run Yba.prog w = .ok (.map (some w.heap.size)) (w.alloc (.map #[] 0)) := rfl
  go_enter Yba.func3, Yba.ntmps3
  go_wp2_with (at_make; refine wpList_make_full _ rfl _ _ 43 rfl w.heap.size 44 ti _ 1 Yba.underlying43 hi hz0 hz1 _ _ _ _ (n + 1) rfl rfl (by omega) (by omega) (by rw [hz2]; omega) (by unfold maxLen; omega) (by simp; omega) ?_; intro w1 hown hgrow)
  rw [show ((w.alloc (.map #[] 0)).alloc (.cells #[.pointer none, .int .u64 0, .int .u32 0, .int .i32 0, .int .u32 0, .map (some w.heap.size), .bool st] 42)).heap.size = w.heap.size + 1 + 1 by simp, show n + 1 = (n + 1) * 1 by omega] at hown
  have hown2 : w1.ownsRow w.heap.size 44 1 (.slice (some ⟨w.heap.size + 1 + 1, 0, none⟩) (n + 1) (n + 1)) (n + 1) (List.replicate (n + 1) (.pointer none)) := by
    have e := toList_madeCells_one (.pointer none) (n + 1)
    rw [← e]
    simpa [Value.cells] using hown
  have hst := CInv.start (st := st) hown2 hgrow
  have hlt : w.heap.size + 1 + 1 < w1.heap.size := (hown2.lt (w.heap.size + 1 + 1) rfl).2
  have HI0 : Hid (CInv w (w.heap.size + 1) w.heap.size (w.heap.size + 1 + 1) w1.heap.size n st 0 w1) := hst
  have HLT : Hid (w.heap.size + 1 + 1 < w1.heap.size) := hlt
  clear hown hown2 hgrow hst hlt hmk
  obtain ⟨H, hH⟩ : ∃ H, H = w1.heap.size := ⟨_, rfl⟩
  rw [← hH] at HI0 HLT
  clear hH
  obtain ⟨R, hR⟩ : ∃ R, R = w.heap.size + 1 + 1 := ⟨_, rfl⟩
  rw [← hR] at HI0 HLT ⊢
  obtain ⟨S, hS⟩ : ∃ S, S = w.heap.size + 1 := ⟨_, rfl⟩
  rw [← hS] at HI0 ⊢
  have HRS : Hid (w.heap.size < S ∧ S < R ∧ R < H) := ⟨by omega, by omega, HLT.out⟩
  clear hR hS HLT hi hz0 hz1 hz2
  go_loopw [10] (fun v wr => ∃ i : Nat, i ≤ n + 1 ∧ v = .int .i64 i ∧ CInv w S w.heap.size R H n st i wr) (fun v _ => n + 1 - (intOf v).toNat)
  case atStart => exact ⟨0, Nat.zero_le _, rfl, HI0.out⟩
  case round =>
    obtain ⟨i, hin, rfl, hI⟩ := hrel
    have HI : Hid (CInv w S w.heap.size R H n st i wr) := hI
    have ci : i < n + 1 → wr.cell? ⟨R, i, none⟩ = some (.pointer none) := fun h => by rw [hI.own.cellAt i (by omega), rowL_get, if_pos h, if_neg (Nat.lt_irrefl _)]
    have fi := hI.own.frozenAt i
    have hRl : R < wr.heap.size := (hI.own.lt R rfl).2
    clear hI HI0
    by_cases hlt : i ≤ n
    · have ci2 := ci (by omega)
      clear ci
      go_wp2
      have hrs := HRS.out
      exact ⟨⟨i + 1, by omega, by go_num, HI.out.more (Nat.le_refl _) (by omega) (by omega) (by omega)⟩, by simp [intOf]; omega⟩
    · obtain rfl : i = n + 1 := by omega
      clear ci fi hRl hin
      have HD0 : Hid (DInv w S w.heap.size R H n st G 0 wr) := HI.out.whole G
      clear HI
      go_wp2
      go_loopw [11] (fun v wx => ∃ (i : Nat) (f : Nat → Int), i ≤ n ∧ v = .int .i64 i ∧ (∀ j, j < i → f j = G j) ∧ DInv w S w.heap.size R H n st f i wx) (fun v _ => n - (intOf v).toNat)
      case atStart => exact ⟨0, G, Nat.zero_le _, rfl, fun j hj => absurd hj (Nat.not_lt_zero _), HD0.out⟩
      case round =>
        obtain ⟨i, f, hin, rfl, hfG, hD⟩ := hrel
        have HF : Hid (∀ j, j < i → f j = G j) := hfG
        have HD : Hid (DInv w S w.heap.size R H n st f i wr) := hD
        clear hfG hD HD0
        by_cases hlt2 : i < n
        · obtain ⟨x, rfl, hx⟩ := HR.out i hlt2
          have cx := HD.out.old hx
          have ci := HD.out.cellR i (by omega)
          obtain ⟨_, c5, _, _, _⟩ := HD.out.cells
          obtain ⟨w2, hup, u1, u2⟩ := put_new (G i) HD.out.drew.conns (show i ≤ n by omega) HD.out.drew.fm
          have HD2 : Hid (DInv w S w.heap.size R H n st (upd f i (G i)) (i + 1) w2) := by
            have hrs := HRS.out
            exact HD.out.drew.turn (Nat.le_refl _) (by omega) (by omega) (by omega) u1 u2
          have HFF : Hid (∀ j, j < i + 1 → upd f i (G i) j = G j) := fun j hj => by
            by_cases c : j = i
            · rw [c, upd_same]
            · rw [upd_other _ _ _ _ c]; exact HF.out j (by omega)
          generalize G i = gi at cx hup HD2 HFF
          generalize cp H i = pi at ci hup
          clear u1 u2 hx
          go_wp2
          go_region
          go_wp2
          exact ⟨⟨i + 1, upd f i gi, by omega, by go_num, HFF.out, HD2.out⟩, by simp [intOf]; omega⟩
        · obtain rfl : i = n := by omega
          obtain ⟨k, hk⟩ : ∃ k : Nat, (k : Int) = pick % ((i : Int) + 1) := ⟨(pick % ((i : Int) + 1)).toNat, by have := Int.emod_nonneg pick (show (i : Int) + 1 ≠ 0 by omega); omega⟩
          have hki : k ≤ i := by have := Int.emod_lt_of_pos pick (show 0 < (i : Int) + 1 by omega); omega
          have hk1 : pick % ((i : Int) + 1) = k := hk.symm
          have hk2 : pick.tmod ((i : Int) + 1) = k := by rw [Int.tmod_eq_emod_of_nonneg hp0, hk1]
          have hne : ((i : Int) + 1 == 0) = false := by simp; omega
          have ck := HD.out.cellR k hki
          clear hk hin hlt2
          go_wp2_with fail
          have hrs := HRS.out
          refine (active4 S w.heap.size H i i k f st _ HD.out.fs HD.out.fm HD.out.conns hki hki (by omega) (by omega) (by omega)).mono ?_
          rintro e w3 ⟨rfl, t1, t2, t3⟩
          have HD3 : Hid (DInv w S w.heap.size R H i st (upd f k 1) (max i (k + 1)) w3) := HD.out.turn (Nat.le_refl _) (by omega) (by omega) (by omega) t1 t3
          clear t1 t2 t3 HD ck hk1 hk2 hne hrs
          go_upto_if 73 with fail
          go_cut [13] from 18 (fun v wc => v = .int .i64 ((max i (k + 1) : Nat) : Int) ∧ wc = w3)
          case first =>
            by_cases hki2 : k = i
            · subst hki2
              go_wp2
              go_meet
              case rel => exact ⟨by congr 1; omega, rfl⟩
            · go_wp2
              go_meet
              case rel => exact ⟨by congr 1; omega, rfl⟩
          case rest =>
            obtain ⟨rfl, hwc⟩ := hcut
            rw [hwc]
            clear hwc
            obtain ⟨m, hm⟩ : ∃ m, m = max i (k + 1) := ⟨_, rfl⟩
            rw [← hm] at HD3 ⊢
            have hlen := len_map HD3.out.fm
            obtain ⟨c0, c5, c6, c3, f3⟩ := HD3.out.cells
            go_wp2_with (at_builtin; refine wpList_len_run _ rfl _ 25 rfl _ _ rfl (hlen _) ?_)
            clear hlen
            have HM : Hid (m = max i (k + 1)) := hm
            have HFG : Hid (∀ j, j < i → f j = G j) := HF.out
            have hki3 := hki
            clear hm HF
            go_loopw [14] (fun v wx => ∃ (j q : Nat), j ≤ i + 1 ∧ v = .int .i64 j ∧ wx = w3.drewN q) (fun v _ => i + 1 - (intOf v).toNat)
            case atStart => exact ⟨0, 0, Nat.zero_le _, rfl, rfl⟩
            case round =>
              obtain ⟨j, q, hj, rfl, rfl⟩ := hrel
              by_cases hji : j ≤ i
              · have cj := HD3.out.cellR j hji
                have hD4 := HD3.out.drewN (q + 1)
                by_cases hjk : j = k
                · have hlk := look_in hD4.conns hji (by have := HM.out; omega) hD4.fm (show j < m by have := HM.out; omega)
                  rw [hjk, upd_same] at hlk
                  rw [hjk] at cj
                  subst hjk
                  generalize cp H j = pj at cj hlk
                  clear hD4
                  go_wp2
                  go_region
                  go_wp2
                  exact ⟨⟨j + 1, q + 1, by omega, by go_num, rfl⟩, by simp [intOf]; omega⟩
                · by_cases hjl : j < i
                  · obtain ⟨x, rfl, hx⟩ := HR.out j hjl
                    have cx := HD3.out.old hx
                    have hlk := look_in hD4.conns hji (by have := HM.out; omega) hD4.fm (show j < m by have := HM.out; omega)
                    rw [upd_other _ _ _ _ hjk, HFG.out j hjl] at hlk
                    generalize cp H j = pj at cj hlk
                    generalize G j = gj at cx hlk
                    clear hD4 hx
                    go_wp2
                    go_region
                    go_wp2
                    exact ⟨⟨j + 1, q + 1, by omega, by go_num, rfl⟩, by simp [intOf]; omega⟩
                  · have hlk := look_out hD4.conns hji (by have := HM.out; omega) hD4.fm (show ¬ j < m by have := HM.out; omega)
                    generalize cp H j = pj at cj hlk
                    clear hD4
                    go_wp2
                    go_region
                    go_wp2
                    exact ⟨⟨j + 1, q + 1, by omega, by go_num, rfl⟩, by simp [intOf]; omega⟩
              · have ck : w3.cell? ⟨R, k, none⟩ = some (.pointer (some ⟨H + k, 0, none⟩)) := HD3.out.cellR k hki3
                obtain ⟨d0, d1, d2, d3, d4⟩ := HD3.out.conn k hki3
                have e24 := ne24 S
                have e26 := ne26
                have e46 := ne46
                have e47 := ne47
                have e48 := ne48
                have e9 := ne9
                have e4 := ne4 st
                go_wp2_with fail
                refine (try5 ⟨S, 3, none⟩ _ (by simpa using c3) (by simpa using f3)).mono ?_
                rintro e w5 ⟨rfl, rfl⟩
                go_wp2_with fail
                have c3' : ((w3.drewN q).setCell ⟨S, 3, none⟩ (.int .i32 1)).cell? ⟨S, 3, none⟩ = some (.int .i32 1) := World.cell?_setCell_same (w3.drewN q) ⟨S, 3, none⟩ (.int .i32 1) (show (w3.drewN q).cell? ⟨S, 3, none⟩ = some (.int .i32 0) by simpa using c3)
                refine (unlock_held muLib ⟨S, 3, none⟩ _ c3' (by simpa using f3)).mono ?_
                rintro e w6 ⟨rfl, rfl⟩
                go_wp2
                go_ret
                refine ⟨rfl, ?_⟩
                have hg := (HD3.out.drewN q).g
                have hrs := HRS.out
                exact Below.setCell (Below.setCell (p := ⟨S, 3, none⟩) ⟨hg.os, hg.tape, hg.output, hg.size, fun j hj => hg.block j hj (by simp)⟩ (by show w.heap.size ≤ S; omega) _) (p := ⟨S, 3, none⟩) (by show w.heap.size ≤ S; omega) _
end Go.Proofs.Ybulkdmhy
