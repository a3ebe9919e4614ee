import Derived.Test.YbulkdmgiW4
import Derived.Deep.Cut
namespace Go.Proofs.Ybulkdmgi
open Go.RowKit

theorem walk_big (a0 : Option Addr) (n cs : Nat) (ua ub up : Int) (w : World) (hn : 65536 < n) :
    Calls Yba.prog 5 #[.slice a0 n cs, .int .u32 ua, .int .u32 ub, .int .u8 up] w fun e w' => e = .returned (.bool true) ∧ Below w.heap.size w w' := by
  have h : (65536 : Int) < n := by omega
  go_enter Yba.func5, Yba.ntmps5
  go_wp2
  go_ret
  exact ⟨rfl, Below.refl _ _⟩

theorem made_at (S C g cap : Nat) (p q : Int) (T : List Node) (w : World) (hT : WF T) (hn : T.length ≤ 65536) (hI : Inv S C T g cap w) (hSC : S ≤ C) (hp : 0 ≤ p ∧ p < (T.length : Int)) (hq : q = (T.length : Int)) :
    Calls Yba.prog 16 #[.pointer (some ⟨C, 0, none⟩), .int .i32 p, .int .i32 q] w fun e w' => Made S C T e w' ∧ Below S w w' := by
  obtain ⟨b, rfl⟩ : ∃ b : Nat, p = (b : Int) := ⟨p.toNat, by omega⟩
  subst hq
  exact made_any S C g cap b T w hT hn hI hSC (by omega)
theorem within_at (C g cap : Nat) (p q : Int) (T : List Node) (w : World) (hT : WF T) (hC : w.cell? ⟨C, 11, none⟩ = some (.slice (some ⟨g, 0, none⟩) T.length cap)) (hR : NRow w g T) (hp : 0 ≤ p ∧ p < (T.length : Int)) (hq : 0 ≤ q ∧ q < (T.length : Int)) :
    Calls Yba.prog 18 #[.pointer (some ⟨C, 0, none⟩), .int .i32 p, .int .i32 q] w fun e w' => Told T p.toNat q.toNat e ∧ w' = w := by
  obtain ⟨a, rfl⟩ : ∃ b : Nat, p = (b : Int) := ⟨p.toNat, by omega⟩
  obtain ⟨b, rfl⟩ : ∃ b : Nat, q = (b : Int) := ⟨q.toNat, by omega⟩
  simpa using within_any C g cap a b T w hT hC hR (by omega) (by omega)

theorem clone_at (g cap m : Nat) (T : List Node) (w : World) (hm : m = T.length) (hn0 : 0 < T.length) (hn : T.length ≤ 65537) (hg : g < w.heap.size) (hR : NRow w g T) :
    Calls Yba.prog 17 #[.slice (some ⟨g, 0, none⟩) m cap] w fun e w' => Cloned T w e w' ∧ Below w.heap.size w w' := by
  subst hm
  exact clone_any g cap T w hn0 hn hg hR
theorem equal_at (g c g' c' m : Nat) (T : List Node) (w : World) (hm : m = T.length) (hn : T.length ≤ 65537) (hR : NRow w g T) (hR' : NRow w g' T) :
    Calls Yba.prog 19 #[.slice (some ⟨g, 0, none⟩) m c, .slice (some ⟨g', 0, none⟩) m c'] w fun e w' => e = .returned (.bool true) ∧ Below w.heap.size w w' := by
  subst hm
  exact equal_any g c g' c' T w hn hR hR'

/-- The chain's next step, as the law's own loop goes. -/
theorem chain_step {T : List Node} (h : WF T) {a b c : Nat} (hc : c < T.length) (hac : a ≠ c) (hI : Anc T a b ↔ Anc T a c) :
    -1 ≤ (nd T c).base ∧ (nd T c).base < (c : Int) ∧ (0 ≤ (nd T c).base → (Anc T a b ↔ Anc T a (nd T c).base.toNat)) ∧ ((nd T c).base < 0 → ¬ Anc T a b) := by
  by_cases h0 : c = 0
  · subst h0
    have e := ((h.2 0 hc).rootZ rfl).2.1
    rw [e]
    refine ⟨by omega, by omega, fun h => absurd h (by omega), fun _ hA => ?_⟩
    rw [hI, anc_root h] at hA
    exact hac hA
  · have e := (par_lt h hc (by omega))
    refine ⟨by omega, by omega, fun _ => ?_, fun h => by omega⟩
    rw [hI, anc_base hac]
    exact Iff.rfl

/-- The start: one node, the struct that holds it. -/
theorem inv_start (w : World) : Inv w.heap.size (w.heap.size + 1) [nd0] w.heap.size 1 ((w.alloc (.cells #[.int .i32 (-1), .int .i32 (-1), .int .i32 0, .int .i32 0] 82)).alloc (.cells (boxC (.slice (some ⟨w.heap.size, 0, none⟩) 1 1)) 90)) := by
  refine ⟨?_, ?_⟩
  · have := heap_alloc_new (w.alloc (.cells #[.int .i32 (-1), .int .i32 (-1), .int .i32 0, .int .i32 0] 82)) (.cells (boxC (.slice (some ⟨w.heap.size, 0, none⟩) 1 1)) 90)
    simpa using this
  · have := World.ownsRow_lit (base := w.heap.size) (e := 82) (size := 4) w #[.int .i32 (-1), .int .i32 (-1), .int .i32 0, .int .i32 0] 1 (Nat.le_refl _) (by decide) rfl
    exact this.alloc _

set_option maxRecDepth 8000 in
set_option maxHeartbeats 2000000 in
theorem walk_some (a0 : Option Addr) (n cs : Nat) (zs : Nat → Int) (ua ub up : Int) (w : World) (hn : n ≤ 65536)
    (h0 : 0 < n → ∃ b o, a0 = some ⟨b, o, none⟩ ∧ b < w.heap.size ∧ ∀ i, i < n → w.cell? ⟨b, o + i, none⟩ = some (.int .u8 (zs i)) ∧ 0 ≤ zs i ∧ zs i ≤ 255)
    (hua : 0 ≤ ua ∧ ua ≤ 4294967295) (hub : 0 ≤ ub ∧ ub ≤ 4294967295) (hup : 0 ≤ up ∧ up ≤ 255) :
    Calls Yba.prog 5 #[.slice a0 n cs, .int .u32 ua, .int .u32 ub, .int .u8 up] w fun e w' => e = .returned (.bool true) ∧ Below w.heap.size w w' := by
  have hnI : (n : Int) ≤ 65536 := by omega
  have H0 : Hid (0 < n → ∃ b o, a0 = some ⟨b, o, none⟩ ∧ b < w.heap.size ∧ ∀ i, i < n → w.cell? ⟨b, o + i, none⟩ = some (.int .u8 (zs i)) ∧ 0 ≤ zs i ∧ zs i ≤ 255) := h0
  clear h0
  go_enter Yba.func5, Yba.ntmps5
  go_wp2
  go_loopw [31] (fun i wr => ∃ (k : Nat) (T : List Node) (g cap : Nat), k ≤ n ∧ i = .int .i64 k ∧ WF T ∧ T.length = k + 1 ∧ Inv w.heap.size (w.heap.size + 1) T g cap wr ∧ Below w.heap.size w wr) (fun i _ => n - (intOf i).toNat)
  case atStart => exact ⟨0, [nd0], w.heap.size, 1, Nat.zero_le _, rfl, wf_start, rfl, inv_start w, ((Below.refl _ _).alloc (Nat.le_refl _) _).alloc (by simp) _⟩
  case round =>
    obtain ⟨k, T, g, cap, hk, rfl, hT, hTl, hI, hB⟩ := hrel
    have HT : Hid (WF T) := hT
    have HTL : Hid (T.length = k + 1) := hTl
    have HI : Hid (Inv w.heap.size (w.heap.size + 1) T g cap wr) := hI
    have HB : Hid (Below w.heap.size w wr) := hB
    have cC : wr.cell? ⟨w.heap.size + 1, 11, none⟩ = some (.slice (some ⟨g, 0, none⟩) (k + 1) cap) := by rw [← hTl]; exact cell_of_row wr (w.heap.size + 1) 11 _ _ _ hI.box
    clear hT hTl hI hB
    by_cases hlt : k < n
    · obtain ⟨b, o, rfl, hb, hc⟩ := H0.out (by omega)
      obtain ⟨c1, c2, c3⟩ := hc k hlt
      rw [← HB.out.cell (p := ⟨b, o + k, none⟩) hb] at c1
      have hm : 0 ≤ zs k % ((k : Int) + 1) ∧ zs k % ((k : Int) + 1) < (k : Int) + 1 := ⟨Int.emod_nonneg _ (by omega), Int.emod_lt_of_pos _ (by omega)⟩
      clear hc
      go_wp2_with fail
      refine (made_at w.heap.size (w.heap.size + 1) g cap _ _ T _ HT.out (by have := HTL.out; omega) HI.out (Nat.le_succ _) (by have := HTL.out; omega) (by have := HTL.out; omega)).mono ?_
      rintro e w2 ⟨⟨T', g', cap', v, rfl, hT', hl', hI'⟩, hB'⟩
      have HT' : Hid (WF T') := hT'
      have HL' : Hid (T'.length = T.length + 1) := hl'
      have HI' : Hid (Inv w.heap.size (w.heap.size + 1) T' g' cap' w2) := hI'
      have HB' : Hid (Below w.heap.size wr w2) := hB'
      clear hT' hl' hI' hB'
      go_wp2
      go_roundw
      case rel => exact ⟨k + 1, T', g', cap', by omega, by go_num, HT'.out, by have := HL'.out; have := HTL.out; omega, HI'.out, HB.out.trans HB'.out⟩
      case measure => simp [intOf]; omega
    · have hkn : k = n := by omega
      subst hkn
      have hmb : 0 ≤ ub % ((k : Int) + 1) ∧ ub % ((k : Int) + 1) < (k : Int) + 1 := ⟨Int.emod_nonneg _ (by omega), Int.emod_lt_of_pos _ (by omega)⟩
      have hma : 0 ≤ ua % ((k : Int) + 1) ∧ ua % ((k : Int) + 1) < (k : Int) + 1 := ⟨Int.emod_nonneg _ (by omega), Int.emod_lt_of_pos _ (by omega)⟩
      clear hlt hk
      go_upto_if 66 with fail
      have hR := nrow_of_owns HI.out.own
      have hgl := (HI.out.own.lt g rfl).2
      have HR : Hid (NRow wr g T) := hR
      clear hR
      go_cut [16, 17] from 22 (fun s16 _ wc => ∃ a : Int, s16 = .int .i32 a ∧ 0 ≤ a ∧ a < (k : Int) + 1 ∧ wc = wr)
      case first =>
        generalize (up % 2 == 0) = t
        cases t with
        | true =>
          go_wp2
          go_loop [16, 17] (fun s16 s17 => ∃ a m : Int, s16 = .int .i32 a ∧ 0 ≤ a ∧ a < (k : Int) + 1 ∧ s17 = .int .i64 m ∧ 0 ≤ m ∧ m ≤ 127) (fun _ s17 => (intOf s17).toNat)
          case atStart => exact ⟨_, up / 2, rfl, hmb.1, hmb.2, rfl, by omega, by omega⟩
          case round =>
            obtain ⟨a, m, rfl, ha0, ha1, rfl, hm0, hm1⟩ := hrel
            obtain ⟨x, rfl⟩ : ∃ x : Nat, a = (x : Int) := ⟨a.toNat, by omega⟩
            obtain ⟨_, x1, _, _⟩ := HR.out x (by have := HTL.out; omega)
            have hb0 := chain_step (a := x + 1) (b := x) HT.out (c := x) (by have := HTL.out; omega) (by omega) Iff.rfl
            obtain ⟨p, hp⟩ : ∃ p, p = (nd T x).base := ⟨_, rfl⟩
            rw [← hp] at x1 hb0
            have hb1 := hb0.2.1
            clear hp hb0
            by_cases hmz : 0 < m
            · by_cases hp0 : 0 ≤ p
              · go_wp2
                go_round
                case rel => exact ⟨p, m - 1, rfl, hp0, by omega, rfl, by omega, by omega⟩
                case measure => simp [intOf]; omega
              · go_wp2
                go_meet
                case rel => exact ⟨x, rfl, by omega, by omega, rfl⟩
            · go_wp2
              go_meet
              case rel => exact ⟨x, rfl, by omega, by omega, rfl⟩
        | false =>
          go_wp2
          go_meet
          case rel => exact ⟨_, rfl, hma.1, hma.2, rfl⟩
      case rest =>
        obtain ⟨a, rfl, ha0, ha1, hwc⟩ := hcut
        subst hwc
        obtain ⟨bb, hbb⟩ : ∃ bb, bb = ub % ((k : Int) + 1) := ⟨_, rfl⟩
        rw [← hbb] at hmb
        have HBB : Hid (bb = ub % ((k : Int) + 1)) := hbb
        clear hbb
        go_wp2_with fail
        rw [← HBB.out]
        refine (clone_at g cap _ T _ (by have := HTL.out; omega) (by have := HTL.out; omega) (by have := HTL.out; omega) hgl HR.out).mono ?_
        rintro e w2 ⟨⟨g2, cap2, rfl, hg2, hg2', hR2⟩, hB2⟩
        have hRg : NRow w2 g T := nrow_below HR.out hB2 hgl
        have cC2 : w2.cell? ⟨w.heap.size + 1, 11, none⟩ = some (.slice (some ⟨g, 0, none⟩) (k + 1) cap) := (hB2.cell (p := ⟨w.heap.size + 1, 11, none⟩) (World.block_lt_of_cell? _ _ cC)).trans cC
        have HB2 : Hid (Below w.heap.size w w2) := HB.out.trans (hB2.mono HB.out.size)
        have HR2 : Hid (NRow w2 g2 T) := hR2
        have HRg : Hid (NRow w2 g T) := hRg
        have hTk := HTL.out
        rw [hTk]
        have HTK : Hid (T.length = k + 1) := hTk
        clear hB2 hR2 hRg hTk cC hg2 hg2' hgl
        go_wp2_with fail
        refine (within_at (w.heap.size + 1) g cap _ _ T _ HT.out (by rw [HTK.out]; exact cC2) HRg.out (by have := HTK.out; omega) (by have := HTK.out; omega)).mono ?_
        rintro e w3 ⟨⟨r, rfl, hr⟩, rfl⟩
        have HRR : Hid (r = true ↔ Anc T a.toNat bb.toNat) := hr
        clear hr
        go_wp2
        go_loop [20, 21] (fun s20 s21 => ∃ c : Int, s21 = .int .i32 c ∧ s20 = .bool false ∧ -1 ≤ c ∧ c < (k : Int) + 1 ∧ Hid (0 ≤ c → (Anc T a.toNat bb.toNat ↔ Anc T a.toNat c.toNat)) ∧ Hid (c < 0 → ¬ Anc T a.toNat bb.toNat)) (fun _ s21 => (intOf s21 + 1).toNat)
        case atStart => exact ⟨bb, rfl, rfl, by omega, hmb.2, fun _ => Iff.rfl, fun h => by omega⟩
        case round =>
          obtain ⟨c, rfl, rfl, hc0, hc1, hi, hni⟩ := hrel
          by_cases hcz : 0 ≤ c
          · by_cases hca : c = a
            · subst hca
              have hrt : r = true := by rw [HRR.out, hi.out hcz]; exact anc_refl _ _
              subst hrt
              go_wp2_with fail
              refine (equal_at g2 cap2 g cap _ T _ (by have := HTK.out; omega) (by have := HTK.out; omega) HR2.out HRg.out).mono ?_
              rintro e w4 ⟨rfl, hB4⟩
              have HB4 : Hid (Below w.heap.size w w4) := HB2.out.trans (hB4.mono HB2.out.size)
              clear hB4
              go_wp2
              go_ret
              exact ⟨rfl, HB4.out⟩
            · obtain ⟨x, rfl⟩ : ∃ x : Nat, c = (x : Int) := ⟨c.toNat, by omega⟩
              have st := chain_step HT.out (c := x) (a := a.toNat) (b := bb.toNat) (by have := HTK.out; omega) (by omega) (by have := hi.out hcz; simpa using this)
              obtain ⟨_, x1, _, _⟩ := HR2.out x (by have := HTK.out; omega)
              obtain ⟨p, hp⟩ : ∃ p, p = (nd T x).base := ⟨_, rfl⟩
              rw [← hp] at x1 st
              obtain ⟨s0, s1, s2, s3⟩ := st
              have S2 : Hid (0 ≤ p → (Anc T a.toNat bb.toNat ↔ Anc T a.toNat p.toNat)) := s2
              have S3 : Hid (p < 0 → ¬ Anc T a.toNat bb.toNat) := s3
              have hne : ((x : Int) == a) = false := by simp; exact hca
              clear hp hi hni hca s2 s3
              go_wp2
              go_round
              case rel => exact ⟨p, rfl, rfl, s0, by omega, S2, S3⟩
              case measure => simp [intOf]; omega
          · have hrf : r = false := by
              cases r with
              | false => rfl
              | true => exact absurd (HRR.out.1 rfl) (hni.out (by omega))
            subst hrf
            have hcz' : c < 0 := by omega
            clear hi hni hcz
            go_wp2_with fail
            refine (equal_at g2 cap2 g cap _ T _ (by have := HTK.out; omega) (by have := HTK.out; omega) HR2.out HRg.out).mono ?_
            rintro e w4 ⟨rfl, hB4⟩
            have HB4 : Hid (Below w.heap.size w w4) := HB2.out.trans (hB4.mono HB2.out.size)
            clear hB4
            go_wp2
            go_ret
            exact ⟨rfl, HB4.out⟩
end Go.Proofs.Ybulkdmgi
