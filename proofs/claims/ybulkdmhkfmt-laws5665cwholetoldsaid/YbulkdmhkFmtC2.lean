import Derived.Test.YbulkdmhkFmtC1
namespace Go.Proofs.YbulkdmhkFmt
open Go.RowKit

theorem setCell_twice (w : World) (a : Addr) (u v : Value) : (w.setCell a u).setCell a v = w.setCell a v := by
  unfold World.setCell
  congr 1
  apply Array.ext_getElem?
  intro i
  simp only [Array.getElem?_modify]
  by_cases h : a.block = i
  · simp only [h, if_true, Option.map_map]
    congr 1
    funext o
    cases o <;> simp [Function.comp]
    by_cases hs : a.spot.isSome = true <;> simp_all
  · simp [h]

/-- What a draw below n leaves: the number handed back, the state behind it in its cell. -/
def Drew (X : Nat) (n s : Int) (w : World) (e : Ending) (w' : World) : Prop :=
  ∃ hi s', Drawn n s hi s' ∧ e = .returned (.int .u64 hi) ∧ w' = w.setCell ⟨X, 0, none⟩ (.int .u64 s')

set_option maxRecDepth 8000 in
set_option maxHeartbeats 1600000 in
theorem below18 (X : Nat) (n s : Int) (w : World) (hs : U64 s) (hn : 1 ≤ n) (hn' : n < 18446744073709551616) (hc : w.cell? ⟨X, 0, none⟩ = some (.int .u64 s)) (hf : w.frozen? ⟨X, 0, none⟩ = false) :
    Calls Ybaf.prog 18 #[.pointer (some ⟨X, 0, none⟩), .int .u64 n] w fun e w' => Drew X n s w e w' := by
  obtain ⟨T, hT⟩ := ends n s hs hn hn'
  have HT : Hid (bias n ≤ loOf n (it (T + 1) s)) := Int.not_lt.1 hT
  have HS : Hid (U64 s) := hs
  have hbl : (IntKind.u64.wrap (-n)).tmod n = bias n := by
    rw [Int.tmod_eq_emod_of_nonneg (by rw [IntKind.wrap_u64]; omega)]
    exact bias_lib n hn hn'
  have hb := bias_lt hn
  have n0 : (n == 0) = false := by simp; omega
  obtain ⟨z, hz⟩ : ∃ z, z = stepI s := ⟨_, rfl⟩
  have HZ : Hid (z = stepI s) := hz
  clear hT hs hz
  go_enter Ybaf.func18, Ybaf.ntmps18
  go_wp2_with fail
  refine (next23 X s _ hc hf).mono ?_
  rw [← HZ.out]
  rintro e w1 ⟨rfl, rfl⟩
  go_wp2_with fail
  refine (mul64_any z n (by omega) hn' _).mono ?_
  rintro e w2 ⟨rfl, rfl⟩
  by_cases hlo : loOf n z < n
  · go_wp2
    clear hbl
    go_loopg [5, 6] T (fun gk v5 v6 wr => ∃ (t : Nat) (z : Int), t + gk = T ∧ z = it (t + 1) s ∧ v5 = .int .u64 (hiOf n z) ∧ v6 = .int .u64 (loOf n z) ∧ wr = w.setCell ⟨X, 0, none⟩ (.int .u64 z) ∧ ∀ i, i < t → loOf n (it (i + 1) s) < bias n)
    case atStart => exact ⟨0, z, by omega, HZ.out, rfl, rfl, rfl, fun i hi => absurd hi (Nat.not_lt_zero _)⟩
    case round =>
      obtain ⟨t, y, ht, hy, rfl, rfl, rfl, hrej⟩ := hrel
      have HY : Hid (y = it (t + 1) s) := hy
      have HR : Hid (∀ i, i < t → loOf n (it (i + 1) s) < bias n) := hrej
      have HTT : Hid (t + gk = T) := ht
      clear hy hrej ht
      have c1 : (w.setCell ⟨X, 0, none⟩ (.int .u64 y)).cell? ⟨X, 0, none⟩ = some (.int .u64 y) := World.cell?_setCell_same _ _ _ hc
      have f1 : (w.setCell ⟨X, 0, none⟩ (.int .u64 y)).frozen? ⟨X, 0, none⟩ = false := by simp [hf]
      by_cases hl : loOf n y < bias n
      · obtain ⟨x, hx⟩ : ∃ x, x = stepI y := ⟨_, rfl⟩
        have HX : Hid (x = stepI y) := hx
        clear hx
        go_wp2_with fail
        refine (next23 X y _ c1 f1).mono ?_
        rw [← HX.out, setCell_twice]
        rintro e w1 ⟨rfl, rfl⟩
        go_wp2_with fail
        refine (mul64_any x n (by omega) hn' _).mono ?_
        rintro e w2 ⟨rfl, rfl⟩
        go_wp2
        have hgk : 0 < gk := by
          rcases Nat.eq_zero_or_pos gk with h0 | h0
          · exfalso
            have e := HTT.out
            rw [h0] at e
            have h1 := HT.out
            rw [← e, Nat.add_zero, ← HY.out] at h1
            omega
          · exact h0
        go_roundg (gk - 1)
        case measure => omega
        case rel =>
          have e := HTT.out
          refine ⟨t + 1, x, by omega, by rw [HX.out, HY.out]; rfl, rfl, rfl, rfl, fun i hi => ?_⟩
          by_cases hit : i = t
          · subst hit; rw [← HY.out]; exact hl
          · exact HR.out i (by omega)
      · go_wp2
        go_ret
        exact ⟨_, y, ⟨t, HR.out, by rw [← HY.out]; omega, HY.out, rfl⟩, rfl, rfl⟩
  · go_wp2
    go_ret
    refine ⟨_, z, ⟨0, fun i hi => absurd hi (Nat.not_lt_zero _), ?_, HZ.out, rfl⟩, rfl, rfl⟩
    show ¬ loOf n (stepI s) < bias n
    rw [← HZ.out]
    omega
set_option maxRecDepth 8000 in
set_option maxHeartbeats 1600000 in
theorem below9 (X : Nat) (n s : Int) (w : World) (hs : U64 s) (hn : 1 ≤ n) (hn' : n < 18446744073709551616) (hc : w.cell? ⟨X, 0, none⟩ = some (.int .u64 s)) (hf : w.frozen? ⟨X, 0, none⟩ = false) :
    Calls Ybaf.prog 9 #[.pointer (some ⟨X, 0, none⟩), .int .u64 n] w fun e w' => Drew X n s w e w' := by
  obtain ⟨T, hT⟩ := ends n s hs hn hn'
  have HT : Hid (bias n ≤ loOf n (it (T + 1) s)) := Int.not_lt.1 hT
  have HS : Hid (U64 s) := hs
  obtain ⟨r, hr⟩ : ∃ r, r = 18446744073709551615 % n := ⟨_, rfl⟩
  have hr0 : (18446744073709551615 : Int) % n = r := hr.symm
  have hr1 : 0 ≤ r ∧ r < n := by rw [hr]; exact ⟨Int.emod_nonneg _ (by omega), Int.emod_lt_of_pos _ (by omega)⟩
  have hbl : (r + 1) % n = bias n := by rw [hr]; exact bias_law n
  clear hr
  have hb := bias_lt hn
  obtain ⟨z, hz⟩ : ∃ z, z = stepI s := ⟨_, rfl⟩
  have HZ : Hid (z = stepI s) := hz
  clear hT hs hz
  go_enter Ybaf.func9, Ybaf.ntmps9
  go_wp2_with fail
  refine (next16 X s _ hc hf).mono ?_
  rw [← HZ.out]
  rintro e w1 ⟨rfl, rfl⟩
  go_wp2_with fail
  refine (mul64_any z n (by omega) hn' _).mono ?_
  rintro e w2 ⟨rfl, rfl⟩
  by_cases hlo : loOf n z < n
  · go_wp2
    rw [hbl]
    clear hbl hr0
    go_loopg [5, 6] T (fun gk v5 v6 wr => ∃ (t : Nat) (z : Int), t + gk = T ∧ z = it (t + 1) s ∧ v5 = .int .u64 (hiOf n z) ∧ v6 = .int .u64 (loOf n z) ∧ wr = w.setCell ⟨X, 0, none⟩ (.int .u64 z) ∧ ∀ i, i < t → loOf n (it (i + 1) s) < bias n)
    case atStart => exact ⟨0, z, by omega, HZ.out, rfl, rfl, rfl, fun i hi => absurd hi (Nat.not_lt_zero _)⟩
    case round =>
      obtain ⟨t, y, ht, hy, rfl, rfl, rfl, hrej⟩ := hrel
      have HY : Hid (y = it (t + 1) s) := hy
      have HR : Hid (∀ i, i < t → loOf n (it (i + 1) s) < bias n) := hrej
      have HTT : Hid (t + gk = T) := ht
      clear hy hrej ht
      have c1 : (w.setCell ⟨X, 0, none⟩ (.int .u64 y)).cell? ⟨X, 0, none⟩ = some (.int .u64 y) := World.cell?_setCell_same _ _ _ hc
      have f1 : (w.setCell ⟨X, 0, none⟩ (.int .u64 y)).frozen? ⟨X, 0, none⟩ = false := by simp [hf]
      by_cases hl : loOf n y < bias n
      · obtain ⟨x, hx⟩ : ∃ x, x = stepI y := ⟨_, rfl⟩
        have HX : Hid (x = stepI y) := hx
        clear hx
        go_wp2_with fail
        refine (next16 X y _ c1 f1).mono ?_
        rw [← HX.out, setCell_twice]
        rintro e w1 ⟨rfl, rfl⟩
        go_wp2_with fail
        refine (mul64_any x n (by omega) hn' _).mono ?_
        rintro e w2 ⟨rfl, rfl⟩
        go_wp2
        have hgk : 0 < gk := by
          rcases Nat.eq_zero_or_pos gk with h0 | h0
          · exfalso
            have e := HTT.out
            rw [h0] at e
            have h1 := HT.out
            rw [← e, Nat.add_zero, ← HY.out] at h1
            omega
          · exact h0
        go_roundg (gk - 1)
        case measure => omega
        case rel =>
          have e := HTT.out
          refine ⟨t + 1, x, by omega, by rw [HX.out, HY.out]; rfl, rfl, rfl, rfl, fun i hi => ?_⟩
          by_cases hit : i = t
          · subst hit; rw [← HY.out]; exact hl
          · exact HR.out i (by omega)
      · go_wp2
        go_ret
        exact ⟨_, y, ⟨t, HR.out, by rw [← HY.out]; omega, HY.out, rfl⟩, rfl, rfl⟩
  · go_wp2
    go_ret
    refine ⟨_, z, ⟨0, fun i hi => absurd hi (Nat.not_lt_zero _), ?_, HZ.out, rfl⟩, rfl, rfl⟩
    show ¬ loOf n (stepI s) < bias n
    rw [← HZ.out]
    omega
end Go.Proofs.YbulkdmhkFmt
