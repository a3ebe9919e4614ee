import Derived.Test.YbulkdmeeRows
import Derived.Test.YbulkdmeeW5
import Derived.WalkKit
import Derived.ProofKit
import Derived.OpenShut
import Derived.ShutString
import Derived.ChangeOld
import Derived.Below
import Derived.SliceStrings
import Derived.Deep.Grids
namespace Go.Proofs.Ybulkdmee.lawS5659CWhole
open Go.ChangeShapes Go.WideShapes Go.ChangeAt Go.RowKit
open Go.ChangeMaps (open_string shut_string)

theorem own : ownKnob Yba.prog.godebug = none := by kernel_rfl
theorem laidOut : laidOutB Yba.prog = true := by kernel_rfl
theorem cells9 : Yba.prog.cellsOf 9 = 1 := by kernel_rfl
theorem cells4 : Yba.prog.cellsOf 4 = 1 := by kernel_rfl

/-- WHAT THE WALK IS TOLD OF THE NAMES: the first n cells hold the strings 'nm'. -/
def IsStrs (w : World) (a : Option Addr) (n : Nat) (nm : Nat → ByteArray) : Prop :=
  ∃ b o, (0 < n → a = some ⟨b, o, none⟩ ∧ b < w.heap.size) ∧ ∀ i, i < n → w.cell? ⟨b, o + i, none⟩ = some (.string (nm i))
/-- .. of the bools. -/
def IsBools (w : World) (a : Option Addr) (n : Nat) (lv : Nat → Bool) : Prop :=
  ∃ b o, (0 < n → a = some ⟨b, o, none⟩ ∧ b < w.heap.size) ∧ ∀ i, i < n → w.cell? ⟨b, o + i, none⟩ = some (.bool (lv i))

theorem add_plain (b o j : Nat) : (⟨b, o, none⟩ : Addr).add j = ⟨b, o + j, none⟩ := by
  unfold Addr.add
  split
  · next h => subst h; rfl
  · rfl

theorem plain_at {w : World} {x : Addr} {v : Value} (h : w.cell? (x.add 0) = some v) : ∃ b o, x = ⟨b, o, none⟩ ∧ b < w.heap.size := by
  obtain ⟨b, o, s⟩ := x
  have hs : s = none := by simpa [Addr.add] using World.cell?_spot h
  subst hs
  rw [add_plain] at h
  exact ⟨b, o, rfl, World.block_lt_of_cell? w _ h⟩

theorem walk (a0 : Option Addr) (n0 c0 : Nat) (nm : Nat → ByteArray) (a1 : Option Addr) (n1 c1 : Nat) (lv : Nat → Bool) (name : ByteArray) (pick : Int) (w : World)
    (w0 : IsStrs w a0 n0 nm) (w1 : IsBools w a1 n1 lv) (h1 : n1 ≤ 9223372036854775807) (wp : (Lit.int .u8 pick).wf = true) :
    Calls Yba.prog 4 #[.slice a0 n0 c0, .slice a1 n1 c1, .string name, .int .u8 pick] w fun e w' => e = .returned (.bool true) ∧ Below w.heap.size w w' := by
  have hp := bounds_u8 wp
  by_cases hbig : 1048576 < n0
  · exact walk_big a0 n0 c0 a1 n1 c1 name pick w hbig
  by_cases hz : n0 = 0
  · subst hz
    exact walk_zero a0 c0 a1 n1 c1 name pick w hp.1 hp.2
  obtain ⟨sb, so, hs, hc⟩ := w0
  obtain ⟨lb, lo, hl, hlc⟩ := w1
  obtain ⟨rfl, hsb⟩ := hs (by omega)
  by_cases h : pick % 2 = 1
  · exact walk_pos sb so n0 c0 nm a1 lb lo n1 c1 lv name (nm ((pick / 2).toNat % n0)) pick w (by omega) (by omega) hsb hc hl hlc h1 hp.1 hp.2 (.inl ⟨h, rfl⟩)
  · exact walk_pos sb so n0 c0 nm a1 lb lo n1 c1 lv name name pick w (by omega) (by omega) hsb hc hl hlc h1 hp.1 hp.2 (.inr ⟨h, rfl⟩)

set_option maxRecDepth 100000 in
theorem lifted (os : Os) (started : os.Started) (H : Type) (enc : TypeId × Value → H) :
    ReturnsInHanded {} Yba.checked os 4 .any (Rows.lawS5659CWholeSpec.pre6 enc Yba.prog Yba.f4 Rows.lawS5659CWholeRow.domain false) (Rows.lawS5659CWholeSpec.post enc Yba.prog Yba.f4 false true false false) := by
  refine returnsInHanded_of_change (C := Yba.checked) own started (by kernel_rfl) Yba.func4
    (ChangeSpec.witness6 (enc := enc) (C := Yba.checked) false ⟨#[], #[.slice none 0 0, .slice none 0 0, .string ByteArray.empty, .int .u8 0], []⟩ 8 (by kernel_rfl) (by kernel_rfl) (by kernel_rfl) (by kernel_rfl)) ?_
  intro W base args ds gs before hval0 hW hcnd _
  have hval : ∀ (j : Nat) t v, Yba.f4.params[j]? = some t → args[j]? = some v → Value.okWide Yba.prog W .any base t v := hval0
  have hW' := hW
  obtain ⟨p, q, hA0, hV, rfl, hfz, hnd⟩ := hW
  have hA : DataW.TrodAll enc Yba.prog W 0 (fun _ => true) true Yba.f4.params.toList args.toList ds p := hA0
  rw [Yba.params4] at hA hval
  obtain ⟨v0, vs0, d0, ds0, p0, q0, hargs, rfl, rfl, h0, r0⟩ := trodAll_cons hA
  obtain ⟨v1, vs1, d1, ds1, p1, q1, rfl, rfl, rfl, h1, r1⟩ := trodAll_cons r0
  obtain ⟨v2, vs2, d2, ds2, p2, q2, rfl, rfl, rfl, h2, r2⟩ := trodAll_cons r1
  obtain ⟨v3, vs3, d3, ds3, p3, q3, rfl, rfl, rfl, h3, r3⟩ := trodAll_cons r2
  obtain ⟨rfl, rfl, rfl⟩ := trodAll_nil r3
  obtain rfl : args = #[v0, v1, v2, v3] := by cases args; simp_all
  obtain ⟨rfl, rfl⟩ := trodVars_none hV
  obtain ⟨a0, len0, cap0, rfl⟩ := okWide_slice Yba.underlying52 (hval 0 52 v0 rfl rfl)
  obtain ⟨a1, len1, cap1, rfl⟩ := okWide_slice Yba.underlying53 (hval 1 53 v1 rfl rfl)
  have k0 := h0
  have k1 := h1
  have lt0 : ∀ x ∈ p0, x.block < W.heap.size := by obtain ⟨m, hm⟩ := k0; exact DataW.trod_lt m _ _ _ hm
  have lt1 : ∀ x ∈ p1, x.block < W.heap.size := by obtain ⟨m, hm⟩ := k1; exact DataW.trod_lt m _ _ _ hm
  obtain ⟨nm, w0⟩ : ∃ nm, IsStrs W a0 len0 nm := by
    obtain ⟨fuel, hf⟩ := h0
    rcases open_strings Yba.underlying52 Yba.underlying9 cells9 hf with ⟨hcs, _⟩ | ⟨x, l, c, ss, hcs, _, hl, hm, hz, _, hcell, _⟩
    · simp [Value.cells] at hcs
      obtain ⟨rfl, rfl, rfl⟩ := hcs
      exact ⟨fun _ => ByteArray.empty, 0, 0, fun h => absurd h (Nat.lt_irrefl _), fun i hi => absurd hi (Nat.not_lt_zero _)⟩
    · simp [Value.cells] at hcs
      obtain ⟨rfl, rfl, rfl⟩ := hcs
      simp only [if_true] at hz
      by_cases hl0 : 0 < len0
      · obtain ⟨b, o, rfl, hb⟩ := plain_at (hcell 0 (by omega))
        exact ⟨fun i => ss.getD i ByteArray.empty, b, o, fun _ => ⟨rfl, hb⟩, fun i hi => by rw [← add_plain]; exact hcell i (by omega)⟩
      · exact ⟨fun _ => ByteArray.empty, 0, 0, fun h => absurd h hl0, fun i hi => absurd hi (by omega)⟩
  obtain ⟨lv, hm1, w1⟩ : ∃ lv, len1 ≤ maxLen ∧ IsBools W a1 len1 lv := by
    obtain ⟨fuel, hf⟩ := h1
    rcases Go.Deep.open_bools Yba.underlying53 Yba.underlying4 cells4 hf with ⟨hcs, _⟩ | ⟨x, l, c, B, hcs, _, hl, hm, _, hcell⟩
    · simp [Value.cells] at hcs
      obtain ⟨rfl, rfl, rfl⟩ := hcs
      exact ⟨fun _ => false, Nat.zero_le _, 0, 0, fun h => absurd h (Nat.lt_irrefl _), fun i hi => absurd hi (Nat.not_lt_zero _)⟩
    · simp [Value.cells] at hcs
      obtain ⟨rfl, rfl, rfl⟩ := hcs
      refine ⟨B, Nat.le_trans hl hm, ?_⟩
      by_cases hl0 : 0 < len1
      · obtain ⟨b, o, rfl, hb⟩ := plain_at (hcell 0 (by omega))
        exact ⟨b, o, fun _ => ⟨rfl, hb⟩, fun i hi => by rw [← add_plain]; exact hcell i (by omega)⟩
      · exact ⟨0, 0, fun h => absurd h hl0, fun i hi => absurd hi (by omega)⟩
  obtain ⟨s, rfl, rfl, rfl, hs⟩ := open_string Yba.underlying9 (hval 2 9 v2 rfl rfl) h2
  obtain ⟨a3, rfl, rfl, rfl, w3⟩ := open_int Yba.underlying5 (hval 3 5 v3 rfl rfl) h3
  clear hA0 hval0
  refine (walk a0 len0 cap0 nm a1 len1 cap1 lv s a3 W w0 w1 (by unfold maxLen at hm1; omega) w3).mono fun e W' ⟨he, bel⟩ => ?_
  subst he
  exact ⟨_, rfl, _, _, _, [], _, [], hW', trodAll_mk1 (shut_bool Yba.underlying4 _), (trodAll_cons_mk (Below.trod laidOut (by kernel_rfl) (of_decide_eq_true (by kernel_rfl)) k0 bel lt0) (trodAll_cons_mk (Below.trod laidOut (by kernel_rfl) (of_decide_eq_true (by kernel_rfl)) k1 bel lt1) (trodAll_cons_mk (shut_string Yba.underlying9 hs) (trodAll_cons_mk (shut_int Yba.underlying5 w3) trodAll_mk0)))), rfl, bel.frame _, fun h => by cases h⟩

theorem over : Rows.lawS5659CWholeRow.holds Yba.pinned (OpenSpec.ofChange Rows.lawS5659CWholeSpec) :=
  OpenClaim.holds_of_wide 4 Yba.f4 rfl rfl rfl rfl rfl rfl rfl ⟨rfl, rfl, rfl, rfl, rfl⟩ rfl rfl rfl rfl rfl (by kernel_rfl) Yba.func4 (by kernel_rfl)
    (of_decide_eq_true (by kernel_rfl)) (by unfold Func.isWrapper; first | (rw [if_pos (by decide +kernel)]; kernel_rfl) | (rw [if_neg (by decide +kernel)]; exact ⟨rfl, rfl⟩))
    (fun os started H enc _ => lifted os started H enc)

/-- THE STATEMENT -/
theorem proved : Rows.LawS5659CWholeSaid := over
end Go.Proofs.Ybulkdmee.lawS5659CWhole
