import Derived.Test.YbulkdmgiW1
namespace Go.Proofs.Ybulkdmgi
open Go.RowKit

def fld (x : Node) : Nat → Value
  | 0 => .int .i32 x.root
  | 1 => .int .i32 x.base
  | 2 => .int .i32 x.dep
  | _ => .int .i32 x.jmp

theorem cells_len (T : List Node) : (cellsOf T).length = T.length * 4 := by
  induction T with
  | nil => rfl
  | cons x T ih => simp only [cellsOf, List.flatMap_cons, List.length_append, List.length_cons, List.length_nil] at ih ⊢; omega

theorem cells_get : ∀ (T : List Node) (i r : Nat), i < T.length → r < 4 → (cellsOf T)[i * 4 + r]? = some (fld (nd T i) r)
  | x :: T, 0, r, _, hr => by
    have e : cellsOf (x :: T) = [.int .i32 x.root, .int .i32 x.base, .int .i32 x.dep, .int .i32 x.jmp] ++ cellsOf T := rfl
    rw [e]
    match r, hr with
    | 0, _ => rfl
    | 1, _ => rfl
    | 2, _ => rfl
    | 3, _ => rfl
  | x :: T, i + 1, r, hi, hr => by
    have e : cellsOf (x :: T) = [.int .i32 x.root, .int .i32 x.base, .int .i32 x.dep, .int .i32 x.jmp] ++ cellsOf T := rfl
    rw [e, List.getElem?_append_right (by simp; omega)]
    have e2 : (i + 1) * 4 + r - [Value.int .i32 x.root, .int .i32 x.base, .int .i32 x.dep, .int .i32 x.jmp].length = i * 4 + r := by simp; omega
    rw [e2, cells_get T i r (by simpa using hi) hr]
    simp [nd, List.getD]

theorem nrow_of_owns {w : World} {base g n cap : Nat} {T : List Node} (h : w.ownsRow base 82 4 (.slice (some ⟨g, 0, none⟩) n cap) n (cellsOf T)) : NRow w g T := by
  have hl : T.length * 4 = n * 4 := by rw [← cells_len]; exact h.1
  intro i hi
  have e : ∀ r, r < 4 → w.cell? ⟨g, i * 4 + r, none⟩ = some (fld (nd T i) r) := fun r hr => by rw [h.cellAt _ (by omega), cells_get T i r hi hr]
  exact ⟨e 0 (by omega), e 1 (by omega), e 2 (by omega), e 3 (by omega)⟩

theorem news_of_nrow {w : World} {g : Nat} {T : List Node} (h : NRow w g T) : ∀ j u, (cellsOf T)[j]? = some u → w.cell? ((⟨g, 0, none⟩ : Addr).add j) = some u := by
  intro j u hu
  have hj : j < T.length * 4 := by rw [← cells_len]; exact (List.getElem?_eq_some_iff.1 hu).1
  have e := cells_get T (j / 4) (j % 4) (by omega) (by omega)
  rw [show j / 4 * 4 + j % 4 = j by omega, hu] at e
  rw [Option.some.inj e]
  have hadd : (⟨g, 0, none⟩ : Addr).add j = ⟨g, j, none⟩ := by unfold Addr.add; split <;> simp_all
  rw [hadd]
  obtain ⟨h0, h1, h2, h3⟩ := h (j / 4) (by omega)
  have : j % 4 = 0 ∨ j % 4 = 1 ∨ j % 4 = 2 ∨ j % 4 = 3 := by omega
  rcases this with h' | h' | h' | h'
  · rw [h']; rw [show j / 4 * 4 = j by omega] at h0; exact h0
  · rw [h']; rw [show j / 4 * 4 + 1 = j by omega] at h1; exact h1
  · rw [h']; rw [show j / 4 * 4 + 2 = j by omega] at h2; exact h2
  · rw [h']; rw [show j / 4 * 4 + 3 = j by omega] at h3; exact h3

theorem one_cells (T : List Node) : ∀ u ∈ cellsOf T, u.oneCell' = true := by
  intro u hu
  unfold cellsOf at hu
  rw [List.mem_flatMap] at hu
  obtain ⟨x, _, hx⟩ := hu
  simp at hx
  rcases hx with rfl | rfl | rfl | rfl <;> rfl

theorem nrow_below {w w' : World} {B g : Nat} {T : List Node} (h : NRow w g T) (hb : Below B w w') (hg : g < B) : NRow w' g T := by
  intro i hi
  have e : ∀ o, w'.cell? ⟨g, o, none⟩ = w.cell? ⟨g, o, none⟩ := fun o => hb.cell (p := ⟨g, o, none⟩) hg
  rw [e, e, e, e]
  exact h i hi

/-- An owned row of at least one element: the slice's own form. -/
theorem own_form {w : World} {base e size n : Nat} {v : Value} {xs : List Value} (h : w.ownsRow base e size v n xs) (hn : 0 < n) : ∃ g cap, v = .slice (some ⟨g, 0, none⟩) n cap ∧ base ≤ g := by
  rcases h.2 with ⟨_, h0⟩ | ⟨g, cap, cur, hv, hb, _⟩
  · omega
  · exact ⟨g, cap, hv, hb⟩

theorem Yba.info82 : (Yba.prog.info? 82).map (fun i => (i.zero, i.size, i.bytes)) = some (some (.agg #[.int .i32 0, .int .i32 0, .int .i32 0, .int .i32 0]), 4, 16) := by kernel_rfl
theorem eqNil (g n cap : Nat) (w : World) : (binOp .eql 83 (.slice (some ⟨g, 0, none⟩) n cap) (.slice none 0 0)).run Yba.prog w = .ok (.bool false) w := by kernel_rfl

/-- The call has returned a slice of the nodes of T in memory of its own. -/
def Cloned (T : List Node) (w : World) (e : Ending) (w' : World) : Prop := ∃ g cap, e = .returned (.slice (some ⟨g, 0, none⟩) T.length cap) ∧ w.heap.size ≤ g ∧ g < w'.heap.size ∧ NRow w' g T

set_option maxHeartbeats 1000000 in
theorem clone_any (g cap : Nat) (T : List Node) (w : World) (hn0 : 0 < T.length) (hn : T.length ≤ 65537) (hg : g < w.heap.size) (hR : NRow w g T) :
    Calls Yba.prog 17 #[.slice (some ⟨g, 0, none⟩) T.length cap] w fun e w' => Cloned T w e w' ∧ Below w.heap.size w w' := by
  have q := eqNil g T.length cap
  obtain ⟨i0, hi, hz0, hz1, hz2⟩ := info_parts Yba.info82
  go_enter Yba.func17, Yba.ntmps17
  go_wp2_with (at_builtin; refine wpList_append_own _ rfl _ _ 83 rfl w.heap.size 82 i0 _ 4 16 Yba.underlying83 hi hz0 hz1 hz2 rfl (by decide) _ _ _ rfl (World.ownsRow_made (size := 4) w #[] 0 (Nat.le_refl _) (Nat.zero_le _) rfl) ⟨g, 0, none⟩ T.length cap (cellsOf T) rfl (cells_len T) ?c1 (one_cells T) ?c3 ?c4 ?c5 ?_)
  case c1 => exact news_of_nrow (nrow_below hR ((Below.refl _ _).alloc (Nat.le_refl _) _) hg)
  case c3 => unfold maxLen; omega
  case c4 => omega
  case c5 => simp
  intro v' w1 hown' hgrow _
  obtain ⟨g', cap', rfl, hb⟩ := own_form hown' hn0
  go_wp2
  go_ret
  refine ⟨⟨g', cap', rfl, hb, (hown'.lt g' rfl).2, nrow_of_owns hown'⟩, ?_⟩
  exact ((Below.refl _ _).alloc (Nat.le_refl _) _).grown hgrow (by simp) (fun k hk => by simp [Value.ownBlock] at hk; omega)
end Go.Proofs.Ybulkdmgi
