import Derived.Test.YbulkdmgiProg
import Derived.Test.YbulkdmgiP
import Derived.WalkKit
import Derived.WalkLawsBesides
import Derived.WalkSpells
import Derived.Outline
import Derived.Deep.LoopGhost
import Derived.Laws.EntriesVeiled
namespace Go.Proofs.Ybulkdmgi
open Go.RowKit

/-- The cells of a row of nodes. -/
def cellsOf (T : List Node) : List Value := T.flatMap fun x => [.int .i32 x.root, .int .i32 x.base, .int .i32 x.dep, .int .i32 x.jmp]

/-- Block g holds the nodes of T from its head on. -/
def NRow (w : World) (g : Nat) (T : List Node) : Prop :=
  ∀ i, i < T.length → w.cell? ⟨g, i * 4, none⟩ = some (.int .i32 (nd T i).root) ∧ w.cell? ⟨g, i * 4 + 1, none⟩ = some (.int .i32 (nd T i).base) ∧
    w.cell? ⟨g, i * 4 + 2, none⟩ = some (.int .i32 (nd T i).dep) ∧ w.cell? ⟨g, i * 4 + 3, none⟩ = some (.int .i32 (nd T i).jmp)

/-- The call has returned whether a is on b's chain. -/
def Told (T : List Node) (a b : Nat) (e : Ending) : Prop := ∃ r : Bool, e = .returned (.bool r) ∧ (r = true ↔ Anc T a b)

set_option maxHeartbeats 1000000 in
theorem within_any (C g cap a b : Nat) (T : List Node) (w : World) (hT : WF T) (hC : w.cell? ⟨C, 11, none⟩ = some (.slice (some ⟨g, 0, none⟩) T.length cap)) (hR : NRow w g T) (ha : a < T.length) (hb : b < T.length) :
    Calls Yba.prog 18 #[.pointer (some ⟨C, 0, none⟩), .int .i32 a, .int .i32 b] w fun e w' => Told T a b e ∧ w' = w := by
  obtain ⟨n, hnn⟩ : ∃ n, n = T.length := ⟨_, rfl⟩
  rw [← hnn] at hC ha hb
  have HN : Hid (n = T.length) := hnn
  have HR : Hid (NRow w g T) := hR
  obtain ⟨_, _, a2, _⟩ := hR a (by omega)
  have fa := (hT.2 a (by omega)).dep
  obtain ⟨da, hda⟩ : ∃ da, da = (nd T a).dep := ⟨_, rfl⟩
  rw [← hda] at a2 fa
  have HDA : Hid (da = (nd T a).dep) := hda
  clear hR hnn hda
  go_enter Yba.func18, Yba.ntmps18
  go_wp2
  go_loop [2, 8] (fun t _ => ∃ c : Nat, c < n ∧ t = .int .i32 c ∧ (Anc T a b ↔ Anc T a c)) (fun t _ => (intOf t).toNat)
  case atStart => exact ⟨b, hb, rfl, Iff.rfl⟩
  case round =>
    obtain ⟨c, hc, rfl, hiff⟩ := hrel
    have HI : Hid (Anc T a b ↔ Anc T a c) := hiff
    obtain ⟨_, c1, c2, c3⟩ := HR.out c (by have := HN.out; omega)
    have f := hT.2 c (by have := HN.out; omega)
    obtain ⟨dc, hdc⟩ : ∃ dc, dc = (nd T c).dep := ⟨_, rfl⟩
    have fd := f.dep
    rw [← hdc] at c2 fd
    have HDC : Hid (dc = (nd T c).dep) := hdc
    clear hiff hdc
    by_cases hlt : da < dc
    · have hc0 : 0 < c := by omega
      obtain ⟨j, hj⟩ : ∃ j : Nat, (nd T c).jmp = (j : Int) := ⟨(nd T c).jmp.toNat, by have := f.jmp.1; omega⟩
      have fj := f.jmp
      rw [hj] at c3 fj
      have hjc : j < c := by have := fj.2.2.1 hc0; omega
      have hanc : Anc T j c := by simpa using fj.2.2.2
      obtain ⟨_, _, j2, _⟩ := HR.out j (by have := HN.out; omega)
      obtain ⟨dj, hdj⟩ : ∃ dj, dj = (nd T j).dep := ⟨_, rfl⟩
      have fdj := (hT.2 j (by have := HN.out; omega)).dep
      rw [← hdj] at j2 fdj
      have HDJ : Hid (dj = (nd T j).dep) := hdj
      have HA : Hid (Anc T j c) := hanc
      clear hj fj hdj hanc
      by_cases hge : da ≤ dj
      · clear f
        go_wp2
        go_round
        case rel =>
          refine ⟨j, by omega, rfl, HI.out.trans (anc_jump hT (by have := HN.out; omega) HA.out ?_)⟩
          have h1 := HDA.out; have h2 := HDJ.out
          simp only [depN]; omega
        case measure => simp [intOf]; omega
      · have hge' : dj < da := by omega
        obtain ⟨hp1, hp2⟩ := par_lt hT (i := c) (by have := HN.out; omega) hc0
        rw [hp2] at c1
        obtain ⟨p, hp⟩ : ∃ p, p = par T c := ⟨_, rfl⟩
        rw [← hp] at c1 hp1
        have HP : Hid (p = par T c) := hp
        clear f hp2 hp hge
        go_wp2
        go_round
        case rel =>
          refine ⟨p, by omega, rfl, HI.out.trans ?_⟩
          rw [HP.out]
          refine anc_base ?_
          intro e
          have h1 := HDA.out; have h2 := HDC.out
          rw [e] at h1
          omega
        case measure => simp [intOf]; omega
    · clear f
      go_wp2
      go_ret
      refine ⟨⟨((a : Int) == (c : Int)), rfl, ?_⟩, rfl⟩
      rw [HI.out, anc_end hT (by have := HN.out; omega)]
      · simp; omega
      · have h1 := HDA.out; have h2 := HDC.out
        simp only [depN]; omega
end Go.Proofs.Ybulkdmgi
