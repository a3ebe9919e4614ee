import Derived.Test.YbulkdmhkFmtB1
import Derived.Laws.IdiomStrings
import Derived.RegionTactic
import Derived.BigRegion
import Derived.Deep.QuietTactic
import Derived.BigQuiet
namespace Go.Proofs.YbulkdmhkFmt
open Go.RowKit Go.Extern.Stop Go.Stop Go.Extern

/-- Block B holds the bytes l from its head on. -/
def BRow (w : World) (B : Nat) (l : List UInt8) : Prop := ∀ j (hj : j < l.length), w.cell? ⟨B, j, none⟩ = some (.int .u8 (l[j].toNat : Int))

theorem brow_below {w w' : World} {B g : Nat} {l : List UInt8} (h : BRow w g l) (hb : Below B w w') (hg : g < B) : BRow w' g l :=
  fun j hj => (hb.cell (p := ⟨g, j, none⟩) hg).trans (h j hj)

theorem bytes_of (l : List UInt8) (w : World) : ∃ cap W, (convert 9 23 (.string ⟨l.toArray⟩)).run Ybaf.prog w = .ok (.slice (some ⟨w.heap.size, 0, none⟩) l.length cap) W ∧ BRow W w.heap.size l ∧ Below w.heap.size w W ∧ w.heap.size < W.heap.size := by
  have h := run_bytes_of_string (P := Ybaf.prog) w 9 23 5 ⟨l.toArray⟩ Ybaf.underlying9 Ybaf.underlying23 Ybaf.underlying5
  refine ⟨_, _, h, ?_, ((Below.refl _ _).drew).alloc (Nat.le_refl _) _, by simp⟩
  intro j hj
  have e := World.cell?_alloc_mark w.drew (bytesRow ⟨l.toArray⟩ (grownCap w (⟨l.toArray⟩ : ByteArray).size 0 5)) 5 ((bytesRow ⟨l.toArray⟩ (grownCap w (⟨l.toArray⟩ : ByteArray).size 0 5)).size, (bytesRow ⟨l.toArray⟩ (grownCap w (⟨l.toArray⟩ : ByteArray).size 0 5)).size + 1) j
  refine e.trans ?_
  have := bytesRow_at ⟨l.toArray⟩ (grownCap w (⟨l.toArray⟩ : ByteArray).size 0 5) j (by simpa using hj)
  simpa using this

/-- MarshalText of a rule that is known: its name's bytes, no error. -/
def Wrote (l : List UInt8) (w : World) (e : Ending) (w' : World) : Prop :=
  ∃ B cap, e = .returned (.tuple #[.slice (some ⟨B, 0, none⟩) l.length cap, .nilIface]) ∧ B < w'.heap.size ∧ BRow w' B l ∧ w.heap.size ≤ B

set_option maxHeartbeats 800000 in
theorem marshal0 (w : World) : Calls Ybaf.prog 6 #[.int .i64 0] w fun e w' => Wrote [116, 114, 117, 110, 99, 97, 116, 101] w e w' ∧ Below w.heap.size w w' := by
  obtain ⟨cap, W, hcv, hR, hB, hs⟩ := bytes_of [116, 114, 117, 110, 99, 97, 116, 101] w
  have HR : Hid (BRow W w.heap.size [116, 114, 117, 110, 99, 97, 116, 101]) := hR
  have HB : Hid (Below w.heap.size w W) := hB
  clear hR hB
  go_enter Ybaf.func6, Ybaf.ntmps6
  go_wp2_with fail
  refine (string0 _).mono ?_
  rintro e w1 ⟨rfl, rfl⟩
  go_wp2
  go_ret2
  exact ⟨⟨_, _, rfl, hs, HR.out, Nat.le_refl _⟩, HB.out⟩
set_option maxHeartbeats 800000 in
theorem marshal1 (w : World) : Calls Ybaf.prog 6 #[.int .i64 1] w fun e w' => Wrote [114, 111, 117, 110, 100] w e w' ∧ Below w.heap.size w w' := by
  obtain ⟨cap, W, hcv, hR, hB, hs⟩ := bytes_of [114, 111, 117, 110, 100] w
  have HR : Hid (BRow W w.heap.size [114, 111, 117, 110, 100]) := hR
  have HB : Hid (Below w.heap.size w W) := hB
  clear hR hB
  go_enter Ybaf.func6, Ybaf.ntmps6
  go_wp2_with fail
  refine (string1 _).mono ?_
  rintro e w1 ⟨rfl, rfl⟩
  go_wp2
  go_ret2
  exact ⟨⟨_, _, rfl, hs, HR.out, Nat.le_refl _⟩, HB.out⟩

/-- MarshalText of any other: nil bytes, an error. -/
def Refused (e : Ending) : Prop := ∃ a, e = .returned (.tuple #[.slice none 0 0, .iface 72 (.pointer (some a))])

set_option maxHeartbeats 1600000 in
theorem marshalX (F : Interp) (x : Int) (w : World) (hF : F.answers w.tape) (h0 : x ≠ 0) (h1 : x ≠ 1) :
    Calls Ybaf.prog 6 #[.int .i64 x] w fun e w' => Refused e ∧ Below w.heap.size w w' := by
  have hF' := answers_open hF
  have e0 : (x == 0) = false := by simpa using h0
  have e1 : (x == 1) = false := by simpa using h1
  have e2 : (x != 0) = true := by simpa using h0
  have e3 : (x != 1) = true := by simpa using h1
  have H0 : Hid (x ≠ 0) := h0
  have H1 : Hid (x ≠ 1) := h1
  clear h0 h1
  go_enter Ybaf.func6, Ybaf.ntmps6
  go_wp2
  apply rows_call Ybaf.nextTurns
  case hr =>
    go_simp
    exact ⟨⟨rfl, rfl, rfl⟩, rfl⟩
  case hi => exact Ybaf.invokeString22 _ _
  case hc =>
    refine (stringX F x _ (by exact hF) H0.out H1.out).mono fun e w₃ ⟨he, hx⟩ => ?_
    subst he; subst hx
    apply rows_value Ybaf.nextReturned
    case hr =>
      go_simp
      exact ⟨rfl, rfl⟩
    case h =>
      go_wp2
      go_ret2
      refine ⟨⟨_, rfl⟩, ?_⟩
      exact (((((Below.refl _ _).alloc (Nat.le_refl _) _).alloc (by simp) _).alloc (by simp; omega) _).drew).drew
end Go.Proofs.YbulkdmhkFmt
