import Derived.Test.YbulkdmhkFmtB2
namespace Go.Proofs.YbulkdmhkFmt
open Go.RowKit Go.Extern.Stop Go.Stop Go.Extern

set_option maxHeartbeats 800000 in
theorem beq_any (B cap : Nat) (l : List UInt8) (w : World) (hl : l.length ≤ 1000) (hR : BRow w B l) :
    Calls Ybaf.prog 7 #[.slice (some ⟨B, 0, none⟩) l.length cap, .string ⟨l.toArray⟩] w fun e w' => e = .returned (.bool true) ∧ Below w.heap.size w w' := by
  obtain ⟨s, hs⟩ : ∃ s : ByteArray, s = ⟨l.toArray⟩ := ⟨_, rfl⟩
  have hsz : s.size = l.length := by rw [hs]; simp [ByteArray.size]
  rw [← hs, ← hsz]
  have hc : ∀ j (hj : j < s.size), w.cell? ⟨B, j, none⟩ = some (.int .u8 (s[j].toNat : Int)) := by
    intro j hj
    subst hs
    exact hR j (by simpa [ByteArray.size] using hj)
  have hsl : s.size ≤ 1000 := by omega
  have HC : Hid (∀ j (hj : j < s.size), w.cell? ⟨B, j, none⟩ = some (.int .u8 (s[j].toNat : Int))) := hc
  clear hs hsz hR hc hl
  go_enter Ybaf.func7, Ybaf.ntmps7
  go_wp2
  go_loopw [5] (fun i wr => ∃ k : Nat, k ≤ s.size ∧ i = .int .i64 k ∧ ∃ q, wr = w.drewN q) (fun i _ => s.size - (intOf i).toNat)
  case atStart => exact ⟨0, Nat.zero_le _, rfl, 0, rfl⟩
  case round =>
    obtain ⟨k, hk, rfl, q, rfl⟩ := hrel
    by_cases hlt : k < s.size
    · have c1 := HC.out k hlt
      go_wp2
      go_quiet (fail)
      go_wp2
      go_roundw
      case rel => exact ⟨k + 1, by omega, by go_num, q + nq, rfl⟩
      case measure => simp [intOf]; omega
    · go_wp2
      go_ret
      exact ⟨rfl, below_drewN (Below.refl _ _) q⟩

theorem neqSl (B n cap : Nat) (w : World) : (binOp .neq 23 (.slice (some ⟨B, 0, none⟩) n cap) (.slice none 0 0)).run Ybaf.prog w = .ok (.bool true) w := by kernel_rfl
theorem eqSl (w : World) : (binOp .eql 23 (.slice none 0 0) (.slice none 0 0)).run Ybaf.prog w = .ok (.bool true) w := by kernel_rfl
theorem neqErr (a : Addr) (w : World) : (binOp .neq 25 (.iface 72 (.pointer (some a))) .nilIface).run Ybaf.prog w = .ok (.bool true) w := by kernel_rfl
theorem eqErr (w : World) : (binOp .eql 25 .nilIface .nilIface).run Ybaf.prog w = .ok (.bool true) w := by kernel_rfl
theorem neqNil (w : World) : (binOp .neq 25 .nilIface .nilIface).run Ybaf.prog w = .ok (.bool false) w := by kernel_rfl

set_option maxRecDepth 8000 in
set_option maxHeartbeats 1600000 in
theorem lawB_any (F : Interp) (x : Int) (w : World) (hF : F.answers w.tape) :
    Calls Ybaf.prog 3 #[.int .i64 x] w fun e w' => e = .returned (.bool true) ∧ Below w.heap.size w w' := by
  have q1 := neqSl
  have q2 := eqSl
  have q3 := neqErr
  have q4 := eqErr
  by_cases h0 : x = 0
  · subst h0
    go_enter Ybaf.func3, Ybaf.ntmps3
    go_wp2_with fail
    refine (marshal0 _).mono ?_
    rintro e w1 ⟨⟨B, cap, rfl, hB, hR, _⟩, hb⟩
    have HR : Hid (BRow w1 B [116, 114, 117, 110, 99, 97, 116, 101]) := hR
    have HB : Hid (Below w.heap.size w w1) := hb
    clear hR hb
    go_wp2_with fail
    refine (beq_any B cap [116, 114, 117, 110, 99, 97, 116, 101] _ (by decide) HR.out).mono ?_
    rintro e w2 ⟨rfl, hb2⟩
    have HB2 : Hid (Below w.heap.size w w2) := HB.out.trans (hb2.mono HB.out.size)
    clear hb2
    go_wp2
    go_ret
    exact ⟨rfl, HB2.out⟩
  by_cases h1 : x = 1
  · subst h1
    go_enter Ybaf.func3, Ybaf.ntmps3
    go_wp2_with fail
    refine (marshal1 _).mono ?_
    rintro e w1 ⟨⟨B, cap, rfl, hB, hR, _⟩, hb⟩
    have HR : Hid (BRow w1 B [114, 111, 117, 110, 100]) := hR
    have HB : Hid (Below w.heap.size w w1) := hb
    clear hR hb
    go_wp2_with fail
    refine (beq_any B cap [114, 111, 117, 110, 100] _ (by decide) HR.out).mono ?_
    rintro e w2 ⟨rfl, hb2⟩
    have HB2 : Hid (Below w.heap.size w w2) := HB.out.trans (hb2.mono HB.out.size)
    clear hb2
    go_wp2
    go_ret
    exact ⟨rfl, HB2.out⟩
  · have e0 : (x == 0) = false := by simpa using h0
    have e1 : (x == 1) = false := by simpa using h1
    have H0 : Hid (x ≠ 0) := h0
    have H1 : Hid (x ≠ 1) := h1
    clear h0 h1
    go_enter Ybaf.func3, Ybaf.ntmps3
    go_wp2_with fail
    refine (marshalX F x _ (by exact hF) H0.out H1.out).mono ?_
    rintro e w1 ⟨⟨a, rfl⟩, hb⟩
    have HB : Hid (Below w.heap.size w w1) := hb
    clear hb
    go_wp2
    go_ret
    exact ⟨rfl, HB.out⟩
end Go.Proofs.YbulkdmhkFmt
