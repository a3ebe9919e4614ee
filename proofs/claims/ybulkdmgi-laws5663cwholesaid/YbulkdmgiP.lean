/-
  THE PLAIN LAW of 'vantage.LawS5663CWhole': a tree of sums as a list of nodes; 'up': the k-th base; 'Anc a b': a lies on b's chain of bases; a walk by jumps and bases comes to a just where Anc a b. No Go in sight.
-/
namespace Go.Proofs.Ybulkdmgi

structure Node where
  root : Int
  base : Int
  dep : Int
  jmp : Int

def nd0 : Node := ⟨-1, -1, 0, 0⟩
def nd (T : List Node) (i : Nat) : Node := T.getD i nd0
def par (T : List Node) (i : Nat) : Nat := (nd T i).base.toNat
def up (T : List Node) : Nat → Nat → Nat
  | 0, i => i
  | k + 1, i => up T k (par T i)
def Anc (T : List Node) (a b : Nat) : Prop := ∃ k, up T k b = a

/-- One node is as it should be. -/
structure Fine (T : List Node) (i : Nat) : Prop where
  rootZ : i = 0 → (nd T i).root = -1 ∧ (nd T i).base = -1 ∧ (nd T i).dep = 0 ∧ (nd T i).jmp = 0
  root : 0 < i → (nd T i).root = (i : Int)
  base : 0 < i → 0 ≤ (nd T i).base ∧ (nd T i).base < (i : Int) ∧ (nd T i).dep = (nd T (par T i)).dep + 1
  jmp : 0 ≤ (nd T i).jmp ∧ (nd T i).jmp ≤ (i : Int) ∧ (0 < i → (nd T i).jmp < (i : Int)) ∧ Anc T (nd T i).jmp.toNat i
  dep : 0 ≤ (nd T i).dep ∧ (nd T i).dep ≤ (i : Int)

def WF (T : List Node) : Prop := 0 < T.length ∧ ∀ i, i < T.length → Fine T i

theorem wf_start : WF [nd0] := by
  refine ⟨by simp, fun i hi => ?_⟩
  have : i = 0 := by simp at hi; omega
  subst this
  exact ⟨fun _ => ⟨rfl, rfl, rfl, rfl⟩, fun h => absurd h (Nat.lt_irrefl _), fun h => absurd h (Nat.lt_irrefl _), ⟨by decide, by decide, fun h => absurd h (Nat.lt_irrefl _), 0, rfl⟩, by decide, by decide⟩

theorem par_le {T : List Node} (h : WF T) {i : Nat} (hi : i < T.length) : par T i ≤ i := by
  by_cases h0 : i = 0
  · subst h0
    have := ((h.2 0 hi).rootZ rfl).2.1
    simp [par, this]
  · have := (h.2 i hi).base (by omega)
    unfold par
    omega
theorem par_lt {T : List Node} (h : WF T) {i : Nat} (hi : i < T.length) (h0 : 0 < i) : par T i < i ∧ (nd T i).base = (par T i : Int) := by
  have := (h.2 i hi).base h0
  unfold par
  omega
theorem up_le {T : List Node} (h : WF T) : ∀ (k : Nat) {i : Nat}, i < T.length → up T k i ≤ i
  | 0, i, _ => Nat.le_refl _
  | k + 1, i, hi => by
    have h1 := par_le h hi
    have := up_le h k (i := par T i) (by omega)
    simp only [up]
    omega
theorem up_add (T : List Node) : ∀ (k m i : Nat), up T (k + m) i = up T m (up T k i)
  | 0, m, i => by simp [up]
  | k + 1, m, i => by
    rw [show k + 1 + m = (k + m) + 1 by omega]
    simp only [up]
    exact up_add T k m _
theorem anc_refl (T : List Node) (a : Nat) : Anc T a a := ⟨0, rfl⟩
theorem anc_trans {T : List Node} {a b c : Nat} (h1 : Anc T a b) (h2 : Anc T b c) : Anc T a c := by
  obtain ⟨k, rfl⟩ := h1
  obtain ⟨m, rfl⟩ := h2
  exact ⟨m + k, up_add T m k c⟩

/-- The depth as a natural number. -/
def depN (T : List Node) (i : Nat) : Nat := (nd T i).dep.toNat
theorem depN_par {T : List Node} (h : WF T) {i : Nat} (hi : i < T.length) : depN T (par T i) = depN T i - 1 := by
  by_cases h0 : i = 0
  · subst h0
    have e := (h.2 0 hi).rootZ rfl
    have e2 : par T 0 = 0 := by simp [par, e.2.1]
    rw [e2]
    simp [depN, e.2.2.1]
  · have b := (h.2 i hi).base (by omega)
    have p := par_lt h hi (by omega)
    have d := (h.2 (par T i) (by omega)).dep
    unfold depN
    omega
theorem depN_zero {T : List Node} (h : WF T) {i : Nat} (hi : i < T.length) (hd : depN T i = 0) : i = 0 := by
  by_cases h0 : i = 0
  · exact h0
  · have b := (h.2 i hi).base (by omega)
    have p := par_lt h hi (by omega)
    have d := (h.2 (par T i) (by omega)).dep
    unfold depN at hd
    omega
theorem depN_up {T : List Node} (h : WF T) : ∀ (k : Nat) {i : Nat}, i < T.length → depN T (up T k i) = depN T i - k
  | 0, i, _ => by simp [up]
  | k + 1, i, hi => by
    have h1 := par_le h hi
    simp only [up]
    rw [depN_up h k (by omega), depN_par h hi]
    omega

/-- At no greater depth only b itself can be on its own chain. -/
theorem anc_end {T : List Node} (h : WF T) {a b : Nat} (hb : b < T.length) (hd : depN T b ≤ depN T a) : Anc T a b ↔ a = b := by
  constructor
  · rintro ⟨k, rfl⟩
    rw [depN_up h k hb] at hd
    by_cases hk : k = 0
    · subst hk; rfl
    · have hz : depN T b = 0 := by omega
      have := depN_zero h hb hz
      subst this
      have := up_le h k hb
      omega
  · rintro rfl
    exact anc_refl T a
/-- A step to the base, where b is deeper than a. -/
theorem anc_base {T : List Node} {a b : Nat} (hab : a ≠ b) : Anc T a b ↔ Anc T a (par T b) := by
  constructor
  · rintro ⟨k, rfl⟩
    cases k with
    | zero => exact absurd rfl hab
    | succ k => exact ⟨k, rfl⟩
  · rintro ⟨k, rfl⟩
    exact ⟨k + 1, rfl⟩
/-- A step by a jump that does not pass a's depth. -/
theorem anc_jump {T : List Node} (h : WF T) {a b j : Nat} (hb : b < T.length) (hj : Anc T j b) (hd : depN T a ≤ depN T j) : Anc T a b ↔ Anc T a j := by
  constructor
  · rintro ⟨k, rfl⟩
    obtain ⟨m, rfl⟩ := hj
    rw [depN_up h k hb, depN_up h m hb] at hd
    by_cases hk : m ≤ k
    · exact ⟨k - m, by rw [← up_add, show m + (k - m) = k by omega]⟩
    · have z1 : depN T (up T k b) = 0 := by rw [depN_up h k hb]; omega
      have z2 : depN T (up T m b) = 0 := by rw [depN_up h m hb]; omega
      have l1 := up_le h k hb
      have l2 := up_le h m hb
      rw [depN_zero h (by omega) z1, depN_zero h (by omega) z2]
      exact anc_refl T 0
  · intro h1
    exact anc_trans h1 hj
/-- The root alone is on the root's chain. -/
theorem anc_root {T : List Node} (h : WF T) {a : Nat} : Anc T a 0 ↔ a = 0 := by
  have h0 := h.1
  constructor
  · rintro ⟨k, rfl⟩
    have := up_le h k h0
    omega
  · rintro rfl
    exact anc_refl T 0

/-! ### A node more -/
theorem nd_old (T : List Node) (x : Node) {i : Nat} (hi : i < T.length) : nd (T ++ [x]) i = nd T i := by
  simp [nd, List.getD, List.getElem?_append_left hi]
theorem nd_new (T : List Node) (x : Node) : nd (T ++ [x]) T.length = x := by simp [nd, List.getD]
theorem par_old (T : List Node) (x : Node) {i : Nat} (hi : i < T.length) : par (T ++ [x]) i = par T i := by simp [par, nd_old T x hi]
theorem up_old {T : List Node} (h : WF T) (x : Node) : ∀ (k : Nat) {i : Nat}, i < T.length → up (T ++ [x]) k i = up T k i
  | 0, _, _ => rfl
  | k + 1, i, hi => by
    simp only [up]
    rw [par_old T x hi]
    exact up_old h x k (by have := par_le h hi; omega)
theorem anc_old {T : List Node} (h : WF T) (x : Node) {a b : Nat} (hb : b < T.length) (ha : Anc T a b) : Anc (T ++ [x]) a b := by
  obtain ⟨k, rfl⟩ := ha
  exact ⟨k, up_old h x k hb⟩

/-- What 'made' makes of a tree: a node over b, its jump b or the jump of b's jump. -/
theorem wf_made {T : List Node} (h : WF T) {b j : Nat} (hb : b < T.length) (hj : j < T.length) (hjb : Anc T j b) :
    WF (T ++ [⟨(T.length : Int), (b : Int), (nd T b).dep + 1, (j : Int)⟩]) := by
  refine ⟨by simp, fun i hi => ?_⟩
  by_cases hl : i < T.length
  · have f := h.2 i hl
    have e := nd_old T ⟨(T.length : Int), (b : Int), (nd T b).dep + 1, (j : Int)⟩ hl
    refine ⟨by rw [e]; exact f.rootZ, by rw [e]; exact f.root, fun h0 => ?_, ?_, by rw [e]; exact f.dep⟩
    · have p := par_lt h hl h0
      rw [e, par_old T _ hl, nd_old T _ (show par T i < T.length by omega)]
      exact f.base h0
    · rw [e]
      exact ⟨f.jmp.1, f.jmp.2.1, f.jmp.2.2.1, anc_old h _ hl f.jmp.2.2.2⟩
  · have hi' : i = T.length := by simp at hi; omega
    subst hi'
    have e := nd_new T ⟨(T.length : Int), (b : Int), (nd T b).dep + 1, (j : Int)⟩
    have ep : par (T ++ [⟨(T.length : Int), (b : Int), (nd T b).dep + 1, (j : Int)⟩]) T.length = b := by simp [par, e]
    have d := (h.2 b hb).dep
    refine ⟨fun h0 => absurd h.1 (by omega), by rw [e]; exact fun _ => rfl, fun _ => ?_, ?_, ?_⟩
    · rw [e, ep, nd_old T _ hb]
      exact ⟨by simp, by simp; omega, rfl⟩
    · rw [e]
      refine ⟨by simp, by simp; omega, fun _ => by simp; omega, ?_⟩
      have h1 : Anc (T ++ [⟨(T.length : Int), (b : Int), (nd T b).dep + 1, (j : Int)⟩]) b T.length := ⟨1, by simp [up, ep]⟩
      simpa using anc_trans (anc_old h _ hb hjb) h1
    · rw [e]
      exact ⟨by simp; omega, by simp; omega⟩

end Go.Proofs.Ybulkdmgi
