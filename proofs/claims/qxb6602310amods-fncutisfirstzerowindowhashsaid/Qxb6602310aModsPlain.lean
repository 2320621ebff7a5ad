import Derived.WalkKit
/-
  THE PLAIN MATHEMATICS of FnCutIsFirstZeroWindowHash: the rolling hash modulo 2^64 is the hash of the last 64 bytes.
-/
namespace Go.Proofs.Qxb6602310aMods

def M64 : Nat := 2 ^ 64

/-- The hash of the n bytes that end just before k. -/
def V (g : Nat → Nat) (k : Nat) : Nat → Nat
  | 0 => 0
  | n + 1 => V g k n + g (k - 1 - n) * 2 ^ n
/-- The rolling hash of the j bytes from s on. -/
def R (g : Nat → Nat) (s : Nat) : Nat → Nat
  | 0 => 0
  | j + 1 => R g s j * 2 + g (s + j)

theorem V_succ (g : Nat → Nat) (k n : Nat) : V g k (n + 1) = V g k n + g (k - 1 - n) * 2 ^ n := rfl
theorem R_succ (g : Nat → Nat) (s j : Nat) : R g s (j + 1) = R g s j * 2 + g (s + j) := rfl

theorem V_roll (g : Nat → Nat) (k : Nat) : ∀ n, V g (k + 1) (n + 1) = V g k n * 2 + g k
  | 0 => by simp [V]
  | n + 1 => by
    have e : k + 1 - 1 - (n + 1) = k - 1 - n := by omega
    rw [V_succ g (k + 1) (n + 1), V_roll g k n, V_succ g k n, e, Nat.pow_succ, Nat.add_mul, Nat.mul_assoc]
    omega

theorem R_eq (g : Nat → Nat) (s : Nat) : ∀ j, R g s j = V g (s + j) j
  | 0 => rfl
  | j + 1 => by rw [R_succ, R_eq g s j, ← Nat.add_assoc, V_roll]

theorem V_more (g : Nat → Nat) (k : Nat) : ∀ d, V g k (64 + d) % M64 = V g k 64 % M64
  | 0 => rfl
  | d + 1 => by
    rw [← Nat.add_assoc, V_succ, Nat.pow_add, ← Nat.mul_assoc, Nat.mul_right_comm]
    show (V g k (64 + d) + g (k - 1 - (64 + d)) * 2 ^ d * M64) % M64 = _
    rw [Nat.add_mul_mod_self_right, V_more g k d]

theorem R_win (g : Nat → Nat) (s j k : Nat) (h : 64 ≤ j) (hk : s + j = k) : R g s j % M64 = V g k 64 % M64 := by
  subst hk
  obtain ⟨d, rfl⟩ : ∃ d, j = 64 + d := ⟨j - 64, by omega⟩
  rw [R_eq, V_more]

theorem wrapN (n : Nat) : IntKind.u64.wrap (n : Int) = ((n % M64 : Nat) : Int) := by
  have e : M64 = 18446744073709551616 := by decide
  rw [IntKind.wrap_u64, e]
  omega

/-- One more byte of the window. -/
theorem step_win (a x j : Nat) : IntKind.u64.wrap (((a % M64 : Nat) : Int) + IntKind.u64.wrap ((x : Int) * 2 ^ j)) = (((a + x * 2 ^ j) % M64 : Nat) : Int) := by
  have e : ((x : Int) * 2 ^ j) = ((x * 2 ^ j : Nat) : Int) := by simp
  rw [e, wrapN, ← Int.natCast_add, wrapN]
  congr 1
  rw [← Nat.add_mod]

/-- One more byte of the rolling hash. -/
theorem step_cut (a x : Nat) : IntKind.u64.wrap (IntKind.u64.wrap (((a % M64 : Nat) : Int) * 2) + (x : Int)) = (((a * 2 + x) % M64 : Nat) : Int) := by
  have e : (((a % M64 : Nat) : Int) * 2) = ((a % M64 * 2 : Nat) : Int) := by omega
  rw [e, wrapN, ← Int.natCast_add, wrapN]
  congr 1
  rw [Nat.mod_add_mod, Nat.add_mod, Nat.mod_mul_mod, ← Nat.add_mod]

/-- The least k from lo on, below n, with T k; else n. -/
def CutAt (T : Nat → Bool) (lo n c : Nat) : Prop := lo ≤ c ∧ c ≤ n ∧ (∀ k, lo ≤ k → k < c → T k = false) ∧ (c < n → T c = true)

theorem CutAt.unique {T : Nat → Bool} {lo n c d : Nat} (h : CutAt T lo n c) (h' : CutAt T lo n d) : c = d := by
  obtain ⟨a1, a2, a3, a4⟩ := h
  obtain ⟨b1, b2, b3, b4⟩ := h'
  rcases Nat.lt_trichotomy c d with e | e | e
  · have x := a4 (by omega)
    have y := b3 c a1 e
    rw [x] at y
    cases y
  · exact e
  · have x := b4 (by omega)
    have y := a3 d b1 e
    rw [x] at y
    cases y

end Go.Proofs.Qxb6602310aMods
