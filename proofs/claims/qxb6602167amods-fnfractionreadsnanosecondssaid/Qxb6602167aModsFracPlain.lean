/-
  THE PLAIN MATHEMATICS of FnFractionReadsNanoseconds: no Go in sight.
-/
namespace Go.Proofs.Qxb6602167aMods

/-- The number that the first n digits of g write. -/
def pre (g : Nat → Nat) : Nat → Nat
  | 0 => 0
  | n + 1 => pre g n * 10 + g n

theorem pre_succ (g : Nat → Nat) (n : Nat) : pre g (n + 1) = pre g n * 10 + g n := rfl
theorem pre_mod (g : Nat → Nat) (n : Nat) (h : g n ≤ 9) : pre g (n + 1) % 10 = g n := by rw [pre_succ]; omega
theorem pre_div (g : Nat → Nat) (n : Nat) (h : g n ≤ 9) : pre g (n + 1) / 10 = pre g n := by rw [pre_succ]; omega
theorem pre_lt (g : Nat → Nat) (h : ∀ i, g i ≤ 9) : ∀ n, pre g n < 10 ^ n
  | 0 => by simp [pre]
  | n + 1 => by
    have := pre_lt g h n
    have h9 := h n
    rw [pre_succ, Nat.pow_succ]
    omega
theorem pre_nine (g : Nat → Nat) (h : ∀ i, g i ≤ 9) : pre g 9 < 1000000000 := pre_lt g h 9
theorem pre_le_nine (g : Nat → Nat) (h : ∀ i, g i ≤ 9) (n : Nat) (hn : n ≤ 9) : pre g n < 1000000000 :=
  Nat.lt_of_lt_of_le (pre_lt g h n) (Nat.pow_le_pow_right (by omega) hn : 10 ^ n ≤ 10 ^ 9)

/-- A byte is a decimal digit. -/
def Dig (c : UInt8) : Prop := (48 : Int) ≤ (c.toNat : Int) ∧ (c.toNat : Int) ≤ 57

/-- m leading digits, and no more. -/
def Lead (t : ByteArray) (m : Nat) : Prop := m ≤ t.size ∧ (∀ j (_ : j < m) (h : j < t.size), Dig t[j]) ∧ ∀ h : m < t.size, ¬ Dig t[m]

theorem lead_from (t : ByteArray) : ∀ (n k : Nat), k + n = t.size → (∀ j (_ : j < k) (h : j < t.size), Dig t[j]) → ∃ m, Lead t m
  | 0, k, hk, hall => ⟨k, by omega, hall, fun h => by omega⟩
  | n + 1, k, hk, hall => by
    by_cases h : Dig (t[k]'(by omega))
    · exact lead_from t n (k + 1) (by omega) (fun j hj hs => by
        by_cases e : j = k
        · subst e; exact h
        · exact hall j (by omega) hs)
    · exact ⟨k, by omega, hall, fun _ => h⟩

theorem lead_ex (t : ByteArray) : ∃ m, Lead t m := lead_from t t.size 0 (by omega) (fun j h => by omega)

/-- The digit at place i of the m leading ones; nought behind them. -/
def dg (t : ByteArray) (m i : Nat) : Nat := if h : i < m ∧ i < t.size then (t[i]'h.2).toNat - 48 else 0

theorem dg_in (t : ByteArray) (m i : Nat) (hm : Lead t m) (h : i < m) (hs : i < t.size) : ((dg t m i : Nat) : Int) = (t[i].toNat : Int) - 48 := by
  unfold dg
  rw [dif_pos ⟨h, hs⟩]
  have := hm.2.1 i h hs
  unfold Dig at this
  omega
theorem dg_out (t : ByteArray) (m i : Nat) (h : ¬ i < m) : dg t m i = 0 := by
  unfold dg
  rw [dif_neg (fun h' => h h'.1)]
theorem dg_le (t : ByteArray) (m : Nat) (hm : Lead t m) (i : Nat) : dg t m i ≤ 9 := by
  by_cases h : i < m
  · have hs : i < t.size := by have := hm.1; omega
    have e := dg_in t m i hm h hs
    have := hm.2.1 i h hs
    unfold Dig at this
    omega
  · rw [dg_out t m i h]; omega

/-- The nine digits as bytes. -/
def padL (g : Nat → Nat) : List UInt8 := (List.range 9).map fun j => UInt8.ofNat (48 + g j)
def pad (g : Nat → Nat) : ByteArray := ⟨(padL g).toArray⟩
theorem padL_length (g : Nat → Nat) : (padL g).length = 9 := by simp [padL]
theorem pad_size (g : Nat → Nat) : (pad g).size = 9 := by
  show (padL g).toArray.size = 9
  simp [padL_length]
theorem padL_at (g : Nat → Nat) (h : ∀ i, g i ≤ 9) (i : Nat) (hi : i < (padL g).length) : (padL g)[i].toNat = 48 + g i := by
  have := h i
  simp [padL, UInt8.toNat_ofNat']
  omega
theorem pad_at (g : Nat → Nat) (h : ∀ i, g i ≤ 9) (i : Nat) (hi : i < (pad g).size) : (pad g)[i].toNat = 48 + g i := by
  have e : (pad g)[i] = (padL g)[i]'(by rw [padL_length]; rw [pad_size] at hi; exact hi) := rfl
  rw [e]
  exact padL_at g h i _

end Go.Proofs.Qxb6602167aMods
