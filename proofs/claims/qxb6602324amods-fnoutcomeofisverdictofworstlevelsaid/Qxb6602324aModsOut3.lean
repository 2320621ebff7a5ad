import Derived.Test.Qxb6602324aModsOut2
namespace Go.Proofs.Qxb6602324aMods
open Go.ChangeShapes Go.WideShapes Go.ChangeAt Go.RowKit
set_option linter.unusedVariables false

/-- The verdict r on the levels L 0 .. L (n - 1). -/
def Out (L : Nat → Int) (n : Nat) (r : Int) : Prop :=
  ((∃ i, i < n ∧ 4 ≤ L i) ∧ r = 2) ∨ ((∀ i, i < n → L i < 4) ∧ (∃ i, i < n ∧ L i = 3) ∧ r = 1) ∨ ((∀ i, i < n → L i < 3) ∧ r = 0)

theorem Out.unique {L : Nat → Int} {n : Nat} {r q : Int} (h : Out L n r) (h' : Out L n q) : r = q := by
  rcases h with ⟨⟨i, hi, h4⟩, rfl⟩ | ⟨h4, ⟨i, hi, h3⟩, rfl⟩ | ⟨h3, rfl⟩ <;> rcases h' with ⟨⟨j, hj, g4⟩, rfl⟩ | ⟨g4, ⟨j, hj, g3⟩, rfl⟩ | ⟨g3, rfl⟩
  · rfl
  · have := g4 i hi; omega
  · have := g3 i hi; omega
  · have := h4 j hj; omega
  · rfl
  · have := g3 i hi; omega
  · have := h3 j hj; omega
  · have := h3 j hj; omega
  · rfl

def OutEnd (L : Nat → Int) (n : Nat) (e : Ending) : Prop := ∃ r : Int, e = .returned (.int .i64 r) ∧ Out L n r
theorem OutEnd.mk {L : Nat → Int} {n : Nat} (r : Int) (h : Out L n r) : OutEnd L n (.returned (.int .i64 r)) := ⟨r, rfl, h⟩
theorem Out.none (L : Nat → Int) : Out L 0 0 := .inr (.inr ⟨fun i hi => by omega, rfl⟩)

/-- What the loop of OutcomeOf has gathered behind k messages. -/
def Mid (L : Nat → Int) (k : Nat) (r : Int) : Prop := (∀ i, i < k → L i < 4) ∧ (((∃ i, i < k ∧ L i = 3) ∧ r = 1) ∨ ((∀ i, i < k → L i < 3) ∧ r = 0))
theorem Mid.start (L : Nat → Int) : Mid L 0 0 := ⟨fun i hi => by omega, .inr ⟨fun i hi => by omega, rfl⟩⟩
theorem Mid.three {L : Nat → Int} {k : Nat} {r : Int} (h : Mid L k r) (h3 : L k = 3) : Mid L (k + 1) 1 :=
  ⟨fun i hi => by by_cases e : i = k; (subst e; omega); exact h.1 i (by omega), .inl ⟨⟨k, by omega, h3⟩, rfl⟩⟩
theorem Mid.low {L : Nat → Int} {k : Nat} {r : Int} (h : Mid L k r) (h3 : L k < 3) : Mid L (k + 1) r := by
  refine ⟨fun i hi => by by_cases e : i = k; (subst e; omega); exact h.1 i (by omega), ?_⟩
  rcases h.2 with ⟨⟨i, hi, e⟩, hr⟩ | ⟨ha, hr⟩
  · exact .inl ⟨⟨i, by omega, e⟩, hr⟩
  · exact .inr ⟨fun i hi => by by_cases e : i = k; (subst e; omega); exact ha i (by omega), hr⟩
theorem Mid.done {L : Nat → Int} {n : Nat} {r : Int} (h : Mid L n r) : Out L n r := by
  rcases h.2 with ⟨hi, hr⟩ | ⟨ha, hr⟩
  · exact .inr (.inl ⟨h.1, hi, hr⟩)
  · exact .inr (.inr ⟨ha, hr⟩)

theorem outcome_none (w : World) : Calls Trym.prog 8 #[.slice none 0 0] w fun e w' => e = .returned (.int .i64 0) ∧ Below w.heap.size w w' := by
  go_enter Trym.func8, Trym.ntmps8
  go_wp2
  refine wp_loop_rounds 1 ?_
  rw [rounds_succ]
  go_wp2
  go_ret
  exact ⟨rfl, Below.refl _ _⟩

theorem Msgs.below {w w' : World} {b n : Nat} {L : Nat → Int} (h : Msgs w b n L) (hb : b < w.heap.size) (hbel : Below w.heap.size w w') : Msgs w' b n L := fun i hi => by
  obtain ⟨s, t, hr⟩ := h i hi
  exact ⟨s, t, fun j v hj => (hbel.cell (by exact hb)).trans (hr j v hj)⟩

set_option maxHeartbeats 1000000 in
theorem outcome_some (b n : Nat) (L : Nat → Int) (w : World) (hn : n ≤ 65536) (hb : b < w.heap.size) (hm : Msgs w b n L) :
    Calls Trym.prog 8 #[.slice (some ⟨b, 0, none⟩) n n] w fun e w' => OutEnd L n e ∧ Below w.heap.size w w' := by
  have HM : Hid (Msgs w b n L) := hm
  clear hm
  go_enter Trym.func8, Trym.ntmps8
  go_wp2
  go_loopw [3, 8] (fun o i wr => ∃ (k : Nat) (r : Int), k ≤ n ∧ i = .int .i64 k ∧ o = .int .i64 r ∧ Hid (Mid L k r) ∧ Below w.heap.size w wr) (fun _ i _ => n - (intOf i).toNat)
  case atStart => exact ⟨0, 0, Nat.zero_le _, rfl, rfl, Mid.start L, Below.refl _ _⟩
  case round =>
    obtain ⟨k, r, hk, rfl, rfl, HI, hbel⟩ := hrel
    by_cases hlt : k < n
    · obtain ⟨s, t, hr⟩ := (HM.out.below hb hbel) k hlt
      have q0 : wr.cell? ⟨b, k * 4, none⟩ = some (.int .i64 (L k)) := hr 0 _ rfl
      have q1 : wr.cell? ⟨b, k * 4 + 1, none⟩ = some (.string s) := hr 1 _ rfl
      have q2 : wr.cell? ⟨b, k * 4 + 2, none⟩ = some (.string t) := hr 2 _ rfl
      have q3 : wr.cell? ⟨b, k * 4 + 3, none⟩ = some (.map none) := hr 3 _ rfl
      have hki : (k : Int) < (n : Int) := by omega
      clear hr
      have hw := hbel.size
      by_cases h4 : 4 ≤ L k
      · go_wp2
        go_ret
        exact ⟨OutEnd.mk 2 (.inl ⟨⟨k, hlt, h4⟩, rfl⟩), hbel.alloc hw _⟩
      · by_cases h3 : L k < 3
        · have h3' : (L k == 3) = false := by simp; omega
          go_wp2
          go_roundw
          case rel => exact ⟨k + 1, r, by omega, by go_num, rfl, HI.out.low h3, hbel.alloc hw _⟩
          case measure => simp [intOf]; omega
        · have h3e : L k = 3 := by omega
          have H3 : Hid (L k = 3) := h3e
          rw [h3e] at q0
          clear h4 h3 h3e
          go_wp2
          go_roundw
          case rel => exact ⟨k + 1, 1, by omega, by go_num, rfl, HI.out.three H3.out, hbel.alloc hw _⟩
          case measure => simp [intOf]; omega
    · have hki : ¬ (k : Int) < (n : Int) := by omega
      obtain rfl : k = n := by omega
      go_wp2
      go_ret
      exact ⟨OutEnd.mk _ HI.out.done, hbel⟩

theorem worst_zero (a : Option Addr) (c : Nat) (w : World) : Calls Trym.prog 10 #[.slice a 0 c] w fun e w' => e = .returned (.int .i64 0) ∧ w = w' := by
  go_enter Trym.func10, Trym.ntmps10
  go_wp2
  go_ret
  exact ⟨rfl, rfl⟩

/-- The greatest of the first k levels. -/
def Top (L : Nat → Int) (k : Nat) (x : Int) : Prop := (∃ j, j < k ∧ L j = x) ∧ ∀ j, j < k → L j ≤ x
theorem Top.start (L : Nat → Int) : Top L 1 (L 0) := ⟨⟨0, by omega, rfl⟩, fun j hj => by have : j = 0 := by omega
                                                                                         subst this; omega⟩
theorem Top.up {L : Nat → Int} {k : Nat} {x : Int} (h : Top L k x) (hx : x < L k) : Top L (k + 1) (L k) :=
  ⟨⟨k, by omega, rfl⟩, fun j hj => by
    by_cases e : j = k
    · subst e; omega
    · have := h.2 j (by omega); omega⟩
theorem Top.stay {L : Nat → Int} {k : Nat} {x : Int} (h : Top L k x) (hx : ¬ x < L k) : Top L (k + 1) x := by
  obtain ⟨⟨j, hj, e⟩, h2⟩ := h
  exact ⟨⟨j, by omega, e⟩, fun j hj => by
    by_cases e : j = k
    · subst e; omega
    · exact h2 j (by omega)⟩
theorem Top.fail {L : Nat → Int} {n : Nat} {x : Int} (h : Top L n x) (hx : 4 ≤ x) : Out L n 2 := by
  obtain ⟨⟨j, hj, e⟩, h2⟩ := h
  exact .inl ⟨⟨j, hj, by omega⟩, rfl⟩
theorem Top.warn {L : Nat → Int} {n : Nat} {x : Int} (h : Top L n x) (hx : x = 3) : Out L n 1 := by
  obtain ⟨⟨j, hj, e⟩, h2⟩ := h
  exact .inr (.inl ⟨fun i hi => by have := h2 i hi; omega, ⟨j, hj, by omega⟩, rfl⟩)
theorem Top.pass {L : Nat → Int} {n : Nat} {x : Int} (h : Top L n x) (hx : x < 3) : Out L n 0 :=
  .inr (.inr ⟨fun i hi => by have := h.2 i hi; omega, rfl⟩)

set_option maxHeartbeats 1000000 in
theorem worst_row (a : Option Addr) (n c : Nat) (L : Nat → Int) (w : World) (h0 : 0 < n) (hn : n ≤ 65536) (hL : IntSl w a n L) :
    Calls Trym.prog 10 #[.slice a n c] w fun e w' => OutEnd L n e ∧ w = w' := by
  obtain ⟨b, off, rfl, hb, hc0⟩ := hL 0 h0
  have hc : ∀ i, i < n → w.cell? ⟨b, off + i, none⟩ = some (.int .i64 (L i)) := fun i hi => by
    obtain ⟨b', off', he, _, h⟩ := hL i hi
    simp at he
    obtain ⟨rfl, rfl⟩ := he
    exact h
  have HC : Hid (∀ i, i < n → w.cell? ⟨b, off + i, none⟩ = some (.int .i64 (L i))) := hc
  clear hc hL
  simp only [Nat.add_zero] at hc0
  have hne : ((n : Int) == 0) = false := by simp; omega
  have h0i : (0 : Int) < (n : Int) := by omega
  go_enter Trym.func10, Trym.ntmps10
  go_wp2
  clear hc0 hne
  go_loop [3, 4] (fun m i => ∃ (k : Nat) (x : Int), 1 ≤ k ∧ k ≤ n ∧ i = .int .i64 k ∧ m = .int .i64 x ∧ Hid (Top L k x)) (fun _ i => n - (intOf i).toNat)
  case atStart => exact ⟨1, _, by omega, by omega, rfl, rfl, Top.start L⟩
  case round =>
    obtain ⟨k, x, hk1, hk, rfl, rfl, HT⟩ := hrel
    by_cases hlt : k < n
    · have q := HC.out k hlt
      have hki : (k : Int) < (n : Int) := by omega
      by_cases hx : x < L k
      · go_wp2
        go_round
        case rel => exact ⟨k + 1, _, by omega, by omega, by go_num, rfl, HT.out.up hx⟩
        case measure => simp [intOf]; omega
      · go_wp2
        go_round
        case rel => exact ⟨k + 1, _, by omega, by omega, by go_num, rfl, HT.out.stay (by omega)⟩
        case measure => simp [intOf]; omega
    · have hki : ¬ (k : Int) < (n : Int) := by omega
      obtain rfl : k = n := by omega
      by_cases h4 : 4 ≤ x
      · go_wp2
        go_ret
        exact ⟨OutEnd.mk 2 (HT.out.fail h4), rfl⟩
      · by_cases h3 : x < 3
        · have h3' : (x == 3) = false := by simp; omega
          go_wp2
          go_ret
          exact ⟨OutEnd.mk 0 (HT.out.pass h3), rfl⟩
        · obtain rfl : x = 3 := by omega
          go_wp2
          go_ret
          exact ⟨OutEnd.mk 1 (HT.out.warn rfl), rfl⟩

end Go.Proofs.Qxb6602324aMods
