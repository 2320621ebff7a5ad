import Derived.Test.Qxb6602167aModsFrac
namespace Go.Proofs.Qxb6602167aMods
open Go.ChangeShapes Go.WideShapes Go.ChangeAt Go.RowKit
set_option linter.unusedVariables false

set_option maxHeartbeats 400000 in
theorem zzfrac_no (s : ByteArray) (ok : Bool) (w : World) (h : ¬ Dot s) :
    Calls Trym.prog 13 #[.string s, .bool ok] w fun e w' => e = .returned (.tuple #[.string s, .bool ok, .int .i64 0]) ∧ Below w.heap.size w w' := by
  have HD : Hid (¬ Dot s) := h
  clear h
  go_enter Trym.func13, Trym.ntmps13
  go_wp2_with (go_at_call 18; refine (frac_no _ _ _ HD.out).mono ?_; rintro e w' ⟨rfl, rfl⟩)
  go_quiet (fail)
  go_wp2
  go_ret3
  exact ⟨rfl, drewN_below _ ((Below.refl _ _).alloc (Nat.le_refl _) _)⟩

set_option maxHeartbeats 400000 in
theorem zzfrac_yes (s t r : ByteArray) (m : Nat) (ok b : Bool) (w : World) (hd : Dot s) (hs : s.size ≤ 1048576) (ht : s.extract 1 s.size = t) (htz : t.size ≤ 1048576) (hm : Lead t m) (hr : t.extract m t.size = r) (hb : (ok && decide (0 < m)) = b) :
    Calls Trym.prog 13 #[.string s, .bool ok] w fun e w' => e = .returned (.tuple #[.string r, .bool b, .int .i64 (pre (dg t m) 9 : Nat)]) ∧ Below w.heap.size w w' := by
  have hf := frac_yes s t m ok w hd hs ht htz hm
  rw [hr, hb] at hf
  have HF : Hid (Calls Trym.prog 18 #[.pointer (some ⟨w.heap.size, 0, none⟩)] (w.alloc (.cells #[.string s, .bool ok] 36)) fun e w' => e = .returned (.int .i64 (pre (dg t m) 9 : Nat)) ∧ w' = w.alloc (.cells #[.string r, .bool b] 36)) := hf
  clear hf hd hs ht htz hm hr hb
  go_enter Trym.func13, Trym.ntmps13
  go_wp2_with (go_at_call 18; refine (HF.out).mono ?_; rintro e w' ⟨rfl, rfl⟩)
  go_quiet (fail)
  go_wp2
  go_ret3
  exact ⟨rfl, drewN_below _ ((Below.refl _ _).alloc (Nat.le_refl _) _)⟩

theorem zzD_yes (c : Int) (w : World) (h1 : (48 : Int) ≤ c) (h2 : c ≤ 57) : Calls Trym.prog 14 #[.int .u8 c] w fun e w' => e = .returned (.bool true) ∧ w = w' := by
  go_enter Trym.func14, Trym.ntmps14
  go_wp2
  go_ret
  exact ⟨rfl, rfl⟩
theorem zzD_no (c : Int) (w : World) (h : ¬ ((48 : Int) ≤ c ∧ c ≤ 57)) : Calls Trym.prog 14 #[.int .u8 c] w fun e w' => e = .returned (.bool false) ∧ w = w' := by
  by_cases h1 : (48 : Int) ≤ c
  · have h2 : ¬ c ≤ 57 := fun h' => h ⟨h1, h'⟩
    clear h
    go_enter Trym.func14, Trym.ntmps14
    go_wp2
    go_ret
    exact ⟨rfl, rfl⟩
  · clear h
    go_enter Trym.func14, Trym.ntmps14
    go_wp2
    go_ret
    exact ⟨rfl, rfl⟩

theorem bytes12 (s : ByteArray) (ok : Bool) (w : World) (hs : s.size ≤ 1048576) :
    Calls Trym.prog 12 #[.string s, .bool ok] w fun e w' => e = .returned (.bool true) ∧ w = w' := by
  have h : (s.size : Int) ≤ 1048576 := by omega
  go_enter Trym.func12, Trym.ntmps12
  go_wp2
  go_ret
  exact ⟨rfl, rfl⟩
theorem bytes12_no (s : ByteArray) (ok : Bool) (w : World) (hs : ¬ s.size ≤ 1048576) :
    Calls Trym.prog 12 #[.string s, .bool ok] w fun e w' => e = .returned (.bool false) ∧ w = w' := by
  have h : (1048576 : Int) < (s.size : Int) := by omega
  go_enter Trym.func12, Trym.ntmps12
  go_wp2
  go_ret
  exact ⟨rfl, rfl⟩

/-- The nine cells: from place k on the digits stand, ahead of it noughts. -/
def nine (g : Nat → Nat) (k : Nat) : Array Value := ((List.range 9).map fun j => if k ≤ j then Value.int .u8 ((48 + g j : Nat) : Int) else Value.int .u8 0).toArray
theorem nine_at (g : Nat → Nat) (k j : Nat) (h : j < 9) : (nine g k)[j]? = some (if k ≤ j then Value.int .u8 ((48 + g j : Nat) : Int) else Value.int .u8 0) := by
  simp [nine, h]
theorem nine_set (g : Nat → Nat) (k : Nat) (h : k < 9) : (nine g (k + 1)).setIfInBounds k (Value.int .u8 ((48 + g k : Nat) : Int)) = nine g k := by
  apply Array.ext_getElem?
  intro j
  rw [Array.getElem?_setIfInBounds]
  by_cases hj : j < 9
  · rw [nine_at g k j hj]
    by_cases e : k = j
    · subst e
      simp [nine, h]
    · rw [if_neg e, nine_at g (k + 1) j hj]
      by_cases e2 : k ≤ j
      · rw [if_pos e2, if_pos (by omega)]
      · rw [if_neg e2, if_neg (by omega)]
  · have e1 : (nine g k)[j]? = none := by simp [nine]; omega
    have e2 : (nine g (k + 1))[j]? = none := by simp [nine]; omega
    rw [e1, e2]
    rw [if_neg (by omega)]

theorem add_none (b o j : Nat) : (⟨b, o, none⟩ : Addr).add j = ⟨b, o + j, none⟩ := by
  unfold Addr.add
  split
  · simp_all
  · rfl
theorem mk9 (w : World) : Sem.run Trym.prog (Instr.makeSlice 38 (.int .i64 9) (.int .i64 9)) w = .ok (.slice (some ⟨w.heap.size, 0, none⟩) 9 9) (w.alloc (.cells (nine (fun _ => 0) 9) 5)) := by kernel_rfl
theorem nine_start (g : Nat → Nat) : nine (fun _ => 0) 9 = nine g 9 := by
  simp [nine, List.range_succ]

theorem conv_nine (g : Nat → Nat) (h9 : ∀ i, g i ≤ 9) (w : World) :
    Sem.run Trym.prog (convert 38 9 (.slice (some ⟨w.heap.size, 0, none⟩) 9 9)) (w.alloc (.cells (nine g 0) 5)) = .ok (.string (pad g)) (w.alloc (.cells (nine g 0) 5)) := by
  have h := run_convert_bytes_back (P := Trym.prog) (w.alloc (.cells (nine g 0) 5)) 38 9 5 ⟨w.heap.size, 0, none⟩ 9 (padL g) Trym.underlying38 Trym.underlying5 Trym.underlying9 (by
    intro j hj
    have e := padL_at g h9 j hj
    rw [padL_length] at hj
    rw [add_none, World.cell?_alloc_mark, Nat.zero_add, nine_at g 0 j hj, if_pos (Nat.zero_le _), e])
  rw [padL_length] at h
  exact h

set_option maxHeartbeats 400000 in
theorem pad9 (g : Nat → Nat) (h9 : ∀ i, g i ≤ 9) (w : World) :
    Calls Trym.prog 15 #[.int .i64 (pre g 9 : Nat)] w fun e w' => e = .returned (.tuple #[.string (pad g), .bool true]) ∧ Below w.heap.size w w' := by
  have hlt := pre_nine g h9
  obtain ⟨N, hN⟩ : ∃ N, N = pre g 9 := ⟨_, rfl⟩
  rw [← hN] at hlt ⊢
  have HN : Hid (N = pre g 9) := hN
  have H9 : Hid (∀ i, g i ≤ 9) := h9
  have hcv := conv_nine g h9 w
  have hmk := mk9
  rw [nine_start g] at hmk
  clear hN h9
  have hi : ¬ ((N : Int) < 0) := by omega
  have hi2 : ¬ ((1000000000 : Int) ≤ (N : Int)) := by omega
  go_enter Trym.func15, Trym.ntmps15
  go_wp2
  go_loopw [0, 5] (fun n i wr => ∃ (k N : Nat) (I : Int), k ≤ 9 ∧ I + 1 = (k : Int) ∧ i = .int .i64 I ∧ n = .int .i64 N ∧ N < 1000000000 ∧ Hid (N = pre g k) ∧ wr = w.alloc (.cells (nine g k) 5)) (fun _ i _ => (intOf i + 1).toNat)
  case atStart => exact ⟨9, N, 8, by omega, by omega, rfl, rfl, hlt, HN, rfl⟩
  case round =>
    obtain ⟨k, M, I, hk, hI, rfl, rfl, hM, HM, rfl⟩ := hrel
    clear hmk
    cases k with
    | zero =>
      have hI0 : I < 0 := by omega
      clear hlt hi hi2 HN H9 HM hM hI
      go_wp2
      go_ret2
      exact ⟨rfl, (Below.refl _ _).alloc (Nat.le_refl _) _⟩
    | succ k =>
      clear hcv
      obtain rfl : I = (k : Int) := by omega
      have hk9 : k < 9 := by omega
      have hc : (w.alloc (.cells (nine g (k + 1)) 5)).cell? ⟨w.heap.size, k, none⟩ = some (Value.int .u8 0) := by
        rw [World.cell?_alloc_mark, nine_at g (k + 1) k hk9, if_neg (by omega)]
      have hgk := H9.out k
      have HE : Hid ((M : Int) % 10 = (g k : Int) ∧ M / 10 = pre g k) := by
        have e := HM.out
        have e1 := pre_mod g k hgk
        have e2 := pre_div g k hgk
        rw [← e] at e1 e2
        exact ⟨by omega, e2⟩
      have HS : Hid ((nine g (k + 1)).setIfInBounds k (Value.int .u8 ((48 + g k : Nat) : Int)) = nine g k) := nine_set g k hk9
      go_wp2
      have hg := HE.out.1
      rw [hg, show (48 : Int) + (g k : Int) = ((48 + g k : Nat) : Int) from by omega, HS.out]
      go_roundw
      case rel => exact ⟨k, M / 10, (k : Int) - 1, by omega, by omega, rfl, by go_num, by omega, HE.out.2, rfl⟩
      case measure => simp [intOf]

end Go.Proofs.Qxb6602167aMods
