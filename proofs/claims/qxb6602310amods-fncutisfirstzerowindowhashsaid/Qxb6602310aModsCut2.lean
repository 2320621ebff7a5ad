import Derived.Test.Qxb6602310aModsCut
namespace Go.Proofs.Qxb6602310aMods
open Go.ChangeShapes Go.WideShapes Go.ChangeAt Go.RowKit
set_option linter.unusedVariables false

theorem Bytes.below {w w' : World} {b n : Nat} {z : Nat → Nat} (h : Bytes w b n z) (hb : b < w.heap.size) (hbel : Below w.heap.size w w') : Bytes w' b n z :=
  ⟨fun i hi => (hbel.cell (by exact hb)).trans (h.1 i hi), h.2⟩
theorem Gear.below {w w' : World} {b : Nat} {G : Nat → Nat} (h : Gear w b G) (hb : b < w.heap.size) (hbel : Below w.heap.size w w') : Gear w' b G :=
  ⟨fun i hi => (hbel.cell (by exact hb)).trans (h.1 i hi), h.2⟩
theorem drewN_below {B : Nat} {w wr : World} (n : Nat) (h : Below B w wr) : Below B w (wr.drewN n) := h.trans ⟨rfl, rfl, rfl, Nat.le_refl _, fun _ _ => rfl⟩

/-- The box that ZZCut makes. -/
def box (lo hi : Int) (bg : Nat) (ab : Option Addr) (nb cb : Nat) : Obj := .cells #[.int .i64 lo, .int .i64 hi, .pointer (some ⟨bg, 0, none⟩), .slice ab nb cb] 34

set_option maxHeartbeats 400000 in
theorem zzcut_short (bg n c nb cb : Nat) (lo hi : Int) (a ab : Option Addr) (w : World) (hle : (n : Int) ≤ lo) :
    Calls Trym.prog 8 #[.int .i64 lo, .int .i64 hi, .pointer (some ⟨bg, 0, none⟩), .slice ab nb cb, .slice a n c] w fun e w' => e = .returned (.int .i64 n) ∧ Below w.heap.size w w' := by
  go_enter Trym.func8, Trym.ntmps8
  go_wp2_with (go_at_call 12; refine (cut_short _ _ _ lo _ _ (by simp) hle).mono ?_; rintro e w' ⟨rfl, rfl⟩)
  go_ret
  exact ⟨rfl, (Below.refl _ _).alloc (Nat.le_refl _) _⟩

set_option maxHeartbeats 400000 in
theorem zzcut_long (bd bg n lo nb cb : Nat) (hi : Int) (ab : Option Addr) (z G : Nat → Nat) (w : World) (hz : Bytes w bd n z) (hG : Gear w bg G) (hbd : bd < w.heap.size) (hbg : bg < w.heap.size)
    (h64 : 64 ≤ lo) (hln : lo < n) (hn : n ≤ 1048576) :
    Calls Trym.prog 8 #[.int .i64 lo, .int .i64 hi, .pointer (some ⟨bg, 0, none⟩), .slice ab nb cb, .slice (some ⟨bd, 0, none⟩) n n] w fun e w' => CutEnd G z lo n e ∧ Below w.heap.size w w' := by
  have hbel : Below w.heap.size w (w.alloc (box lo hi bg ab nb cb)) := (Below.refl _ _).alloc (Nat.le_refl _) _
  have HC : Hid (Calls Trym.prog 12 #[.pointer (some ⟨w.heap.size, 0, none⟩), .slice (some ⟨bd, 0, none⟩) n n] (w.alloc (.cells #[.int .i64 lo, .int .i64 hi, .pointer (some ⟨bg, 0, none⟩), .slice ab nb cb] 34)) fun e w' => CutEnd G z lo n e ∧ ∃ m, w' = (w.alloc (.cells #[.int .i64 lo, .int .i64 hi, .pointer (some ⟨bg, 0, none⟩), .slice ab nb cb] 34)).drewN m) :=
    cut_long w.heap.size bd bg n lo z G _ (hz.below hbd hbel) (hG.below hbg hbel) (by simp) (by simp) h64 hln hn
  clear hz hG hbel
  go_enter Trym.func8, Trym.ntmps8
  go_wp2_with (go_at_call 12; refine (HC.out).mono ?_; rintro e w' ⟨⟨c, rfl, hc⟩, m, rfl⟩)
  go_ret
  exact ⟨⟨c, rfl, hc⟩, drewN_below _ ((Below.refl _ _).alloc (Nat.le_refl _) _)⟩

theorem model_short (bg n c : Nat) (lo : Int) (a : Option Addr) (w : World) (hle : (n : Int) ≤ lo) :
    Calls Trym.prog 9 #[.int .i64 lo, .pointer (some ⟨bg, 0, none⟩), .slice a n c] w fun e w' => e = .returned (.int .i64 n) ∧ Below w.heap.size w w' := by
  go_enter Trym.func9, Trym.ntmps9
  go_wp2
  go_ret
  exact ⟨rfl, Below.refl _ _⟩

set_option maxHeartbeats 400000 in
theorem model_long (bd bg n lo : Nat) (z G : Nat → Nat) (w : World) (hz : Bytes w bd n z) (hG : Gear w bg G)
    (h64 : 64 ≤ lo) (hln : lo < n) (hn : n ≤ 1048576) :
    Calls Trym.prog 9 #[.int .i64 lo, .pointer (some ⟨bg, 0, none⟩), .slice (some ⟨bd, 0, none⟩) n n] w fun e w' => CutEnd G z lo n e ∧ Below w.heap.size w w' := by
  have HZ : Hid (Bytes w bd n z) := hz
  have HG : Hid (Gear w bg G) := hG
  clear hz hG
  have hnl : ¬ ((n : Int) ≤ (lo : Int)) := by omega
  go_enter Trym.func9, Trym.ntmps9
  go_wp2
  go_loopw [8] (fun t wr => ∃ (k : Nat), lo ≤ k ∧ k ≤ n ∧ t = .int .i64 k ∧ Hid (∀ j, lo ≤ j → j < k → tst (gz G z) j = false) ∧ ∃ m, wr = w.drewN m) (fun t _ => n - (intOf t).toNat)
  case atStart => exact ⟨lo, Nat.le_refl _, by omega, rfl, (fun j h1 h2 => by omega), 0, rfl⟩
  case round =>
    obtain ⟨k, hk1, hk2, rfl, HN, m, rfl⟩ := hrel
    by_cases hlt : k < n
    · have hki : (k : Int) < (n : Int) := by omega
      have hk20 : (k : Int) < 1048576 := by omega
      obtain ⟨y, hy⟩ : ∃ y : Nat, y = V (gz G z) k 64 % M64 := ⟨_, rfl⟩
      have HC : Hid (Calls Trym.prog 13 #[.pointer (some ⟨bg, 0, none⟩), .slice (some ⟨bd, 0, none⟩) n n, .int .i64 k] (w.drewN m) fun e w' => e = .returned (.int .u64 y) ∧ ∃ m', w' = (w.drewN m).drewN m') := by
        rw [hy]
        exact win_any bd bg n k z G (w.drewN m) HZ.out HG.out (by omega) hk2 hn
      have HY : Hid (y = V (gz G z) k 64 % M64) := hy
      clear hy
      go_wp2_with fail
      refine (HC.out).mono ?_
      rintro e w' ⟨rfl, m', rfl⟩
      clear HC hk20
      go_wp2_with fail
      · have ht : (bits BinOp.and IntKind.u64 (y : Int) 18446739675663040512 == 0) = true := by assumption
        go_ret
        refine ⟨CutEnd.mk k rfl ⟨hk1, hk2, HN.out, fun _ => ?_⟩, drewN_below _ (Below.refl _ _)⟩
        unfold tst
        rw [← HY.out]
        exact ht
      · have ht : (bits BinOp.and IntKind.u64 (y : Int) 18446739675663040512 == 0) = false := by assumption
        go_roundw
        case rel =>
          refine ⟨k + 1, by omega, by omega, by go_num, ?_, _, rfl⟩
          intro j h1 h2
          by_cases e : j = k
          · subst e
            unfold tst
            rw [← HY.out]
            exact ht
          · exact HN.out j h1 (by omega)
        case measure => simp [intOf]; omega
    · have hki : ¬ (k : Int) < (n : Int) := by omega
      obtain rfl : k = n := by omega
      go_wp2
      go_ret
      exact ⟨CutEnd.mk k rfl ⟨hk1, hk2, HN.out, fun h => by omega⟩, drewN_below _ (Below.refl _ _)⟩

end Go.Proofs.Qxb6602310aMods
