import Derived.Test.Qxb6602310aModsRows
import Derived.WalkKit
import Derived.ProofKit
import Derived.WalkLawsBesides
import Derived.WalkSpells
import Derived.Deep.QuietTactic
import Derived.Deep.OwnRows
import Derived.BigQuiet
import Derived.Outline
import Derived.Test.Qxb6602310aModsPlain
namespace Go.Proofs.Qxb6602310aMods
open Go.ChangeShapes Go.WideShapes Go.ChangeAt Go.RowKit
set_option linter.unusedVariables false

/-- n bytes z at block b; the 256 numbers G at block bg. -/
def Bytes (w : World) (b n : Nat) (z : Nat → Nat) : Prop := (∀ i, i < n → w.cell? ⟨b, i, none⟩ = some (.int .u8 (z i : Nat))) ∧ ∀ i, z i < 256
def Gear (w : World) (bg : Nat) (G : Nat → Nat) : Prop := (∀ i, i < 256 → w.cell? ⟨bg, i, none⟩ = some (.int .u64 (G i : Nat))) ∧ ∀ i, G i < 2 ^ 64

theorem ret_u64 {a b : Nat} (h : a = b) : Ending.returned (.int .u64 (a : Int)) = .returned (.int .u64 (b : Int)) := by rw [h]
theorem ret_i64 {a b : Nat} (h : a = b) : Ending.returned (.int .i64 (a : Int)) = .returned (.int .i64 (b : Int)) := by rw [h]

def gz (G z : Nat → Nat) (i : Nat) : Nat := G (z i)

set_option maxHeartbeats 400000 in
theorem win_any (bd bg n k : Nat) (z G : Nat → Nat) (w : World) (hz : Bytes w bd n z) (hG : Gear w bg G) (hk : 64 ≤ k) (hn : k ≤ n) (hn2 : n ≤ 1048576) :
    Calls Trym.prog 13 #[.pointer (some ⟨bg, 0, none⟩), .slice (some ⟨bd, 0, none⟩) n n, .int .i64 k] w fun e w' => e = .returned (.int .u64 (V (gz G z) k 64 % M64 : Nat)) ∧ ∃ m, w' = w.drewN m := by
  have HZ : Hid (Bytes w bd n z) := hz
  have HG : Hid (Gear w bg G) := hG
  clear hz hG
  go_enter Trym.func13, Trym.ntmps13
  go_wp2
  go_loopw [7, 8] (fun h t wr => ∃ (j x : Nat), j ≤ 64 ∧ t = .int .i64 j ∧ h = .int .u64 x ∧ Hid (x = V (gz G z) k j % M64) ∧ ∃ m, wr = w.drewN m) (fun _ t _ => 64 - (intOf t).toNat)
  case atStart => exact ⟨0, 0, Nat.zero_le _, rfl, rfl, rfl, 0, rfl⟩
  case round =>
    obtain ⟨j, x, hj, rfl, rfl, HX, m, rfl⟩ := hrel
    by_cases hlt : j < 64
    · have hc := HZ.out.1 (k - 1 - j) (by omega)
      have hg := HG.out.1 (z (k - 1 - j)) (HZ.out.2 _)
      have hb := HZ.out.2 (k - 1 - j)
      have hji : (j : Int) < 64 := by omega
      go_wp2
      go_quiet (fail)
      go_wp2
      go_roundw
      case rel =>
        refine ⟨j + 1, V (gz G z) k (j + 1) % M64, by omega, by go_num, ?_, rfl, _, rfl⟩
        have e := step_win (V (gz G z) k j) (G (z (k - 1 - j))) j
        rw [← HX.out] at e
        rw [V_succ]
        exact congrArg (Value.int .u64) e
      case measure => simp [intOf]; omega
    · have hj64 : j = 64 := by omega
      subst hj64
      go_wp2
      go_ret
      exact ⟨ret_u64 HX.out, m, rfl⟩

/-- The test at k. -/
def tst (g : Nat → Nat) (k : Nat) : Bool := (bits BinOp.and IntKind.u64 ((V g k 64 % M64 : Nat) : Int) 18446739675663040512 == 0)
/-- The call has returned the cut. -/
def CutEnd (G z : Nat → Nat) (lo n : Nat) (e : Ending) : Prop := ∃ c : Nat, e = .returned (.int .i64 c) ∧ CutAt (tst (gz G z)) lo n c
theorem CutEnd.mk {G z : Nat → Nat} {lo n : Nat} {i : Int} (c : Nat) (hi : i = (c : Int)) (h : CutAt (tst (gz G z)) lo n c) : CutEnd G z lo n (.returned (.int .i64 i)) := ⟨c, by rw [hi], h⟩

set_option maxHeartbeats 400000 in
theorem cut_short (bc n c : Nat) (lo : Int) (a : Option Addr) (w : World) (hlo : w.cell? ⟨bc, 0, none⟩ = some (.int .i64 lo)) (hle : (n : Int) ≤ lo) :
    Calls Trym.prog 12 #[.pointer (some ⟨bc, 0, none⟩), .slice a n c] w fun e w' => e = .returned (.int .i64 n) ∧ w = w' := by
  go_enter Trym.func12, Trym.ntmps12
  go_wp2
  go_ret
  exact ⟨rfl, rfl⟩

set_option maxHeartbeats 1000000 in
theorem cut_long (bc bd bg n lo : Nat) (z G : Nat → Nat) (w : World) (hz : Bytes w bd n z) (hG : Gear w bg G) (hlo : w.cell? ⟨bc, 0, none⟩ = some (.int .i64 lo)) (hgp : w.cell? ⟨bc, 2, none⟩ = some (.pointer (some ⟨bg, 0, none⟩)))
    (h64 : 64 ≤ lo) (hln : lo < n) (hn : n ≤ 1048576) :
    Calls Trym.prog 12 #[.pointer (some ⟨bc, 0, none⟩), .slice (some ⟨bd, 0, none⟩) n n] w fun e w' => CutEnd G z lo n e ∧ ∃ m, w' = w.drewN m := by
  have HZ : Hid (Bytes w bd n z) := hz
  have HG : Hid (Gear w bg G) := hG
  clear hz hG
  go_enter Trym.func12, Trym.ntmps12
  go_wp2
  go_quiet (fail)
  go_wp2
  go_loop [6, 37] (fun h t => ∃ (j x : Nat), j ≤ 63 ∧ t = .int .i64 j ∧ h = .int .u64 x ∧ Hid (x = R (gz G z) (lo - 64) j % M64)) (fun _ t => 63 - (intOf t).toNat)
  case atStart => exact ⟨0, 0, Nat.zero_le _, rfl, rfl, rfl⟩
  case round =>
    obtain ⟨j, x, hj, rfl, rfl, HX⟩ := hrel
    by_cases hlt : j < 63
    · have hc := HZ.out.1 (lo - 64 + j) (by omega)
      have hg := HG.out.1 (z (lo - 64 + j)) (HZ.out.2 _)
      have hb := HZ.out.2 (lo - 64 + j)
      have hji : (j : Int) < ((lo - 1 - (lo - 64) : Nat) : Int) := by omega
      go_wp2
      go_round
      case rel =>
        refine ⟨j + 1, R (gz G z) (lo - 64) (j + 1) % M64, by omega, by go_num, ?_, rfl⟩
        have e := step_cut (R (gz G z) (lo - 64) j) (G (z (lo - 64 + j)))
        rw [← HX.out] at e
        rw [R_succ]
        exact congrArg (Value.int .u64) e
      case measure => simp [intOf]; omega
    · have hj64 : j = 63 := by omega
      subst hj64
      have hji : ¬ ((63 : Int) < ((lo - 1 - (lo - 64) : Nat) : Int)) := by omega
      obtain ⟨E, hE, hE1, hE2, hE3⟩ : ∃ E : Nat, (if (n : Int) < 1048575 then (n : Int) else 1048575) = (E : Int) ∧ E ≤ n ∧ n ≤ E + 1 ∧ E ≤ 1048575 := by
        by_cases h : (n : Int) < 1048575
        · rw [if_pos h]; exact ⟨n, rfl, by omega, by omega, by omega⟩
        · rw [if_neg h]; exact ⟨1048575, rfl, by omega, by omega, by omega⟩
      go_wp2_with fail
      clear hE hji
      go_loopw [6, 9] (fun h t wr => ∃ (i x : Nat), lo ≤ i + 1 ∧ i ≤ E ∧ t = .int .i64 i ∧ h = .int .u64 x ∧ Hid (x = R (gz G z) (lo - 64) (i - (lo - 64)) % M64) ∧ Hid (∀ k, lo ≤ k → k ≤ i → tst (gz G z) k = false) ∧ ∃ m, wr = w.drewN m) (fun _ t _ => E - (intOf t).toNat)
      case atStart =>
        refine ⟨lo - 1, x, by omega, by omega, by go_num, rfl, ?_, (fun k h1 h2 => by omega), _, rfl⟩
        rw [show lo - 1 - (lo - 64) = 63 from by omega]
        exact HX
      case round =>
        clear HX
        obtain ⟨i, x, hi1, hi2, rfl, rfl, HX, HN, m, rfl⟩ := hrel
        by_cases hlt : i < E
        · have hc := HZ.out.1 i (by omega)
          have hg := HG.out.1 (z i) (HZ.out.2 _)
          have hb := HZ.out.2 i
          have hiE : (i : Int) < (E : Int) := by omega
          obtain ⟨y, hy, HY⟩ : ∃ y : Nat, IntKind.u64.wrap (IntKind.u64.wrap ((x : Int) * 2) + ((G (z i) : Nat) : Int)) = (y : Int) ∧ Hid (y = V (gz G z) (i + 1) 64 % M64 ∧ y = R (gz G z) (lo - 64) (i + 1 - (lo - 64)) % M64) := by
            refine ⟨R (gz G z) (lo - 64) (i + 1 - (lo - 64)) % M64, ?_, R_win (gz G z) (lo - 64) (i + 1 - (lo - 64)) (i + 1) (by omega) (by omega), rfl⟩
            have e := step_cut (R (gz G z) (lo - 64) (i - (lo - 64))) (G (z i))
            rw [← HX.out] at e
            rw [e, show i + 1 - (lo - 64) = i - (lo - 64) + 1 from by omega, R_succ, show lo - 64 + (i - (lo - 64)) = i from by omega]
            rfl
          go_wp2
          go_quiet (fail)
          go_wp2
          · have ht : (bits BinOp.and IntKind.u64 (y : Int) 18446739675663040512 == 0) = true := by assumption
            go_ret
            refine ⟨CutEnd.mk (i + 1) (by omega) ⟨by omega, by omega, fun k h1 h2 => HN.out k h1 (by omega), fun _ => ?_⟩, _, rfl⟩
            unfold tst
            rw [← HY.out.1]
            exact ht
          · have ht : (bits BinOp.and IntKind.u64 (y : Int) 18446739675663040512 == 0) = false := by assumption
            go_roundw
            case rel =>
              refine ⟨i + 1, y, by omega, by omega, by go_num, rfl, HY.out.2, ?_, _, rfl⟩
              intro k h1 h2
              by_cases e : k = i + 1
              · subst e
                unfold tst
                rw [← HY.out.1]
                exact ht
              · exact HN.out k h1 (by omega)
            case measure => simp [intOf]; omega
        · have hiE : ¬ (i : Int) < (E : Int) := by omega
          obtain rfl : i = E := by omega
          have HT : Hid (CutAt (tst (gz G z)) lo n n) := ⟨by omega, by omega, fun k h1 h2 => HN.out k h1 (by omega), fun h => by omega⟩
          clear HX HN
          go_wp2_with fail
          go_loopw [6, 9] (fun h t wr => ∃ (j : Nat) (x : Int), i ≤ j ∧ j ≤ n ∧ t = .int .i64 j ∧ h = .int .u64 x ∧ ∃ m, wr = w.drewN m) (fun _ t _ => n - (intOf t).toNat)
          case atStart => exact ⟨i, _, by omega, by omega, rfl, rfl, _, rfl⟩
          case round =>
            obtain ⟨j, x, hj1, hj2, rfl, rfl, m, rfl⟩ := hrel
            by_cases hlt : j < n
            · have hc := HZ.out.1 j (by omega)
              have hg := HG.out.1 (z j) (HZ.out.2 _)
              have hb := HZ.out.2 j
              have hiE : (j : Int) < (n : Int) := by omega
              go_wp2
              go_quiet (fail)
              go_wp2
              · go_ret
                exact ⟨CutEnd.mk n (by omega) HT.out, _, rfl⟩
              · go_roundw
                case rel => exact ⟨j + 1, _, by omega, by omega, by go_num, rfl, _, rfl⟩
                case measure => simp [intOf]; omega
            · have hiE : ¬ (j : Int) < (n : Int) := by omega
              go_wp2
              go_ret
              exact ⟨CutEnd.mk n rfl HT.out, _, rfl⟩

end Go.Proofs.Qxb6602310aMods
