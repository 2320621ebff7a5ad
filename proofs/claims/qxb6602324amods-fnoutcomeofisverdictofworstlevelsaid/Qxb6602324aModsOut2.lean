import Derived.Test.Qxb6602324aModsOut
import Derived.Deep.MidRow
namespace Go.Proofs.Qxb6602324aMods
open Go.ChangeShapes Go.WideShapes Go.ChangeAt Go.RowKit
set_option linter.unusedVariables false

set_option maxHeartbeats 1000000 in
theorem bytes6 (a0 a1 a2 : Option Addr) (n0 c0 n1 c1 n2 c2 : Nat) (w : World) (m1 : n1 ≤ maxLen) (m2 : n2 ≤ maxLen) (s1 : StrSl w a1 n1) (s2 : StrSl w a2 n2) :
    Calls Trym.prog 6 #[.slice a0 n0 c0, .slice a1 n1 c1, .slice a2 n2 c2] w fun e w' => SomeBool e ∧ w = w' := by
  unfold maxLen at m1 m2
  have H1 : Hid (StrSl w a1 n1) := s1
  have H2 : Hid (StrSl w a2 n2) := s2
  clear s1 s2
  go_enter Trym.func6, Trym.ntmps6
  go_wp2
  all_goals first | (go_ret; exact ⟨SomeBool.mk _, rfl⟩) | skip
  go_loop [7, 8] (fun t i => ∃ (k : Nat) (T : Int), k ≤ n1 ∧ i = .int .i64 k ∧ t = .int .i64 T) (fun _ i => n1 - (intOf i).toNat)
  case atStart => exact ⟨0, _, Nat.zero_le _, rfl, rfl⟩
  case round =>
    obtain ⟨k, T, hk, rfl, rfl⟩ := hrel
    by_cases hlt : k < n1
    · obtain ⟨b, off, s, rfl, hb, hc⟩ := H1.out k hlt
      have hki : (k : Int) < (n1 : Int) := by omega
      go_wp2
      · go_ret
        exact ⟨SomeBool.mk _, rfl⟩
      · go_ret
        exact ⟨SomeBool.mk _, rfl⟩
      · go_round
        case rel => exact ⟨k + 1, _, by omega, by go_num, rfl⟩
        case measure => simp [intOf]; omega
    · have hki : ¬ (k : Int) < (n1 : Int) := by omega
      go_wp2
      all_goals first | (go_ret; exact ⟨SomeBool.mk _, rfl⟩) | skip
      go_loop [7, 9] (fun t i => ∃ (j : Nat) (T : Int), j ≤ n2 ∧ i = .int .i64 j ∧ t = .int .i64 T) (fun _ i => n2 - (intOf i).toNat)
      case atStart => exact ⟨0, _, Nat.zero_le _, rfl, rfl⟩
      case round =>
        obtain ⟨j, T, hj, rfl, rfl⟩ := hrel
        by_cases hlt2 : j < n2
        · obtain ⟨b, off, s, rfl, hb, hc⟩ := H2.out j hlt2
          have hki2 : (j : Int) < (n2 : Int) := by omega
          go_wp2
          · go_ret
            exact ⟨SomeBool.mk _, rfl⟩
          · go_ret
            exact ⟨SomeBool.mk _, rfl⟩
          · go_round
            case rel => exact ⟨j + 1, _, by omega, by go_num, rfl⟩
            case measure => simp [intOf]; omega
        · have hki2 : ¬ (j : Int) < (n2 : Int) := by omega
          go_wp2
          go_ret
          exact ⟨SomeBool.mk _, rfl⟩

theorem Trym.info38 : (Trym.prog.info? 38).map (fun i => (i.zero, i.size, i.bytes)) = some (some (.agg #[.int .i64 0, .string ByteArray.empty, .string ByteArray.empty, .map none]), 4, 48) := by kernel_rfl

theorem mk38 (n : Nat) (hn : n ≤ 65536) (w : World) : (Instr.makeSlice 28 (.int .i64 (n : Int)) (.int .i64 (n : Int))).run Trym.prog w = .ok (.slice (some ⟨w.heap.size, 0, none⟩) n n) (w.alloc (.cells (madeCells #[.int .i64 0, .string ByteArray.empty, .string ByteArray.empty, .map none] (n * 4)) 38)) := by
  obtain ⟨i, hi, hz0, hz1, hz2⟩ := info_parts Trym.info38
  have h := run_make (P := Trym.prog) w 28 38 i _ Trym.underlying28 hi hz0 .i64 .i64 (n : Int) (n : Int) (by omega) (by omega) (by rw [hz2]; omega) (by omega)
  rw [hz1] at h
  exact h

theorem msgs_none (a1 a2 : Option Addr) (n1 c1 n2 c2 : Nat) (w : World) :
    Calls Trym.prog 9 #[.slice none 0 0, .slice a1 n1 c1, .slice a2 n2 c2] w fun e w' => e = .returned (.slice none 0 0) ∧ w = w' := by
  have hq := fun w => Lib.run_eql_slice_nil (P := Trym.prog) w 22 3 none 0 0 0 0 Trym.underlying22
  go_enter Trym.func9, Trym.ntmps9
  go_wp2
  go_ret
  exact ⟨rfl, rfl⟩

/-- What the cells g of a row of messages hold: the first k levels; texts; nil maps. -/
def MsgF (g : Nat → Value) (n k : Nat) (L : Nat → Int) : Prop := (∀ i, i < k → g (i * 4) = .int .i64 (L i)) ∧ ∀ i, i < n → (∃ s, g (i * 4 + 1) = .string s) ∧ (∃ t, g (i * 4 + 1 + 1) = .string t) ∧ g (i * 4 + 1 + 1 + 1) = .map none

def zed : Array Value := #[.int .i64 0, .string ByteArray.empty, .string ByteArray.empty, .map none]
theorem zed_1 (i : Nat) : zed[(i * 4 + 1) % zed.size]! = .string ByteArray.empty := by
  rw [show (i * 4 + 1) % zed.size = 1 from by show (i * 4 + 1) % 4 = 1; omega]; rfl
theorem zed_2 (i : Nat) : zed[(i * 4 + 1 + 1) % zed.size]! = .string ByteArray.empty := by
  rw [show (i * 4 + 1 + 1) % zed.size = 2 from by show (i * 4 + 1 + 1) % 4 = 2; omega]; rfl
theorem zed_3 (i : Nat) : zed[(i * 4 + 1 + 1 + 1) % zed.size]! = .map none := by
  rw [show (i * 4 + 1 + 1 + 1) % zed.size = 3 from by show (i * 4 + 1 + 1 + 1) % 4 = 3; omega]; rfl

theorem MsgF.start (n : Nat) (L : Nat → Int) : MsgF (fun j => zed[j % zed.size]!) n 0 L :=
  ⟨fun i hi => by omega, fun i hi => ⟨⟨_, zed_1 i⟩, ⟨_, zed_2 i⟩, zed_3 i⟩⟩

theorem made_row (w : World) (n : Nat) : (w.alloc (.cells (madeCells zed (n * 4)) 38)).rowIs w.heap.size 38 (n * 4) (fun j => zed[j % zed.size]!) := by
  have h := World.rowIs_alloc w (madeCells zed (n * 4)) 38 (fun j => zed[j % zed.size]!) (fun i hi => by
    rw [size_madeCells] at hi
    unfold madeCells
    rw [Array.getElem?_map, Array.getElem?_range]
    simp [hi])
  rw [size_madeCells] at h
  exact h

theorem MsgF.step {g : Nat → Value} {n k : Nat} {L : Nat → Int} (h : MsgF g n k L) (s t : ByteArray) :
    MsgF (fun j => if j = k * 4 + 1 + 1 + 1 then .map none else if j = k * 4 + 1 + 1 then .string t else if j = k * 4 + 1 then .string s else if j = k * 4 then .int .i64 (L k) else g j) n (k + 1) L := by
  obtain ⟨h1, h2⟩ := h
  refine ⟨fun i hi => ?_, fun i hi => ⟨?_, ?_, ?_⟩⟩
  · show (if i * 4 = k * 4 + 1 + 1 + 1 then _ else _) = _
    rw [if_neg (by omega), if_neg (by omega), if_neg (by omega)]
    by_cases e : i = k
    · subst e
      rw [if_pos rfl]
    · rw [if_neg (by omega)]
      exact h1 i (by omega)
  · show ∃ x, (if i * 4 + 1 = k * 4 + 1 + 1 + 1 then _ else _) = _
    rw [if_neg (by omega), if_neg (by omega)]
    by_cases e : i = k
    · subst e
      rw [if_pos rfl]
      exact ⟨s, rfl⟩
    · rw [if_neg (by omega), if_neg (by omega)]
      exact (h2 i hi).1
  · show ∃ x, (if i * 4 + 1 + 1 = k * 4 + 1 + 1 + 1 then _ else _) = _
    rw [if_neg (by omega)]
    by_cases e : i = k
    · subst e
      rw [if_pos rfl]
      exact ⟨t, rfl⟩
    · rw [if_neg (by omega), if_neg (by omega), if_neg (by omega)]
      exact (h2 i hi).2.1
  · show (if i * 4 + 1 + 1 + 1 = k * 4 + 1 + 1 + 1 then _ else _) = _
    by_cases e : i = k
    · subst e
      rw [if_pos rfl]
    · rw [if_neg (by omega), if_neg (by omega), if_neg (by omega), if_neg (by omega)]
      exact (h2 i hi).2.2

/-- The messages lie in block b. -/
def Msgs (w : World) (b n : Nat) (L : Nat → Int) : Prop := ∀ i, i < n → ∃ s t : ByteArray, w.rangeAt b (i * 4) [.int .i64 (L i), .string s, .string t, .map none]
theorem Msgs.of {w : World} {b n : Nat} {L : Nat → Int} {g : Nat → Value} (hr : w.rowIs b 38 (n * 4) g) (h : MsgF g n n L) : Msgs w b n L := by
  intro i hi
  obtain ⟨⟨s, e1⟩, ⟨t, e2⟩, e3⟩ := h.2 i hi
  have e0 := h.1 i hi
  refine ⟨s, t, ?_⟩
  intro j v hj
  match j, hj with
  | 0, hj => simp at hj; subst hj; rw [← e0]; exact hr.cell (by omega)
  | 1, hj => simp at hj; subst hj; rw [← e1]; exact hr.cell (by omega)
  | 2, hj => simp at hj; subst hj; rw [← e2]; exact hr.cell (by omega)
  | 3, hj => simp at hj; subst hj; rw [← e3]; exact hr.cell (by omega)
  | j + 4, hj => simp at hj

theorem row_there {w : World} {b m : Nat} {g : Nat → Value} (hr : w.rowIs b 38 m g) (o : Nat) (h : o + 4 ≤ m) : w.there b o 4 := fun j hj => by
  rw [hr.cell (i := o + j) (by omega)]
  exact ⟨rfl, hr.frozen _⟩
theorem size38 : (Trym.prog.info? 38).map (·.size) = some 4 := by kernel_rfl

theorem row_store {w : World} {b n k : Nat} {g : Nat → Value} (hr : w.rowIs b 38 n g) (v0 v1 v2 v3 : Value) :
    (w.setCells b (k * 4) [v0, v1, v2, v3]).rowIs b 38 n (fun j => if j = k * 4 + 1 + 1 + 1 then v3 else if j = k * 4 + 1 + 1 then v2 else if j = k * 4 + 1 then v1 else if j = k * 4 then v0 else g j) :=
  ((((hr.set _ v0).set _ v1).set _ v2).set _ v3)
theorem below_store {B b o : Nat} {w w' : World} (h : Below B w w') (hb : B ≤ b) (v0 v1 v2 v3 : Value) : Below B w (w'.setCells b o [v0, v1, v2, v3]) :=
  (((h.setCell hb v0).setCell hb v1).setCell hb v2).setCell hb v3

set_option maxHeartbeats 1000000 in
theorem msgs_some (x : Addr) (a1 a2 : Option Addr) (n0 c0 n1 c1 n2 c2 : Nat) (L : Nat → Int) (w : World) (h0 : n0 ≤ 65536) (h1 : n1 ≤ 65536) (h2 : n2 ≤ 65536) (hL : IntSl w (some x) n0 L) (s1 : StrSl w a1 n1) (s2 : StrSl w a2 n2) :
    Calls Trym.prog 9 #[.slice (some x) n0 c0, .slice a1 n1 c1, .slice a2 n2 c2] w fun e w' => e = .returned (.slice (some ⟨w.heap.size, 0, none⟩) n0 n0) ∧ Below w.heap.size w w' ∧ w.heap.size < w'.heap.size ∧ Msgs w' w.heap.size n0 L := by
  have hq := fun w => Lib.run_eql_slice_nil (P := Trym.prog) w 22 3 (some x) n0 c0 0 0 Trym.underlying22
  have hmk : ∀ w : World, (Instr.makeSlice 28 (.int .i64 (n0 : Int)) (.int .i64 (n0 : Int))).run Trym.prog w = .ok (.slice (some ⟨w.heap.size, 0, none⟩) n0 n0) (w.alloc (.cells (madeCells zed (n0 * 4)) 38)) := mk38 n0 h0
  have H0 : Hid (IntSl w (some x) n0 L) := hL
  have H1 : Hid (StrSl w a1 n1) := s1
  have H2 : Hid (StrSl w a2 n2) := s2
  clear hL s1 s2
  go_enter Trym.func9, Trym.ntmps9
  go_wp2
  clear hq hmk
  go_loopw [8] (fun i wr => ∃ (k : Nat) (g : Nat → Value), k ≤ n0 ∧ i = .int .i64 k ∧ wr.rowIs w.heap.size 38 (n0 * 4) g ∧ Hid (MsgF g n0 k L) ∧ Below w.heap.size w wr) (fun i _ => n0 - (intOf i).toNat)
  case atStart => exact ⟨0, _, Nat.zero_le _, rfl, made_row w n0, MsgF.start n0 L, (Below.refl _ _).alloc (Nat.le_refl _) _⟩
  case round =>
    obtain ⟨k, g, hk, rfl, hrow, HM, hbel⟩ := hrel
    by_cases hlt : k < n0
    · have h0' := H0.out.below hbel
      obtain ⟨b, off, hx, hb, hc⟩ := h0' k hlt
      obtain rfl : x = ⟨b, off, none⟩ := by simpa using hx
      have hki : (k : Int) < (n0 : Int) := by omega
      have q0 := hrow.cell (i := k * 4) (by omega)
      have q1 := hrow.cell (i := k * 4 + 1) (by omega)
      have q2 := hrow.cell (i := k * 4 + 2) (by omega)
      have q3 := hrow.cell (i := k * 4 + 3) (by omega)
      have f0 := hrow.frozen (k * 4)
      have f1 := hrow.frozen (k * 4 + 1)
      have f2 := hrow.frozen (k * 4 + 2)
      have f3 := hrow.frozen (k * 4 + 3)
      have hn := Nat.le_refl w.heap.size
      clear hx h0'
      by_cases hl1 : k < n1
      · have hl1i : (k : Int) < (n1 : Int) := by omega
        obtain ⟨b1, off1, t1, rfl, hb1, hc1⟩ := (H1.out.below hbel) k hl1
        by_cases hl2 : k < n2
        · have hl2i : (k : Int) < (n2 : Int) := by omega
          obtain ⟨b2, off2, t2, rfl, hb2, hc2⟩ := (H2.out.below hbel) k hl2
          go_wp2
          go_roundw
          case rel => exact ⟨k + 1, _, by omega, by go_num, row_store hrow _ _ _ _, HM.out.step t1 t2, below_store hbel hn _ _ _ _⟩
          case measure => simp [intOf]; omega
        · have hl2i : ¬ (k : Int) < (n2 : Int) := by omega
          go_wp2
          go_roundw
          case rel => exact ⟨k + 1, _, by omega, by go_num, row_store hrow _ _ _ _, HM.out.step t1 ⟨#[]⟩, below_store hbel hn _ _ _ _⟩
          case measure => simp [intOf]; omega
      · have hl1i : ¬ (k : Int) < (n1 : Int) := by omega
        by_cases hl2 : k < n2
        · have hl2i : (k : Int) < (n2 : Int) := by omega
          obtain ⟨b2, off2, t2, rfl, hb2, hc2⟩ := (H2.out.below hbel) k hl2
          go_wp2
          go_roundw
          case rel => exact ⟨k + 1, _, by omega, by go_num, row_store hrow _ _ _ _, HM.out.step ⟨#[]⟩ t2, below_store hbel hn _ _ _ _⟩
          case measure => simp [intOf]; omega
        · have hl2i : ¬ (k : Int) < (n2 : Int) := by omega
          go_wp2
          go_roundw
          case rel => exact ⟨k + 1, _, by omega, by go_num, row_store hrow _ _ _ _, HM.out.step ⟨#[]⟩ ⟨#[]⟩, below_store hbel hn _ _ _ _⟩
          case measure => simp [intOf]; omega
    · have hki : ¬ (k : Int) < (n0 : Int) := by omega
      obtain rfl : k = n0 := by omega
      go_wp2
      go_ret
      exact ⟨rfl, hbel, hrow.lt, Msgs.of hrow HM.out⟩

end Go.Proofs.Qxb6602324aMods
