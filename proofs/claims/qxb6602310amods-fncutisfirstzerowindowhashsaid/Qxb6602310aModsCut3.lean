import Derived.Test.Qxb6602310aModsCut2
namespace Go.Proofs.Qxb6602310aMods
open Go.ChangeShapes Go.WideShapes Go.ChangeAt Go.RowKit
set_option linter.unusedVariables false

theorem Trym.info5 : (Trym.prog.info? 5).map (fun i => (i.zero, i.size, i.bytes)) = some (some (.int .u8 0), 1, 1) := by kernel_rfl

theorem bytes6_yes (A : Array Value) (lo hi : Int) (ab ad : Option Addr) (nb cb nd cd : Nat) (w : World) (h : nb + nd ≤ 1048576) :
    Calls Trym.prog 6 #[.int .i64 lo, .int .i64 hi, .agg A, .slice ab nb cb, .slice ad nd cd] w fun e w' => e = .returned (.bool true) ∧ Below w.heap.size w w' := by
  have h1 : (nb : Int) ≤ 1048576 := by omega
  have h2 : (nd : Int) ≤ 1048576 := by omega
  have h3 : (nb : Int) + (nd : Int) ≤ 1048576 := by omega
  clear h
  go_enter Trym.func6, Trym.ntmps6
  go_wp2
  go_ret
  exact ⟨rfl, (Below.refl _ _).alloc (Nat.le_refl _) _⟩
theorem bytes6_no (A : Array Value) (lo hi : Int) (ab ad : Option Addr) (nb cb nd cd : Nat) (w : World) (h : ¬ nb + nd ≤ 1048576) :
    Calls Trym.prog 6 #[.int .i64 lo, .int .i64 hi, .agg A, .slice ab nb cb, .slice ad nd cd] w fun e w' => e = .returned (.bool false) ∧ Below w.heap.size w w' := by
  by_cases h1 : (nb : Int) ≤ 1048576
  · by_cases h2 : (nd : Int) ≤ 1048576
    · have h3 : ¬ (nb : Int) + (nd : Int) ≤ 1048576 := by omega
      clear h
      go_enter Trym.func6, Trym.ntmps6
      go_wp2
      go_ret
      exact ⟨rfl, (Below.refl _ _).alloc (Nat.le_refl _) _⟩
    · clear h
      go_enter Trym.func6, Trym.ntmps6
      go_wp2
      go_ret
      exact ⟨rfl, (Below.refl _ _).alloc (Nat.le_refl _) _⟩
  · clear h
    go_enter Trym.func6, Trym.ntmps6
    go_wp2
    go_ret
    exact ⟨rfl, (Below.refl _ _).alloc (Nat.le_refl _) _⟩

theorem clone_none (w : World) :
    Calls Trym.prog 7 #[.slice none 0 0] w fun e w' => e = .returned (.slice none 0 0) ∧ w = w' := by
  have hq := fun w => Lib.run_eql_slice_nil (P := Trym.prog) w 24 5 none 0 0 0 0 Trym.underlying24
  go_enter Trym.func7, Trym.ntmps7
  go_wp2
  go_ret
  exact ⟨rfl, rfl⟩

theorem clone_zero (a : Addr) (c : Nat) (w : World) :
    Calls Trym.prog 7 #[.slice (some a) 0 c] w fun e w' => e = .returned (.slice (some ⟨w.heap.size, 0, none⟩) 0 0) ∧ Below w.heap.size w w' := by
  have hq := fun w => Lib.run_eql_slice_nil (P := Trym.prog) w 24 5 (some a) 0 c 0 0 Trym.underlying24
  have hmk : ∀ w : World, (Instr.makeSlice 24 (.int .i64 0) (.int .i64 0)).run Trym.prog w = .ok (.slice (some ⟨w.heap.size, 0, none⟩) 0 0) (w.alloc (.cells (madeCells #[.int .u8 0] 0) 5)) := run_make_row' (P := Trym.prog) 24 5 (.int .u8 0) 1 Trym.underlying24 Trym.info5 rfl .i64 .i64 0 (by omega) (by omega)
  go_enter Trym.func7, Trym.ntmps7
  go_wp2
  refine wp_loop_rounds 1 ?_
  rw [rounds_succ]
  go_wp2
  go_ret
  exact ⟨rfl, (Below.refl _ _).alloc (Nat.le_refl _) _⟩

/-- The slice's bytes as they came in. -/
def ByteRow (w : World) (b off n : Nat) (z : Nat → Nat) : Prop := b < w.heap.size ∧ (∀ i, i < n → w.cell? ⟨b, off + i, none⟩ = some (.int .u8 (z i : Nat))) ∧ ∀ i, z i < 256

set_option maxHeartbeats 400000 in
theorem clone_row (b off n c : Nat) (z : Nat → Nat) (w : World) (hn : n ≤ 1048576) (hr : ByteRow w b off n z) :
    Calls Trym.prog 7 #[.slice (some ⟨b, off, none⟩) n c] w fun e w' => e = .returned (.slice (some ⟨w.heap.size, 0, none⟩) n n) ∧ Below w.heap.size w w' ∧ w.heap.size < w'.heap.size ∧ Bytes w' w.heap.size n z := by
  have hq := fun w => Lib.run_eql_slice_nil (P := Trym.prog) w 24 5 (some ⟨b, off, none⟩) n c 0 0 Trym.underlying24
  have hmk := run_make_row' (P := Trym.prog) 24 5 (.int .u8 0) 1 Trym.underlying24 Trym.info5 rfl .i64 .i64 n (by omega) (by omega)
  have hi : (n : Int) ≤ 1048576 := by omega
  obtain ⟨hb, hcell, h256⟩ := hr
  have HC : Hid (∀ i, i < n → w.cell? ⟨b, off + i, none⟩ = some (.int .u8 (z i : Nat))) := hcell
  have H8 : Hid (∀ i, z i < 256) := h256
  clear hcell h256
  go_enter Trym.func7, Trym.ntmps7
  go_wp2
  clear hq hmk
  go_loopw [4] (fun i wr => ∃ (k : Nat) (g : Nat → Value), k ≤ n ∧ i = .int .i64 k ∧ wr.rowIs w.heap.size 5 n g ∧ Hid (∀ j, j < k → g j = .int .u8 (z j : Nat)) ∧ Below w.heap.size w wr) (fun i _ => n - (intOf i).toNat)
  case atStart => exact ⟨0, _, Nat.zero_le _, rfl, World.rowIs_made _ _ _ _, (fun j h => by omega), (Below.refl _ _).alloc (Nat.le_refl _) _⟩
  case round =>
    obtain ⟨k, g, hk, rfl, hrow, HG, hbel⟩ := hrel
    by_cases hlt : k < n
    · have hc : wr.cell? ⟨b, off + k, none⟩ = some (.int .u8 (z k : Nat)) := (hbel.cell (by exact hb)).trans (HC.out k hlt)
      have hc2 := hrow.cell hlt
      have hf2 := hrow.frozen k
      have hki : (k : Int) < (n : Int) := by omega
      go_wp2
      go_roundw
      case rel =>
        refine ⟨k + 1, _, by omega, by go_num, hrow.set k _, ?_, hbel.setCell (Nat.le_refl _) _⟩
        intro j hj
        by_cases e : j = k
        · subst e
          simp
        · simp [e]
          exact HG.out j (by omega)
      case measure => simp [intOf]; omega
    · obtain rfl : k = n := by omega
      go_wp2
      go_ret
      exact ⟨rfl, hbel, hrow.lt, fun i hi => by rw [hrow.cell hi, HG.out i hi], H8.out⟩

theorem size23 (A : Array Value) (hA : A.size = 256) : Hid ((Trym.prog.info? 23).map (·.size) = some A.size) := by
  have h : (Trym.prog.info? 23).map (·.size) = some 256 := by kernel_rfl
  rw [hA]
  exact h

/-- What is known of a slice of bytes that came in. -/
def IsBytes (w : World) (a : Option Addr) (n c : Nat) : Prop := (a = none ∧ n = 0 ∧ c = 0) ∨ (∃ x, a = some x ∧ n = 0) ∨ ∃ b off z, a = some ⟨b, off, none⟩ ∧ 0 < n ∧ ByteRow w b off n z
theorem IsBytes.below {w w' : World} {a : Option Addr} {n c : Nat} (h : IsBytes w a n c) (hb : Below w.heap.size w w') : IsBytes w' a n c := by
  rcases h with h | h | ⟨b, off, z, ha, h0, h1, h2, h3⟩
  · exact .inl h
  · exact .inr (.inl h)
  · exact .inr (.inr ⟨b, off, z, ha, h0, Nat.lt_of_lt_of_le h1 hb.size, fun i hi => (hb.cell (by exact h1)).trans (h2 i hi), h3⟩)

/-- What a clone leaves. -/
def CloneEnd (w w' : World) (n : Nat) (e : Ending) : Prop := ∃ a c, e = .returned (.slice a n c) ∧ Below w.heap.size w w' ∧ (0 < n → ∃ bd z, a = some ⟨bd, 0, none⟩ ∧ c = n ∧ bd < w'.heap.size ∧ Bytes w' bd n z)

theorem clone_any (a : Option Addr) (n c : Nat) (w : World) (hn : n ≤ 1048576) (h : IsBytes w a n c) :
    Calls Trym.prog 7 #[.slice a n c] w fun e w' => CloneEnd w w' n e := by
  rcases h with ⟨rfl, rfl, rfl⟩ | ⟨x, rfl, rfl⟩ | ⟨b, off, z, rfl, h0, hr⟩
  · refine (clone_none w).mono ?_
    rintro e w' ⟨rfl, rfl⟩
    exact ⟨_, _, rfl, Below.refl _ _, fun h => by omega⟩
  · refine (clone_zero x c w).mono ?_
    rintro e w' ⟨rfl, hb⟩
    exact ⟨_, _, rfl, hb, fun h => by omega⟩
  · refine (clone_row b off n c z w hn hr).mono ?_
    rintro e w' ⟨rfl, hb, hlt, hby⟩
    exact ⟨_, _, rfl, hb, fun _ => ⟨_, z, rfl, rfl, hlt, hby⟩⟩

set_option maxHeartbeats 400000 in
theorem law_no (A : Array Value) (hA : A.size = 256) (lo hi : Int) (ab ad : Option Addr) (nb cb nd cd : Nat) (w : World) (h : ¬ nb + nd ≤ 1048576) :
    Calls Trym.prog 3 #[.int .i64 lo, .int .i64 hi, .agg A, .slice ab nb cb, .slice ad nd cd] w fun e w' => e = .returned (.bool true) ∧ Below w.heap.size w w' := by
  have HI := size23 A hA
  have H : Hid (¬ nb + nd ≤ 1048576) := h
  clear hA h
  go_enter Trym.func3, Trym.ntmps3
  go_wp2_with (first | (go_at_call 6; refine (bytes6_no _ _ _ _ _ _ _ _ _ _ H.out).mono ?_; rintro e w1 ⟨rfl, hb1⟩) | (refine wpList_load_row rfl 23 (.tmp 7) rfl w.heap.size rfl 23 A (0, 0) _ (heap_alloc_new w _) Trym.underlying23 rfl HI.out ?_))
  go_ret
  exact ⟨rfl, ((Below.refl _ _).alloc (Nat.le_refl _) _).trans (hb1.mono (by simp))⟩

set_option maxHeartbeats 400000 in
theorem law_low (A : Array Value) (hA : A.size = 256) (lo hi : Int) (ab ad : Option Addr) (nb cb nd cd : Nat) (w : World) (h : nb + nd ≤ 1048576) (hlo : lo < (nd : Int)) (h64 : lo < 64) :
    Calls Trym.prog 3 #[.int .i64 lo, .int .i64 hi, .agg A, .slice ab nb cb, .slice ad nd cd] w fun e w' => e = .returned (.bool true) ∧ Below w.heap.size w w' := by
  have HI := size23 A hA
  have H : Hid (nb + nd ≤ 1048576) := h
  have h1 : (nd : Int) ≤ 1048576 := by omega
  have h2 : (nb : Int) ≤ 1048576 := by omega
  have h3 : (nd : Int) + (nb : Int) ≤ 1048576 := by omega
  clear hA h
  go_enter Trym.func3, Trym.ntmps3
  go_wp2_with (first | (go_at_call 6; refine (bytes6_yes _ _ _ _ _ _ _ _ _ _ H.out).mono ?_; rintro e w1 ⟨rfl, hb1⟩) | (refine wpList_load_row rfl 23 (.tmp 7) rfl w.heap.size rfl 23 A (0, 0) _ (heap_alloc_new w _) Trym.underlying23 rfl HI.out ?_))
  go_ret
  exact ⟨rfl, ((Below.refl _ _).alloc (Nat.le_refl _) _).trans (hb1.mono (by simp))⟩

set_option maxHeartbeats 400000 in
theorem law_short (A : Array Value) (hA : A.size = 256) (lo hi : Int) (ab ad : Option Addr) (nb cb nd cd : Nat) (w : World) (h : nb + nd ≤ 1048576) (hlo : (nd : Int) ≤ lo) (hb : IsBytes w ab nb cb) (hd : IsBytes w ad nd cd) :
    Calls Trym.prog 3 #[.int .i64 lo, .int .i64 hi, .agg A, .slice ab nb cb, .slice ad nd cd] w fun e w' => e = .returned (.bool true) ∧ Below w.heap.size w w' := by
  have HI := size23 A hA
  have H : Hid (nb + nd ≤ 1048576) := h
  have h1 : (nd : Int) ≤ 1048576 := by omega
  have h2 : (nb : Int) ≤ 1048576 := by omega
  have h3 : (nd : Int) + (nb : Int) ≤ 1048576 := by omega
  have hb0 : Below w.heap.size w (w.alloc (.cells A 23)) := (Below.refl _ _).alloc (Nat.le_refl _) _
  have hz0 : w.heap.size ≤ (w.alloc (.cells A 23)).heap.size := hb0.size
  have HB : Hid (IsBytes (w.alloc (.cells A 23)) ab nb cb) := hb.below hb0
  have HD : Hid (IsBytes (w.alloc (.cells A 23)) ad nd cd) := hd.below hb0
  have HZ : Hid (Below w.heap.size w (w.alloc (.cells A 23)) ∧ w.heap.size ≤ (w.alloc (.cells A 23)).heap.size) := ⟨hb0, hz0⟩
  clear hA h hb hd hb0 hz0
  go_enter Trym.func3, Trym.ntmps3
  go_wp2_with (first | (go_at_call 6; refine (bytes6_yes _ _ _ _ _ _ _ _ _ _ H.out).mono ?_; rintro e w1 ⟨rfl, hb1⟩) | (refine wpList_load_row rfl 23 (.tmp 7) rfl w.heap.size rfl 23 A (0, 0) _ (heap_alloc_new w _) Trym.underlying23 rfl HI.out ?_))
  have HW1 : Hid (Below w.heap.size w w1) := HZ.out.1.trans (hb1.mono HZ.out.2)
  have HD1 : Hid (IsBytes w1 ad nd cd) := HD.out.below hb1
  have HB1 : Hid (IsBytes w1 ab nb cb) := HB.out.below hb1
  clear HD HB HZ hb1
  refine (clone_any _ _ _ _ (by have := H.out; omega) HD1.out).mono ?_
  rintro e w2 ⟨a2, c2, rfl, hb2, _⟩
  have HW2 : Hid (Below w.heap.size w w2) := HW1.out.trans (hb2.mono HW1.out.size)
  have HB2 : Hid (IsBytes w2 ab nb cb) := HB1.out.below hb2
  clear HD1 HB1 HW1 hb2
  go_wp2_with fail
  refine (clone_any _ _ _ _ (by have := H.out; omega) HB2.out).mono ?_
  rintro e w3 ⟨a3, c3, rfl, hb3, _⟩
  have HW3 : Hid (Below w.heap.size w w3) := HW2.out.trans (hb3.mono HW2.out.size)
  clear HB2 HW2 hb3
  go_wp2_with fail
  refine (zzcut_short _ _ _ _ _ _ _ _ _ _ hlo).mono ?_
  rintro e w4 ⟨rfl, hb4⟩
  have HW4 : Hid (Below w.heap.size w w4) := HW3.out.trans (hb4.mono HW3.out.size)
  clear HW3 hb4
  go_wp2_with fail
  refine (model_short _ _ _ _ _ _ hlo).mono ?_
  rintro e w5 ⟨rfl, hb5⟩
  have HW5 : Hid (Below w.heap.size w w5) := HW4.out.trans (hb5.mono HW4.out.size)
  clear HW4 hb5
  go_wp2
  go_ret
  exact ⟨by simp, HW5.out⟩

end Go.Proofs.Qxb6602310aMods
