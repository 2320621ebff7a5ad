import Derived.Test.Qxb6602310aModsCut3
namespace Go.Proofs.Qxb6602310aMods
open Go.ChangeShapes Go.WideShapes Go.ChangeAt Go.RowKit
set_option linter.unusedVariables false

/-- The array's 256 numbers. -/
def IsGear (A : Array Value) (G : Nat → Nat) : Prop := (∀ i, i < 256 → A[i]? = some (.int .u64 (G i : Nat))) ∧ ∀ i, G i < 2 ^ 64

set_option maxHeartbeats 400000 in
theorem law_long (A : Array Value) (G : Nat → Nat) (hA : A.size = 256) (hG : IsGear A G) (lo : Nat) (hi : Int) (ab ad : Option Addr) (nb cb nd cd : Nat) (w : World) (h : nb + nd ≤ 1048576) (h64 : 64 ≤ lo) (hlo : lo < nd) (hb : IsBytes w ab nb cb) (hd : IsBytes w ad nd cd) :
    Calls Trym.prog 3 #[.int .i64 lo, .int .i64 hi, .agg A, .slice ab nb cb, .slice ad nd cd] w fun e w' => e = .returned (.bool true) ∧ Below w.heap.size w w' := by
  have HI := size23 A hA
  have H : Hid (nb + nd ≤ 1048576) := h
  have h1 : (nd : Int) ≤ 1048576 := by omega
  have h2 : (nb : Int) ≤ 1048576 := by omega
  have h3 : (nd : Int) + (nb : Int) ≤ 1048576 := by omega
  have h4 : (lo : Int) < (nd : Int) := by omega
  have h5 : ¬ ((lo : Int) < 64) := by omega
  have hb0 : Below w.heap.size w (w.alloc (.cells A 23)) := (Below.refl _ _).alloc (Nat.le_refl _) _
  have hz0 : w.heap.size < (w.alloc (.cells A 23)).heap.size := by simp
  have hG0 : Gear (w.alloc (.cells A 23)) w.heap.size G := ⟨fun i hi => by rw [World.cell?_alloc_at _ _ _ _ rfl]; exact hG.1 i hi, hG.2⟩
  have HB : Hid (IsBytes (w.alloc (.cells A 23)) ab nb cb) := hb.below hb0
  have HD : Hid (IsBytes (w.alloc (.cells A 23)) ad nd cd) := hd.below hb0
  have HZ : Hid (Below w.heap.size w (w.alloc (.cells A 23)) ∧ w.heap.size < (w.alloc (.cells A 23)).heap.size ∧ Gear (w.alloc (.cells A 23)) w.heap.size G) := ⟨hb0, hz0, hG0⟩
  clear hA h hb hd hb0 hz0 hG0 hG
  go_enter Trym.func3, Trym.ntmps3
  go_wp2_with (first | (go_at_call 6; refine (bytes6_yes _ _ _ _ _ _ _ _ _ _ H.out).mono ?_; rintro e w1 ⟨rfl, hb1⟩) | (refine wpList_load_row rfl 23 (.tmp 7) rfl w.heap.size rfl 23 A (0, 0) _ (heap_alloc_new w _) Trym.underlying23 rfl HI.out ?_))
  have HW1 : Hid (Below w.heap.size w w1 ∧ w.heap.size < w1.heap.size ∧ Gear w1 w.heap.size G) :=
    ⟨HZ.out.1.trans (hb1.mono (Nat.le_of_lt HZ.out.2.1)), Nat.lt_of_lt_of_le HZ.out.2.1 hb1.size, HZ.out.2.2.below HZ.out.2.1 hb1⟩
  have HD1 : Hid (IsBytes w1 ad nd cd) := HD.out.below hb1
  have HB1 : Hid (IsBytes w1 ab nb cb) := HB.out.below hb1
  clear HD HB HZ hb1
  refine (clone_any _ _ _ _ (by have := H.out; omega) HD1.out).mono ?_
  rintro e w2 ⟨a2, c2, rfl, hb2, hby⟩
  obtain ⟨bd, z, ha2, hc2, hbd, hbz⟩ := hby (by omega)
  rw [ha2, hc2]
  have HW2 : Hid (Below w.heap.size w w2 ∧ w.heap.size < w2.heap.size ∧ Gear w2 w.heap.size G) :=
    ⟨HW1.out.1.trans (hb2.mono (Nat.le_of_lt HW1.out.2.1)), Nat.lt_of_lt_of_le HW1.out.2.1 hb2.size, HW1.out.2.2.below HW1.out.2.1 hb2⟩
  have HB2 : Hid (IsBytes w2 ab nb cb) := HB1.out.below hb2
  have HY2 : Hid (bd < w2.heap.size ∧ Bytes w2 bd nd z) := ⟨hbd, hbz⟩
  clear HD1 HB1 HW1 hb2 hby ha2 hc2 hbd hbz
  go_wp2_with fail
  refine (clone_any _ _ _ _ (by have := H.out; omega) HB2.out).mono ?_
  rintro e w3 ⟨a3, c3, rfl, hb3, _⟩
  have HW3 : Hid (Below w.heap.size w w3 ∧ w.heap.size < w3.heap.size ∧ Gear w3 w.heap.size G) :=
    ⟨HW2.out.1.trans (hb3.mono (Nat.le_of_lt HW2.out.2.1)), Nat.lt_of_lt_of_le HW2.out.2.1 hb3.size, HW2.out.2.2.below HW2.out.2.1 hb3⟩
  have HY3 : Hid (bd < w3.heap.size ∧ Bytes w3 bd nd z) := ⟨Nat.lt_of_lt_of_le HY2.out.1 hb3.size, HY2.out.2.below HY2.out.1 hb3⟩
  clear HB2 HW2 HY2 hb3
  go_wp2_with fail
  refine (zzcut_long bd w.heap.size nd lo _ _ _ _ z G _ HY3.out.2 HW3.out.2.2 HY3.out.1 HW3.out.2.1 h64 hlo (by have := H.out; omega)).mono ?_
  rintro e w4 ⟨⟨c4, rfl, hc4⟩, hb4⟩
  have HW4 : Hid (Below w.heap.size w w4 ∧ w.heap.size < w4.heap.size ∧ Gear w4 w.heap.size G) :=
    ⟨HW3.out.1.trans (hb4.mono (Nat.le_of_lt HW3.out.2.1)), Nat.lt_of_lt_of_le HW3.out.2.1 hb4.size, HW3.out.2.2.below HW3.out.2.1 hb4⟩
  have HY4 : Hid (bd < w4.heap.size ∧ Bytes w4 bd nd z) := ⟨Nat.lt_of_lt_of_le HY3.out.1 hb4.size, HY3.out.2.below HY3.out.1 hb4⟩
  have HC4 : Hid (CutAt (tst (gz G z)) lo nd c4) := hc4
  clear HW3 HY3 hb4 hc4
  go_wp2_with fail
  refine (model_long bd w.heap.size nd lo z G _ HY4.out.2 HW4.out.2.2 h64 hlo (by have := H.out; omega)).mono ?_
  rintro e w5 ⟨⟨c5, rfl, hc5⟩, hb5⟩
  have HW5 : Hid (Below w.heap.size w w5) := HW4.out.1.trans (hb5.mono (Nat.le_of_lt HW4.out.2.1))
  have HE : c4 = c5 := HC4.out.unique hc5
  clear HW4 HY4 hb5 hc5 HC4
  subst HE
  go_wp2
  go_ret
  exact ⟨by simp, HW5.out⟩

theorem law_any (A : Array Value) (G : Nat → Nat) (hA : A.size = 256) (hG : IsGear A G) (lo hi : Int) (ab ad : Option Addr) (nb cb nd cd : Nat) (w : World) (hb : IsBytes w ab nb cb) (hd : IsBytes w ad nd cd) :
    Calls Trym.prog 3 #[.int .i64 lo, .int .i64 hi, .agg A, .slice ab nb cb, .slice ad nd cd] w fun e w' => e = .returned (.bool true) ∧ Below w.heap.size w w' := by
  by_cases h : nb + nd ≤ 1048576
  · by_cases h1 : (nd : Int) ≤ lo
    · exact law_short A hA lo hi ab ad nb cb nd cd w h h1 hb hd
    · by_cases h2 : lo < 64
      · exact law_low A hA lo hi ab ad nb cb nd cd w h (by omega) h2
      · obtain ⟨l, rfl⟩ : ∃ l : Nat, lo = (l : Int) := ⟨lo.toNat, by omega⟩
        exact law_long A G hA hG l hi ab ad nb cb nd cd w h (by omega) (by omega) hb hd
  · exact law_no A hA lo hi ab ad nb cb nd cd w h

end Go.Proofs.Qxb6602310aMods
