/-
  The walk of FnLevelIsNearestWholeClamped.
-/
import Derived.Test.Qxb6604706aLevel
import Derived.LoopTactic
import Derived.Outline
import Derived.Below
namespace Go.Proofs.Qxb6604706a.Fl
open Ieee Go.RowKit

/-- What the search finds. -/
def Whole (z : Int) : Int := max 0 (min 65535 ((z + X) / ((2 * X : Nat) : Int)))

theorem whole_le (z : Int) (a : Int) (h1 : 1 ≤ a) (h2 : a ≤ 65535) : ((2 * a - 1) * (X : Int) ≤ z) ↔ a ≤ Whole z := by
  have hx := X_pos
  have e : a ≤ (z + X) / ((2 * X : Nat) : Int) ↔ a * ((2 * X : Nat) : Int) ≤ z + X := Int.le_ediv_iff_mul_le (by omega)
  have e2 : a * ((2 * X : Nat) : Int) = (2 * a - 1) * (X : Int) + X := by
    rw [Int.sub_mul, Int.natCast_mul, ← Int.mul_assoc, Int.mul_comm a]
    simp
  unfold Whole
  omega

/-- float64(a) - 1/2 against v. -/
theorem sub_int (v : Nat) (h : Nice (double.read v)) (a : Int) (h0 : 1 ≤ a) (h1 : a ≤ 65535) : ∃ r, (∀ w : World, (binOp .sub 28 (.float .f64 (floatOfInt .f64 a)) (.float .f64 4602678819172646912)).run Try.prog w = .ok (.float .f64 r) w) ∧
    ((a ≤ Whole (V (double.read v)) ∧ (FloatKind.f64.format.order r v = some .lt ∨ FloatKind.f64.format.order r v = some .eq)) ∨ (¬ a ≤ Whole (V (double.read v)) ∧ FloatKind.f64.format.order r v = some .gt)) := by
  obtain ⟨n, rfl⟩ := Int.eq_ofNat_of_zero_le (show 0 ≤ a by omega)
  obtain ⟨r, hr, hn, hV⟩ := sub_whole n (by omega)
  have ho := order_of r v hn h
  rw [hV] at ho
  have hw := whole_le (V (double.read v)) n h0 h1
  refine ⟨r, fun w => run_float_arith (P := Try.prog) w .sub 28 .f64 _ 4602678819172646912 r hr, ?_⟩
  by_cases hle : (n : Int) ≤ Whole (V (double.read v))
  · refine .inl ⟨hle, ?_⟩
    have hle' := hw.2 hle
    rcases Int.lt_or_eq_of_le hle' with hlt | heq
    · exact .inl (by rw [ho, cmp_lt hlt])
    · exact .inr (by rw [ho, cmp_eq heq])
  · refine .inr ⟨hle, ?_⟩
    have : ¬ (2 * (n : Int) - 1) * (X : Int) ≤ V (double.read v) := fun a => hle (hw.1 a)
    rw [ho, cmp_gt (by omega)]

theorem law4_nan (v : Nat) (h : FloatKind.f64.format.order v v ≠ some .eq) (w : World) :
    Calls Try.prog 6 #[.float .f64 v] w fun e w' => e = .returned (.bool true) ∧ w' = w := by
  have h1 : (FloatKind.f64.format.order v v != some .eq) = true := by rw [bne_iff_ne]; exact h
  go_enter Try.func6, Try.ntmps6
  go_wp2
  go_ret
  exact ⟨rfl, rfl⟩

theorem Lev_corner (z : Int) (h : z = C) : (Lev z == 1) = true := by unfold Lev; rw [if_pos h]; rfl
theorem Lev_other (z : Int) (h : z ≠ C) (n : Int) (hn : Whole z = n) : (Lev z == n) = true := by
  unfold Lev; rw [if_neg h, ← hn]; simp [Whole]

theorem ret_true {b : Bool} (h : b = true) : Ending.returned (.bool b) = .returned (.bool true) := by rw [h]

set_option maxHeartbeats 400000 in
theorem law4_nice (v : Nat) (h : Nice (double.read v)) (w : World) :
    Calls Try.prog 6 #[.float .f64 v] w fun e w' => e = .returned (.bool true) ∧ w' = w := by
  have h1 : (FloatKind.f64.format.order v v != some .eq) = false := by rw [order_of v v h h, cmp_eq rfl]; rfl
  have hW : 0 ≤ Whole (V (double.read v)) ∧ Whole (V (double.read v)) ≤ 65535 := by unfold Whole; omega
  have hc : (V (double.read v) = C ∧ FloatKind.f64.format.order v 4602678819172646911 = some .eq) ∨ (V (double.read v) ≠ C ∧ (FloatKind.f64.format.order v 4602678819172646911 == some .eq) = false) := by
    have ho := order_of v wCorner h nice_corner
    rw [V_corner] at ho
    have ho' : FloatKind.f64.format.order v 4602678819172646911 = some (compare (V (double.read v)) (C : Int)) := ho
    rw [ho']
    by_cases hz : V (double.read v) = C
    · exact .inl ⟨hz, by rw [cmp_eq hz]⟩
    · refine .inr ⟨hz, ?_⟩
      by_cases hl : V (double.read v) < C
      · rw [cmp_lt hl]; rfl
      · rw [cmp_gt (by omega)]; rfl
  have HC : Hid ((V (double.read v) = C ∧ FloatKind.f64.format.order v 4602678819172646911 = some .eq) ∨ (V (double.read v) ≠ C ∧ (FloatKind.f64.format.order v 4602678819172646911 == some .eq) = false)) := hc
  clear hc
  obtain ⟨hW1, hW2⟩ := hW
  have hs := sub_int v h
  generalize hN : Whole (V (double.read v)) = N at hW1 hW2 hs
  have HN : Hid (Whole (V (double.read v)) = N) := hN
  clear hN
  have HS : Hid (∀ (a : Int), 1 ≤ a → a ≤ 65535 → ∃ r, (∀ w : World, (binOp .sub 28 (.float .f64 (floatOfInt .f64 a)) (.float .f64 4602678819172646912)).run Try.prog w = .ok (.float .f64 r) w) ∧
    ((a ≤ N ∧ (FloatKind.f64.format.order r v = some .lt ∨ FloatKind.f64.format.order r v = some .eq)) ∨ (¬ a ≤ N ∧ FloatKind.f64.format.order r v = some .gt))) := hs
  clear hs
  go_enter Try.func6, Try.ntmps6
  go_wp2_with (go_at_call 20; refine (zlevel_any v h _).mono ?_; rintro e w' ⟨rfl, rfl⟩)
  go_loop [4, 5] (fun l u => ∃ lo hi : Int, l = .int .u32 lo ∧ u = .int .u32 hi ∧ 0 ≤ lo ∧ lo ≤ N ∧ N ≤ hi ∧ hi ≤ 65535) (fun l u => (intOf u - intOf l).toNat)
  case atStart => exact ⟨0, 65535, rfl, rfl, by omega, by omega, by omega, by omega⟩
  case round =>
    obtain ⟨lo, hi, rfl, rfl, b1, b2, b3, b4⟩ := hrel
    by_cases hlt : lo < hi
    · obtain ⟨r, hr, hcase⟩ := HS.out (lo + (hi - lo + 1) / 2) (by omega) (by omega)
      rcases hcase with ⟨hle, ho | ho⟩ | ⟨hle, ho⟩
      · go_wp2
        go_round
        case rel => exact ⟨_, _, rfl, rfl, by omega, by omega, by omega, by omega⟩
        case measure => simp [intOf]; omega
      · go_wp2
        go_round
        case rel => exact ⟨_, _, rfl, rfl, by omega, by omega, by omega, by omega⟩
        case measure => simp [intOf]; omega
      · go_wp2
        go_round
        case rel => exact ⟨_, _, rfl, rfl, by omega, by omega, by omega, by omega⟩
        case measure => simp [intOf]; omega
    · have hN : N = hi := by omega
      have hl : lo = hi := by omega
      have HN2 : Hid (N = hi) := hN
      clear hN
      subst hl
      rcases HC.out with ⟨hz, ho⟩ | ⟨hz, ho⟩
      · have HZ : Hid (V (double.read v) = C) := hz
        clear hz
        go_wp2
        go_ret
        exact ⟨ret_true (Lev_corner _ HZ.out), rfl⟩
      · have HZ : Hid (V (double.read v) ≠ C) := hz
        clear hz
        go_wp2
        go_ret
        exact ⟨ret_true (Lev_other _ HZ.out _ (by rw [HN.out, HN2.out])), rfl⟩

theorem law4 (v : Nat) (w : World) :
    Calls Try.prog 6 #[.float .f64 v] w fun e w' => e = .returned (.bool true) ∧ w' = w := by
  by_cases h : FloatKind.f64.format.order v v = some .eq
  · refine law4_nice v (read_nice v ?_) w
    intro s t hn
    have : FloatKind.f64.format.order v v = none := by
      show (double.read v).order (double.read v) = none
      rw [hn]; rfl
    rw [this] at h
    cases h
  · exact law4_nan v h w

end Go.Proofs.Qxb6604706a.Fl
