/-
  The walks of raster.level and of ZZlevel: what they give, as the plain function Lev of what the word stands for.
-/
import Derived.Test.Qxb6604706aRows
import Derived.Test.Qxb6604706aFloat
import Derived.WalkKit
import Derived.WalkSpells
import Derived.WalkLawsBesides
import Derived.Laws.FloatArith
namespace Go.Proofs.Qxb6604706a.Fl
open Ieee Go.RowKit

def w65535 : Nat := 4679239875398991872
def wCorner : Nat := 4602678819172646911
theorem read_zero : double.read 0 = .number false 0 (-1074) := by rfl
theorem read_65535 : double.read w65535 = .number false (65535 * 2 ^ 37) (-37) := by decide
theorem read_corner : double.read wCorner = .number false (2 ^ 53 - 1) (-54) := by decide
theorem nice_zero : Nice (double.read 0) := by rw [read_zero]; exact ⟨by omega, by omega, by omega, by omega⟩
theorem nice_65535 : Nice (double.read w65535) := by rw [read_65535]; exact ⟨by omega, by omega, by omega, by omega⟩
theorem nice_corner : Nice (double.read wCorner) := by rw [read_corner]; exact ⟨by omega, by omega, by omega, by omega⟩
theorem V_zero : V (double.read 0) = 0 := by rw [read_zero]; rfl
theorem V_65535 : V (double.read w65535) = 65535 * ((2 * X : Nat) : Int) := by
  rw [read_65535]
  simp only [V]
  rw [sp, tn 1037 _ (by decide), two_X, pw_split (c := 1074) 37 1037 (by decide)]
  omega
theorem V_corner : V (double.read wCorner) = (C : Int) := by
  rw [read_corner]
  simp only [V]
  rw [sp, tn 1020 _ (by decide)]
  rfl

theorem order_of (a b : Nat) (ha : Nice (double.read a)) (hb : Nice (double.read b)) : FloatKind.f64.format.order a b = some (compare (V (double.read a)) (V (double.read b))) := order_V _ _ ha hb

theorem cmp_eq {x y : Int} (h : x = y) : compare x y = .eq := by subst h; simp [compare, compareOfLessAndEq]

/-- max(v, 0). -/
theorem run_max0 (v : Nat) (h : Nice (double.read v)) : ∃ x, (∀ (P : Program) (w : World) (ats : Array TypeId) (ty : TypeId), (Builtin.max_ ats ty #[.float .f64 v, .float .f64 0]).run P w = .ok (.float .f64 x) w) ∧
    Nice (double.read x) ∧ (double.read x).neg = false ∧ V (double.read x) = max 0 (V (double.read v)) := by
  have ho := order_of v 0 h nice_zero
  rw [V_zero] at ho
  by_cases h1 : V (double.read v) < 0
  · refine ⟨0, ?_, nice_zero, by rw [read_zero]; rfl, by rw [V_zero]; omega⟩
    intro P w ats ty
    rw [cmp_lt h1] at ho
    simp [Builtin.max_, Builtin.max2, ho]
  · by_cases h2 : 0 < V (double.read v)
    · refine ⟨v, ?_, h, ?_, by omega⟩
      · intro P w ats ty
        rw [cmp_gt h2] at ho
        simp [Builtin.max_, Builtin.max2, ho]
      · generalize double.read v = d at h h2
        cases d with
        | nan => exact h.elim
        | infinity s => cases s with
          | false => rfl
          | true => simp only [V] at h2; have := big_pos; simp at h2; omega
        | number s m i => cases s with
          | false => rfl
          | true => simp only [V] at h2; rw [sn] at h2; omega
    · have h3 : V (double.read v) = 0 := by omega
      rw [cmp_eq h3] at ho
      cases hn : (double.read v).neg with
      | true =>
        refine ⟨0, ?_, nice_zero, by rw [read_zero]; rfl, by rw [V_zero]; omega⟩
        intro P w ats ty
        have hn' : (FloatKind.f64.decode v).neg = true := hn
        simp [Builtin.max_, Builtin.max2, ho, hn']
      | false =>
        refine ⟨v, ?_, h, hn, by omega⟩
        intro P w ats ty
        have hn' : (FloatKind.f64.decode v).neg = false := hn
        simp [Builtin.max_, Builtin.max2, ho, hn']

/-- min(x, 65535), x not negative. -/
theorem run_min (x : Nat) (h : Nice (double.read x)) (hs : (double.read x).neg = false) : ∃ y, (∀ (P : Program) (w : World) (ats : Array TypeId) (ty : TypeId), (Builtin.min_ ats ty #[.float .f64 x, .float .f64 4679239875398991872]).run P w = .ok (.float .f64 y) w) ∧
    (∃ m i, double.read y = .number false m i ∧ Nice (.number false m i)) ∧ V (double.read y) = min (65535 * ((2 * X : Nat) : Int)) (V (double.read x)) := by
  have ho := order_of x w65535 h nice_65535
  have hw : w65535 = 4679239875398991872 := rfl
  rw [V_65535] at ho
  have fin : (V (double.read x) ≤ 65535 * ((2 * X : Nat) : Int)) → ∃ m i, double.read x = .number false m i ∧ Nice (.number false m i) := by
    intro hle
    have h0 := h
    generalize double.read x = d at h h0 hle hs
    cases d with
    | nan => exact h.elim
    | infinity s =>
      cases s with
      | false =>
        have e1 : 65535 * (2 * X) < big := by
          have a1 := two_X
          have a2 : big = 2 ^ 17 * pw 2983 := pw_split 17 2983 (by decide)
          have a3 : pw 1074 ≤ pw 2983 := pw_le (by decide)
          have a4 := pw_pos 1074
          omega
        simp only [V] at hle
        simp at hle
        omega
      | true => cases hs
    | number s m i =>
      cases s with
      | false => exact ⟨m, i, rfl, h0⟩
      | true => cases hs
  have fin2 : ∃ m i, double.read w65535 = .number false m i ∧ Nice (.number false m i) := ⟨_, _, read_65535, by have := nice_65535; rw [read_65535] at this; exact this⟩
  rw [← hw]
  by_cases h1 : V (double.read x) < 65535 * ((2 * X : Nat) : Int)
  · refine ⟨x, ?_, fin (by omega), by omega⟩
    intro P w ats ty
    rw [cmp_lt h1] at ho
    simp [Builtin.min_, Builtin.min2, ho]
  · by_cases h2 : 65535 * ((2 * X : Nat) : Int) < V (double.read x)
    · refine ⟨w65535, ?_, fin2, by rw [V_65535]; omega⟩
      intro P w ats ty
      rw [cmp_gt h2] at ho
      simp [Builtin.min_, Builtin.min2, ho]
    · have h3 : V (double.read x) = 65535 * ((2 * X : Nat) : Int) := by omega
      rw [cmp_eq h3] at ho
      refine ⟨w65535, ?_, fin2, by rw [V_65535]; omega⟩
      intro P w ats ty
      have hn' : (FloatKind.f64.decode x).neg = false := hs
      simp [Builtin.min_, Builtin.min2, ho, hn']

theorem Lev_range (z : Int) : 0 ≤ Lev z ∧ Lev z ≤ 65535 := by
  unfold Lev
  split <;> omega

theorem Lev_clamp (z : Int) : Lev (min (65535 * ((2 * X : Nat) : Int)) (max 0 z)) = Lev z := by
  have hx := X_pos
  have hc := C_lt
  have hC : 0 < C := Nat.mul_pos (by omega) (pw_pos 1020)
  by_cases h1 : z < 0
  · have e : min (65535 * ((2 * X : Nat) : Int)) (max 0 z) = 0 := by omega
    rw [e, Lev_low 0 (by omega) (by omega), Lev_low z (by omega) (by omega)]
  · by_cases h2 : z ≤ 65535 * ((2 * X : Nat) : Int)
    · have e : min (65535 * ((2 * X : Nat) : Int)) (max 0 z) = z := by omega
      rw [e]
    · have e : min (65535 * ((2 * X : Nat) : Int)) (max 0 z) = 65535 * ((2 * X : Nat) : Int) := by omega
      rw [e]
      have top : ∀ y : Int, 65535 * ((2 * X : Nat) : Int) ≤ y → Lev y = 65535 := by
        intro y hy
        unfold Lev
        rw [if_neg (by omega)]
        have : 65535 ≤ (y + X) / ((2 * X : Nat) : Int) := (Int.le_ediv_iff_mul_le (by omega)).2 (by omega)
        omega
      rw [top _ (by omega), top _ (by omega)]

theorem level_parts (v : Nat) (h : Nice (double.read v)) : ∃ x y r, (∀ (P : Program) (w : World) (ats : Array TypeId) (ty : TypeId), (Builtin.max_ ats ty #[.float .f64 v, .float .f64 0]).run P w = .ok (.float .f64 x) w) ∧
    (∀ (P : Program) (w : World) (ats : Array TypeId) (ty : TypeId), (Builtin.min_ ats ty #[.float .f64 x, .float .f64 4679239875398991872]).run P w = .ok (.float .f64 y) w) ∧
    floatBits .add .f64 y 4602678819172646912 = some r ∧ floatToIntVal .f64 r .u32 = some (Lev (V (double.read v))) := by
  obtain ⟨x, hx, nx, sx, vx⟩ := run_max0 v h
  obtain ⟨y, hy, ⟨m, i, hr, hn⟩, vy⟩ := run_min x nx sx
  rw [vx] at vy
  rw [hr] at vy
  obtain ⟨r, h1, h2⟩ := add_half y m i hr hn (by rw [vy]; omega)
  refine ⟨x, y, r, hx, hy, h1, ?_⟩
  rw [vy, Lev_clamp] at h2
  have hb := Lev_range (V (double.read v))
  unfold floatToIntVal
  have h2' : (FloatKind.f64.decode r).toInt .zero = some (Lev (V (double.read v))) := h2
  rw [h2']
  have e1 : IntKind.u32.min = 0 := rfl
  have e2 : IntKind.u32.max = 4294967295 := rfl
  simp only [e1, e2]
  rw [if_pos ⟨by omega, by omega⟩]

set_option maxHeartbeats 400000 in
theorem level_any (v : Nat) (h : Nice (double.read v)) (w : World) :
    Calls Try.prog 26 #[.float .f64 v] w fun e w' => e = .returned (.int .u32 (Lev (V (double.read v)))) ∧ w' = w := by
  obtain ⟨x, y, r, hx, hy, hr, hi⟩ := level_parts v h
  clear h
  generalize Lev (V (double.read v)) = n at *
  have r1 := fun (w : World) => run_float_arith (P := Try.prog) w .add 28 .f64 y 4602678819172646912 r hr
  have r2 := fun (w : World) => run_convert_float_int (P := Try.prog) w 28 37 .f64 .u32 r n (by rw [Try.underlying28]; rfl) Try.underlying37 hi
  clear hr hi
  go_enter Try.func26, Try.ntmps26
  go_wp2
  go_ret
  exact ⟨rfl, rfl⟩

theorem zlevel_any (v : Nat) (h : Nice (double.read v)) (w : World) :
    Calls Try.prog 20 #[.float .f64 v] w fun e w' => e = .returned (.int .u32 (Lev (V (double.read v)))) ∧ w' = w := by
  go_enter Try.func20, Try.ntmps20
  go_wp2_with (go_at_call 26; refine (level_any v h _).mono ?_; rintro e w' ⟨rfl, rfl⟩)
  go_ret
  exact ⟨rfl, rfl⟩

end Go.Proofs.Qxb6604706a.Fl
