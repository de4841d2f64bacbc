/-
  The walk of FnLevelMonotoneFixesWholesWithinHalf.
-/
import Derived.Test.Qxb6604706aLaw4
namespace Go.Proofs.Qxb6604706a.Fl
open Ieee Go.RowKit

theorem C_pos : 0 < C := Nat.mul_pos (by omega) (pw_pos 1020)

/-- No word lies between the corner and 1/2. -/
theorem gap (d : Datum) (h : Nice d) (h1 : (C : Int) < V d) : (X : Int) ≤ V d := by
  have hC := C_pos
  cases d with
  | nan => exact h.elim
  | infinity s =>
    cases s with
    | true => simp only [V] at h1; simp at h1; omega
    | false =>
      have : X ≤ big := pw_le (by decide)
      simp only [V]; simp; omega
  | number s m i =>
    obtain ⟨a1, a2, a3, a4⟩ := h
    cases s with
    | true => simp only [V] at h1; rw [sn] at h1; omega
    | false =>
      simp only [V] at h1 ⊢
      rw [sp] at h1 ⊢
      by_cases hi : -53 ≤ i
      · have e : (i + 1074).toNat = (i + 53).toNat + 1021 := by omega
        have hm : 2 ^ 52 ≤ m := by omega
        have b1 : pw 1021 ≤ pw ((i + 53).toNat + 1021) := pw_le (by omega)
        have b2 : 2 ^ 52 * pw 1021 ≤ m * pw ((i + 53).toNat + 1021) := Nat.mul_le_mul hm b1
        rw [e]
        have := X_eq'
        omega
      · exfalso
        have b1 : pw (i + 1074).toNat ≤ pw 1020 := pw_le (by omega)
        have b2 : m * pw (i + 1074).toNat ≤ (2 ^ 53 - 1) * pw 1020 := Nat.mul_le_mul (by omega) b1
        have : C = (2 ^ 53 - 1) * pw 1020 := rfl
        omega

theorem Lev_eq (z : Int) (h : z ≠ C) : Lev z = Whole z := by unfold Lev Whole; rw [if_neg h]

theorem Whole_mono {x y : Int} (h : x ≤ y) : Whole x ≤ Whole y := by
  have hx := X_pos
  have : (x + X) / ((2 * X : Nat) : Int) ≤ (y + X) / ((2 * X : Nat) : Int) := Int.ediv_le_ediv (by omega) (by omega)
  unfold Whole
  omega

theorem Lev_mono (d e : Datum) (he : Nice e) (h : V d ≤ V e) : Lev (V d) ≤ Lev (V e) := by
  have hr := Lev_range (V e)
  by_cases h1 : V d = C
  · by_cases h2 : V e = C
    · rw [h1, h2]; exact Int.le_refl _
    · have h3 := gap e he (by omega)
      have : Lev (V d) = 1 := by unfold Lev; rw [if_pos h1]
      rw [this, Lev_eq _ h2]
      have := (whole_le (V e) 1 (by omega) (by omega)).1 (by omega)
      omega
  · by_cases h2 : V e = C
    · have hc := C_lt
      rw [Lev_low (V d) h1 (by omega)]
      exact hr.1
    · rw [Lev_eq _ h1, Lev_eq _ h2]; exact Whole_mono h

theorem Lev_fix (a : Nat) (h : a ≤ 65535) : Lev ((a * (2 * X) : Nat) : Int) = a := by
  have hx := X_pos
  have hc := C_lt
  have hC := C_pos
  have hne : ((a * (2 * X) : Nat) : Int) ≠ C := by
    by_cases h0 : a = 0
    · subst h0; omega
    · have : 1 * (2 * X) ≤ a * (2 * X) := Nat.mul_le_mul_right _ (by omega)
      omega
  rw [Lev_eq _ hne]
  unfold Whole
  have e : ((a * (2 * X) : Nat) : Int) + (X : Int) = ((X + (2 * X) * a : Nat) : Int) := by rw [Nat.mul_comm]; omega
  have e2 : (((X + (2 * X) * a : Nat) : Int)) / ((2 * X : Nat) : Int) = ((a : Nat) : Int) := by
    rw [← Int.natCast_ediv, Nat.add_mul_div_left _ _ (by omega), Nat.div_eq_of_lt (by omega)]
    omega
  rw [e, e2]
  omega

theorem Lev_near (z : Int) (h0 : 0 ≤ z) (h1 : z ≤ 65535 * ((2 * X : Nat) : Int)) (hne : z ≠ C) : (2 * Lev z - 1) * (X : Int) ≤ z ∧ z ≤ (2 * Lev z + 1) * (X : Int) := by
  have hx := X_pos
  rw [Lev_eq _ hne]
  have hpos : (0 : Int) < ((2 * X : Nat) : Int) := by omega
  have a1 : (z + X) / ((2 * X : Nat) : Int) * ((2 * X : Nat) : Int) ≤ z + X := Int.ediv_mul_le _ (by omega)
  have a2 : z + X < ((z + X) / ((2 * X : Nat) : Int) + 1) * ((2 * X : Nat) : Int) := Int.lt_ediv_add_one_mul_self _ hpos
  have a3 : 0 ≤ (z + X) / ((2 * X : Nat) : Int) := Int.ediv_nonneg (by omega) (by omega)
  have a4 : (z + X) / ((2 * X : Nat) : Int) < 65536 := Int.ediv_lt_of_lt_mul hpos (by omega)
  have e : Whole z = (z + X) / ((2 * X : Nat) : Int) := by unfold Whole; omega
  rw [e]
  generalize (z + X) / ((2 * X : Nat) : Int) = q at *
  have e1 : q * ((2 * X : Nat) : Int) = 2 * (q * (X : Int)) := by rw [Int.natCast_mul, ← Int.mul_assoc, Int.mul_comm q, Int.mul_assoc]; rfl
  have e2 : (q + 1) * ((2 * X : Nat) : Int) = 2 * (q * (X : Int)) + 2 * X := by rw [Int.add_mul, e1]; omega
  have e3 : (2 * q - 1) * (X : Int) = 2 * (q * (X : Int)) - X := by rw [Int.sub_mul, Int.mul_assoc]; omega
  have e4 : (2 * q + 1) * (X : Int) = 2 * (q * (X : Int)) + X := by rw [Int.add_mul, Int.mul_assoc]; omega
  omega

theorem cmp3 (x y : Int) : (x < y ∧ compare x y = .lt) ∨ (x = y ∧ compare x y = .eq) ∨ (y < x ∧ compare x y = .gt) := by
  by_cases h1 : x < y
  · exact .inl ⟨h1, cmp_lt h1⟩
  · by_cases h2 : x = y
    · exact .inr (.inl ⟨h2, cmp_eq h2⟩)
    · exact .inr (.inr ⟨by omega, cmp_gt (by omega)⟩)

theorem nice_of (v : Nat) (h : FloatKind.f64.format.order v v = some .eq) : Nice (double.read v) := by
  refine read_nice v ?_
  intro s t hn
  have : FloatKind.f64.format.order v v = none := by
    show (double.read v).order (double.read v) = none
    rw [hn]; rfl
  rw [this] at h
  cases h

theorem law7_nan1 (v w : Nat) (h : FloatKind.f64.format.order v v ≠ some .eq) (W : World) :
    Calls Try.prog 7 #[.float .f64 v, .float .f64 w] W fun e w' => e = .returned (.bool true) ∧ w' = W := by
  have h1 : (FloatKind.f64.format.order v v != some .eq) = true := by rw [bne_iff_ne]; exact h
  go_enter Try.func7, Try.ntmps7
  go_wp2
  go_ret
  exact ⟨rfl, rfl⟩

theorem law7_nan2 (v w : Nat) (hv : FloatKind.f64.format.order v v = some .eq) (h : FloatKind.f64.format.order w w ≠ some .eq) (W : World) :
    Calls Try.prog 7 #[.float .f64 v, .float .f64 w] W fun e w' => e = .returned (.bool true) ∧ w' = W := by
  have h0 : (FloatKind.f64.format.order v v != some .eq) = false := by rw [hv]; rfl
  have h1 : (FloatKind.f64.format.order w w != some .eq) = true := by rw [bne_iff_ne]; exact h
  clear hv h
  go_enter Try.func7, Try.ntmps7
  go_wp2
  go_ret
  exact ⟨rfl, rfl⟩

/-- The last test's three parts, as the walk meets them: it is never asked, or both of its halves say no. -/
def Ends (v : Nat) (a : Int) : Prop :=
  FloatKind.f64.format.order v 0 = some .lt ∨
  ((FloatKind.f64.format.order v 0 = some .eq ∨ FloatKind.f64.format.order v 0 = some .gt) ∧ FloatKind.f64.format.order v 4679239875398991872 = some .gt) ∨
  ((FloatKind.f64.format.order v 0 = some .eq ∨ FloatKind.f64.format.order v 0 = some .gt) ∧ (FloatKind.f64.format.order v 4679239875398991872 = some .lt ∨ FloatKind.f64.format.order v 4679239875398991872 = some .eq) ∧ (FloatKind.f64.format.order v 4602678819172646911 != some .eq) = false) ∨
  ((FloatKind.f64.format.order v 0 = some .eq ∨ FloatKind.f64.format.order v 0 = some .gt) ∧ (FloatKind.f64.format.order v 4679239875398991872 = some .lt ∨ FloatKind.f64.format.order v 4679239875398991872 = some .eq) ∧ (FloatKind.f64.format.order v 4602678819172646911 != some .eq) = true ∧
    ∃ r t, (∀ w : World, (binOp .sub 28 (.float .f64 (floatOfInt .f64 a)) (.float .f64 4602678819172646912)).run Try.prog w = .ok (.float .f64 r) w) ∧
      (∀ w : World, (binOp .add 28 (.float .f64 (floatOfInt .f64 a)) (.float .f64 4602678819172646912)).run Try.prog w = .ok (.float .f64 t) w) ∧
      (FloatKind.f64.format.order r v == some .gt) = false ∧ (FloatKind.f64.format.order v t == some .gt) = false)

theorem ends (v : Nat) (h : Nice (double.read v)) : Ends v (Lev (V (double.read v))) := by
  have o0 := order_of v 0 h nice_zero
  have o1 : FloatKind.f64.format.order v 4679239875398991872 = _ := order_of v w65535 h nice_65535
  have o2 : FloatKind.f64.format.order v 4602678819172646911 = _ := order_of v wCorner h nice_corner
  rw [V_zero] at o0
  rw [V_65535] at o1
  rw [V_corner] at o2
  unfold Ends
  rw [o0, o1, o2]
  have hr := Lev_range (V (double.read v))
  have hnear := Lev_near (V (double.read v))
  have p0 : 0 ≤ V (double.read v) → some (compare (V (double.read v)) 0) = some Ordering.eq ∨ some (compare (V (double.read v)) 0) = some Ordering.gt := by
    intro hz
    rcases cmp3 (V (double.read v)) 0 with ⟨l, _⟩ | ⟨_, e⟩ | ⟨_, e⟩
    · omega
    · exact .inl (by rw [e])
    · exact .inr (by rw [e])
  have p1 : V (double.read v) ≤ 65535 * ((2 * X : Nat) : Int) → some (compare (V (double.read v)) (65535 * ((2 * X : Nat) : Int))) = some Ordering.lt ∨ some (compare (V (double.read v)) (65535 * ((2 * X : Nat) : Int))) = some Ordering.eq := by
    intro hz
    rcases cmp3 (V (double.read v)) (65535 * ((2 * X : Nat) : Int)) with ⟨_, e⟩ | ⟨_, e⟩ | ⟨l, _⟩
    · exact .inl (by rw [e])
    · exact .inr (by rw [e])
    · omega
  by_cases c0 : V (double.read v) < 0
  · exact .inl (by rw [cmp_lt c0])
  · by_cases c1 : 65535 * ((2 * X : Nat) : Int) < V (double.read v)
    · exact .inr (.inl ⟨p0 (by omega), by rw [cmp_gt c1]⟩)
    · by_cases c2 : V (double.read v) = C
      · exact .inr (.inr (.inl ⟨p0 (by omega), p1 (by omega), by rw [cmp_eq c2]; rfl⟩))
      · refine .inr (.inr (.inr ⟨p0 (by omega), p1 (by omega), ?_, ?_⟩))
        · rcases cmp3 (V (double.read v)) C with ⟨_, e⟩ | ⟨e, _⟩ | ⟨_, e⟩
          · rw [e]; rfl
          · exact absurd e c2
          · rw [e]; rfl
        · obtain ⟨n1, n2⟩ := hnear (by omega) (by omega) c2
          obtain ⟨n, hn⟩ := Int.eq_ofNat_of_zero_le hr.1
          rw [hn] at n1 n2 hr ⊢
          obtain ⟨r, hr1, hr2, hr3⟩ := sub_whole n (by omega)
          obtain ⟨t, ht1, ht2, ht3⟩ := add_whole n (by omega)
          have q1 := order_of r v hr2 h
          have q2 := order_of v t h ht2
          refine ⟨r, t, fun w => run_float_arith (P := Try.prog) w .sub 28 .f64 _ 4602678819172646912 r hr1, fun w => run_float_arith (P := Try.prog) w .add 28 .f64 _ 4602678819172646912 t ht1, ?_, ?_⟩
          · rw [q1, hr3]
            rcases cmp3 ((2 * (n : Int) - 1) * (X : Int)) (V (double.read v)) with ⟨_, e⟩ | ⟨_, e⟩ | ⟨l, _⟩
            · rw [e]; rfl
            · rw [e]; rfl
            · omega
          · rw [q2, ht3]
            have e4 : (((2 * n + 1) * X : Nat) : Int) = (2 * (n : Int) + 1) * (X : Int) := by rw [Int.natCast_mul]; rfl
            rw [e4]
            rcases cmp3 (V (double.read v)) ((2 * (n : Int) + 1) * (X : Int)) with ⟨_, e⟩ | ⟨_, e⟩ | ⟨l, _⟩
            · rw [e]; rfl
            · rw [e]; rfl
            · omega

theorem lev_again (a : Int) (h0 : 0 ≤ a) (h1 : a ≤ 65535) (w : World) :
    Calls Try.prog 20 #[.float .f64 (floatOfInt .f64 a)] w fun e w' => e = .returned (.int .u32 a) ∧ w' = w := by
  obtain ⟨n, rfl⟩ := Int.eq_ofNat_of_zero_le h0
  obtain ⟨hn, hV⟩ := ofInt n (by omega)
  refine (zlevel_any (floatOfInt .f64 (n : Int)) hn w).mono ?_
  rintro e w' ⟨rfl, rfl⟩
  rw [hV, Lev_fix n (by omega)]
  exact ⟨rfl, rfl⟩

set_option maxHeartbeats 1000000 in
theorem law7_core (v w : Nat) (a b : Int) (hv : (FloatKind.f64.format.order v v != some .eq) = false) (hw : (FloatKind.f64.format.order w w != some .eq) = false)
    (ca : ∀ W : World, Calls Try.prog 20 #[.float .f64 v] W fun e w' => e = .returned (.int .u32 a) ∧ w' = W) (cb : ∀ W : World, Calls Try.prog 20 #[.float .f64 w] W fun e w' => e = .returned (.int .u32 b) ∧ w' = W)
    (a0 : 0 ≤ a) (a1 : a ≤ 65535) (_ : 0 ≤ b) (_ : b ≤ 65535)
    (ho : ((FloatKind.f64.format.order v w = some .lt ∨ FloatKind.f64.format.order v w = some .eq) ∧ a ≤ b) ∨ FloatKind.f64.format.order v w = some .gt) (he : Ends v a) (W : World) :
    Calls Try.prog 7 #[.float .f64 v, .float .f64 w] W fun e w' => e = .returned (.bool true) ∧ w' = W := by
  have CA : Hid (∀ W : World, Calls Try.prog 20 #[.float .f64 v] W fun e w' => e = .returned (.int .u32 a) ∧ w' = W) := ca
  have CB : Hid (∀ W : World, Calls Try.prog 20 #[.float .f64 w] W fun e w' => e = .returned (.int .u32 b) ∧ w' = W) := cb
  clear ca cb
  have HE : Hid (Ends v a) := he
  clear he
  go_enter Try.func7, Try.ntmps7
  go_wp2_with fail
  refine (CA.out _).mono ?_
  rintro e w' ⟨rfl, rfl⟩
  go_wp2_with fail
  refine (CB.out _).mono ?_
  rintro e w' ⟨rfl, rfl⟩
  rcases ho with ⟨ho | ho, hab⟩ | ho
  all_goals
    go_wp2_with fail
    refine (lev_again a a0 a1 _).mono ?_
    rintro e w' ⟨rfl, rfl⟩
    rcases HE.out with q | ⟨q | q, q1⟩ | ⟨q | q, q1 | q1, q2⟩ | ⟨q | q, q1 | q1, q2, r, t, q3, q4, q5, q6⟩
    all_goals
      go_wp2
      go_ret
      exact ⟨rfl, rfl⟩

theorem law7 (v w : Nat) (W : World) :
    Calls Try.prog 7 #[.float .f64 v, .float .f64 w] W fun e w' => e = .returned (.bool true) ∧ w' = W := by
  by_cases h : FloatKind.f64.format.order v v = some .eq
  · by_cases h' : FloatKind.f64.format.order w w = some .eq
    · have nv := nice_of v h
      have nw := nice_of w h'
      have ra := Lev_range (V (double.read v))
      have rb := Lev_range (V (double.read w))
      refine law7_core v w _ _ (by rw [h]; rfl) (by rw [h']; rfl) (zlevel_any v nv) (zlevel_any w nw) ra.1 ra.2 rb.1 rb.2 ?_ (ends v nv) W
      rw [order_of v w nv nw]
      rcases cmp3 (V (double.read v)) (V (double.read w)) with ⟨l, e⟩ | ⟨l, e⟩ | ⟨l, e⟩
      · exact .inl ⟨.inl (by rw [e]), Lev_mono _ _ nw (by omega)⟩
      · exact .inl ⟨.inr (by rw [e]), Lev_mono _ _ nw (by omega)⟩
      · exact .inr (by rw [e])
    · exact law7_nan2 v w h h' W
  · exact law7_nan1 v w h W

end Go.Proofs.Qxb6604706a.Fl
