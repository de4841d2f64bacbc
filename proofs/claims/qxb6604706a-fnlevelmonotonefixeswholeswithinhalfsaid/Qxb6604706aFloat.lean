/-
  Plain laws on the words of binary64: what they stand for, as whole numbers scaled by 2^1074; how they are ordered; the sums that the seat's functions make. No Go text here.
-/
import Derived.Laws.FloatArith
namespace Go.Proofs.Qxb6604706a.Fl
open Ieee

theorem dSign : double.signWeight = 2 ^ 63 := rfl
theorem dBin : double.binade = 2 ^ 52 := rfl
theorem dInf : double.infRung = 2047 * 2 ^ 52 := rfl
theorem dLeast : double.leastPlace = -1074 := by decide
theorem dFrac : double.fractionBits = 52 := rfl

/-- What a word of the format that is no NaN can stand for. -/
def Nice : Datum → Prop
  | .number _ m i => -1074 ≤ i ∧ i ≤ 971 ∧ m < 2 ^ 53 ∧ (i ≤ -1074 ∨ 2 ^ 52 ≤ m)
  | .infinity _ => True
  | .nan .. => False

theorem read_eq (b : Nat) : double.read b = if b % 2 ^ 63 < 2 ^ 52 then .number (b / 2 ^ 63 % 2 == 1) (b % 2 ^ 63) (-1074) else if b % 2 ^ 63 < 2047 * 2 ^ 52 then .number (b / 2 ^ 63 % 2 == 1) (2 ^ 52 + b % 2 ^ 63 % 2 ^ 52) (-1074 + (b % 2 ^ 63 / 2 ^ 52 - 1 : Nat)) else if b % 2 ^ 63 = 2047 * 2 ^ 52 then .infinity (b / 2 ^ 63 % 2 == 1) else .nan (b / 2 ^ 63 % 2 == 1) (b % 2 ^ 63 - 2047 * 2 ^ 52) := by
  unfold Format.read
  rw [dSign, dBin, dInf, dLeast]

theorem read_nice (b : Nat) (h : ∀ s t, double.read b ≠ .nan s t) : Nice (double.read b) := by
  rw [read_eq] at h ⊢
  by_cases h1 : b % 2 ^ 63 < 2 ^ 52
  · rw [if_pos h1]; refine ⟨by omega, by omega, by omega, by omega⟩
  · rw [if_neg h1] at h ⊢
    by_cases h2 : b % 2 ^ 63 < 2047 * 2 ^ 52
    · rw [if_pos h2]; refine ⟨by omega, by omega, by omega, by omega⟩
    · rw [if_neg h2] at h ⊢
      by_cases h3 : b % 2 ^ 63 = 2047 * 2 ^ 52
      · rw [if_pos h3]; trivial
      · rw [if_neg h3] at h ⊢
        exact absurd rfl (h _ _)

def pw (k : Nat) : Nat := 2 ^ k
theorem pw_pos (k : Nat) : 0 < pw k := Nat.two_pow_pos k
theorem pw_add (a b : Nat) : pw (a + b) = pw a * pw b := Nat.pow_add 2 a b
theorem pw_le {a b : Nat} (h : a ≤ b) : pw a ≤ pw b := Nat.pow_le_pow_right (by omega) h
/-- One half, in units of 2^(-1074). -/
def X : Nat := pw 1073
def big : Nat := pw 3000
theorem X_pos : 0 < X := pw_pos 1073

def V : Datum → Int
  | .number s m i => signed s m (i + 1074).toNat
  | .infinity s => if s then -(big : Int) else big
  | .nan .. => 0

theorem signed_pos (m k : Nat) : signed false m k = ((m * 2 ^ k : Nat) : Int) := by
  simp [signed, Nat.shiftLeft_eq]
theorem signed_neg (m k : Nat) : signed true m k = -((m * 2 ^ k : Nat) : Int) := by
  simp [signed, Nat.shiftLeft_eq]

theorem signed_add (s : Bool) (m a c : Nat) : signed s m (a + c) = signed s m a * ((2 ^ c : Nat) : Int) := by
  cases s
  · rw [signed_pos, signed_pos, ← Int.natCast_mul, Nat.pow_add, Nat.mul_assoc]
  · rw [signed_neg, signed_neg, Int.neg_mul, ← Int.natCast_mul, Nat.pow_add, Nat.mul_assoc]

theorem cmp_scale (x y : Int) (k : Nat) (h : 0 < k) : compare (x * (k : Int)) (y * (k : Int)) = compare x y := by
  have hk : (0 : Int) < (k : Int) := by omega
  have e1 : (x * (k : Int) < y * (k : Int)) ↔ x < y := ⟨fun a => Int.lt_of_mul_lt_mul_right a (Int.le_of_lt hk), fun a => Int.mul_lt_mul_of_pos_right a hk⟩
  have e2 : (x * (k : Int) = y * (k : Int)) ↔ x = y := ⟨fun a => Int.eq_of_mul_eq_mul_right (by omega) a, fun a => by rw [a]⟩
  simp only [compare, compareOfLessAndEq, e1, e2]

theorem V_lt (s : Bool) (m : Nat) (i : Int) (h : Nice (.number s m i)) : -(big : Int) < V (.number s m i) ∧ V (.number s m i) < big := by
  obtain ⟨h1, h2, h3, _⟩ := h
  have hb : m * 2 ^ (i + 1074).toNat < big := by
    have a1 : m * 2 ^ (i + 1074).toNat < 2 ^ 53 * 2 ^ (i + 1074).toNat := Nat.mul_lt_mul_of_pos_right h3 (Nat.two_pow_pos _)
    have a2 : 2 ^ 53 * 2 ^ (i + 1074).toNat ≤ big := by
      have := pw_le (show 53 + (i + 1074).toNat ≤ 3000 by omega)
      rw [pw_add] at this
      exact this
    omega
  simp only [V]
  cases s
  · rw [signed_pos]; omega
  · rw [signed_neg]; omega

theorem big_pos : 0 < big := pw_pos 3000

theorem cmp_lt {x y : Int} (h : x < y) : compare x y = .lt := by simp [compare, compareOfLessAndEq, h]
theorem cmp_gt {x y : Int} (h : y < x) : compare x y = .gt := by
  have h1 : ¬ x < y := by omega
  have h2 : ¬ x = y := by omega
  simp [compare, compareOfLessAndEq, h1, h2]

theorem order_V (d e : Datum) (hd : Nice d) (he : Nice e) : d.order e = some (compare (V d) (V e)) := by
  have hb := big_pos
  cases d with
  | nan => exact hd.elim
  | infinity s =>
    cases e with
    | nan => exact he.elim
    | infinity t =>
      cases s <;> cases t <;> simp [Datum.order, V]
      · have : compare (big : Int) (-(big : Int)) = .gt := cmp_gt (by omega)
        rw [this]; rfl
      · have : compare (-(big : Int)) (big : Int) = .lt := cmp_lt (by omega)
        rw [this]; rfl
    | number t n j =>
      have := V_lt t n j he
      cases s
      · simp only [Datum.order, V] at this ⊢; rw [cmp_gt (by simpa using this.2)]; rfl
      · simp only [Datum.order, V] at this ⊢; rw [cmp_lt (by simpa using this.1)]; rfl
  | number s m i =>
    cases e with
    | nan => exact he.elim
    | infinity t =>
      have := V_lt s m i hd
      cases t
      · simp only [Datum.order, V] at this ⊢; rw [cmp_lt (by simpa using this.2)]; rfl
      · simp only [Datum.order, V] at this ⊢; rw [cmp_gt (by simpa using this.1)]; rfl
    | number t n j =>
      obtain ⟨h1, _⟩ := hd
      obtain ⟨h2, _⟩ := he
      simp only [Datum.order, V]
      have e1 : (i + 1074).toNat = (i - min i j).toNat + (min i j + 1074).toNat := by omega
      have e2 : (j + 1074).toNat = (j - min i j).toNat + (min i j + 1074).toNat := by omega
      rw [e1, e2, signed_add, signed_add, cmp_scale _ _ _ (Nat.two_pow_pos _)]

/-! ### Rounding -/
theorem read_word (s : Bool) (r : Nat) (hr : r < 2 ^ 63) : double.read (double.word s r) =
    if r < 2 ^ 52 then .number s r (-1074) else if r < 2047 * 2 ^ 52 then .number s (2 ^ 52 + r % 2 ^ 52) (-1074 + (r / 2 ^ 52 - 1 : Nat)) else if r = 2047 * 2 ^ 52 then .infinity s else .nan s (r - 2047 * 2 ^ 52) := by
  rw [read_eq]
  unfold Format.word
  rw [dSign]
  cases s
  · have e1 : (r / 2 ^ 63 % 2 == 1) = false := by simp; omega
    have e2 : r % 2 ^ 63 = r := by omega
    simp [e1, e2]
  · have e1 : ((2 ^ 63 + r) / 2 ^ 63 % 2 == 1) = true := by simp; omega
    have e2 : (2 ^ 63 + r) % 2 ^ 63 = r := by omega
    simp only [if_true, e1, e2]

theorem cut_even (neg : Bool) (n d : Nat) (h : d ≤ n.log2 + 2) : Toward.even.cut neg n d = n / 2 ^ d + (decide (2 ^ d < 2 * (n % 2 ^ d)) || (2 ^ d == 2 * (n % 2 ^ d) && n / 2 ^ d % 2 == 1)).toNat := by
  have e : min d (n.log2 + 2) = d := by omega
  simp only [Toward.cut, e, Nat.shiftLeft_eq, Nat.one_mul]
theorem cut_zero (neg : Bool) (n d : Nat) (h : d ≤ n.log2 + 2) : Toward.zero.cut neg n d = n / 2 ^ d := by
  have e : min d (n.log2 + 2) = d := by omega
  simp only [Toward.cut, e, Nat.shiftLeft_eq, Nat.one_mul]
  simp

/-- The rung that a significand of 53 digits (or, by a carry, 2^53) at a place has, read again. -/
theorem read_kept (s : Bool) (kept : Nat) (last : Int) (h1 : 2 ^ 52 ≤ kept) (h2 : kept ≤ 2 ^ 53) (h3 : -1074 ≤ last) (h4 : last ≤ 900) :
    double.read (double.word s (min ((last + 1074).toNat * 2 ^ 52 + kept) (2047 * 2 ^ 52))) = if kept < 2 ^ 53 then .number s kept last else .number s (2 ^ 52) (last + 1) := by
  obtain ⟨q, rfl⟩ : ∃ q : Nat, last = (q : Int) - 1074 := ⟨(last + 1074).toNat, by omega⟩
  have e0 : ((q : Int) - 1074 + 1074).toNat = q := by omega
  rw [e0]
  have hq : q ≤ 1974 := by omega
  have e1 : min (q * 2 ^ 52 + kept) (2047 * 2 ^ 52) = q * 2 ^ 52 + kept := by omega
  rw [e1, read_word _ _ (by omega), if_neg (by omega), if_pos (by omega)]
  by_cases hk : kept < 2 ^ 53
  · rw [if_pos hk]
    have a1 : (q * 2 ^ 52 + kept) % 2 ^ 52 = kept - 2 ^ 52 := by omega
    have a2 : (q * 2 ^ 52 + kept) / 2 ^ 52 - 1 = q := by omega
    rw [a1, a2, show 2 ^ 52 + (kept - 2 ^ 52) = kept by omega, show (-1074 : Int) + (q : Int) = (q : Int) - 1074 by omega]
  · rw [if_neg hk]
    have a1 : (q * 2 ^ 52 + kept) % 2 ^ 52 = 0 := by omega
    have a2 : (q * 2 ^ 52 + kept) / 2 ^ 52 - 1 = q + 1 := by omega
    rw [a1, a2, show (-1074 : Int) + ((q + 1 : Nat) : Int) = (q : Int) - 1074 + 1 by omega]

theorem nearest_big (s : Bool) (T : Nat) (p : Int) (hT : 2 ^ 52 ≤ T) (hp : -1074 ≤ p) :
    double.nearest s T p = double.word s (min ((p + (T.log2 - 52 : Nat) + 1074).toNat * 2 ^ 52 + Toward.even.cut s T (T.log2 - 52)) (2047 * 2 ^ 52)) := by
  have hl : 52 ≤ T.log2 := (Nat.le_log2 (by omega)).2 hT
  unfold Format.nearest
  rw [if_neg (by omega), dFrac, dLeast, dBin, dInf]
  have e1 : max (p + (T.log2 : Int) - ((52 : Nat) : Int)) (-1074) = p + (T.log2 - 52 : Nat) := by omega
  have e2 : (p - (p + ((T.log2 - 52 : Nat) : Int))).toNat = 0 := by omega
  have e3 : (p + ((T.log2 - 52 : Nat) : Int) - p).toNat = T.log2 - 52 := by omega
  have e4 : (p + ((T.log2 - 52 : Nat) : Int) - (-1074)).toNat = (p + ((T.log2 - 52 : Nat) : Int) + 1074).toNat := by omega
  dsimp only
  rw [e1, e2, e3, e4, Nat.shiftLeft_zero]

/-- What 'kept' units of 2^(-n) are, cut to a whole. -/
theorem toInt_kept (kept n : Nat) (h1 : 2 ^ 52 ≤ kept) (h2 : kept ≤ 2 ^ 53) (h3 : 1 ≤ n) (h4 : n ≤ 53) :
    (if kept < 2 ^ 53 then Datum.number false kept (-(n : Int)) else .number false (2 ^ 52) (-(n : Int) + 1)).toInt .zero = some ((kept / 2 ^ n : Nat) : Int) := by
  have hl : ∀ k : Nat, 2 ^ 52 ≤ k → 52 ≤ k.log2 := fun k hk => (Nat.le_log2 (by omega)).2 hk
  by_cases hk : kept < 2 ^ 53
  · rw [if_pos hk]
    have e1 : (-(n : Int)).toNat = 0 := by omega
    have e2 : (- -(n : Int)).toNat = n := by omega
    have := hl kept h1
    simp only [Datum.toInt, Datum.integral, e1, e2, Nat.shiftLeft_zero]
    rw [cut_zero _ _ _ (by omega), signed_pos, Nat.pow_zero, Nat.mul_one]
  · rw [if_neg hk]
    have hk' : kept = 2 ^ 52 * 2 := by omega
    obtain ⟨q, rfl⟩ : ∃ q, n = q + 1 := ⟨n - 1, by omega⟩
    have e1 : (-((q + 1 : Nat) : Int) + 1).toNat = 0 := by omega
    have e2 : (-(-((q + 1 : Nat) : Int) + 1)).toNat = q := by omega
    have := hl (2 ^ 52) (Nat.le_refl _)
    simp only [Datum.toInt, Datum.integral, e1, e2, Nat.shiftLeft_zero]
    rw [cut_zero _ _ _ (by omega), signed_pos, Nat.pow_zero, Nat.mul_one, hk', show 2 ^ (q + 1) = 2 ^ q * 2 from Nat.pow_succ 2 q, Nat.mul_div_mul_right _ _ (by omega)]

/-! ### The sum with one half -/
def half : Nat := 4602678819172646912
theorem read_half : double.read half = .number false (2 ^ 52) (-53) := by rfl

theorem sum_pos (m n : Nat) (i j : Int) : (Datum.number false m i).sum (.number false n j) = some (.number false (m * 2 ^ (i - min i j).toNat + n * 2 ^ (j - min i j).toNat) (min i j)) := by
  simp only [Datum.sum, signed_pos, ← Int.natCast_add, Int.natAbs_natCast]
  congr 2
  split
  · rfl
  · exact decide_eq_false (by omega)

/-- v + 1/2 rounded and cut to a whole: the sum's word, and the whole, off the exact sum T at its place p. -/
theorem sum_cut (v m : Nat) (i : Int) (T : Nat) (p : Int) (n : Nat) (hr : double.read v = .number false m i) (hT : T = m * 2 ^ (i - min i (-53)).toNat + 2 ^ 52 * 2 ^ (-53 - min i (-53)).toNat) (hp : p = min i (-53))
    (h0 : -1074 ≤ p) (h52 : 2 ^ 52 ≤ T) (hn : p + (T.log2 - 52 : Nat) = -(n : Int)) (h1 : 1 ≤ n) (h2 : n ≤ 53) :
    ∃ r, double.add v half = some r ∧ (double.read r).toInt .zero = some ((Toward.even.cut false T (T.log2 - 52) / 2 ^ n : Nat) : Int) := by
  have hT0 : T ≠ 0 := by omega
  have hl : 52 ≤ T.log2 := (Nat.le_log2 hT0).2 h52
  have a1 : 2 ^ T.log2 ≤ T := Nat.log2_self_le hT0
  have a2 : T < 2 ^ (T.log2 + 1) := Nat.lt_log2_self
  have a3 : 2 ^ T.log2 = 2 ^ 52 * 2 ^ (T.log2 - 52) := by rw [← Nat.pow_add]; congr 1; omega
  have a4 : 2 ^ (T.log2 + 1) = 2 ^ 53 * 2 ^ (T.log2 - 52) := by rw [← Nat.pow_add]; congr 1; omega
  have hpos : 0 < 2 ^ (T.log2 - 52) := Nat.two_pow_pos _
  have b1 : 2 ^ 52 ≤ T / 2 ^ (T.log2 - 52) := (Nat.le_div_iff_mul_le hpos).2 (by omega)
  have b2 : T / 2 ^ (T.log2 - 52) < 2 ^ 53 := (Nat.div_lt_iff_lt_mul hpos).2 (by omega)
  have hc := cut_even false T (T.log2 - 52) (by omega)
  have hb : ∀ b : Bool, b.toNat ≤ 1 := fun b => by cases b <;> decide
  have c1 : 2 ^ 52 ≤ Toward.even.cut false T (T.log2 - 52) := by rw [hc]; omega
  have c2 : Toward.even.cut false T (T.log2 - 52) ≤ 2 ^ 53 := by rw [hc]; have := hb (decide (2 ^ (T.log2 - 52) < 2 * (T % 2 ^ (T.log2 - 52))) || (2 ^ (T.log2 - 52) == 2 * (T % 2 ^ (T.log2 - 52)) && T / 2 ^ (T.log2 - 52) % 2 == 1)); omega
  refine ⟨double.nearest false T p, ?_, ?_⟩
  · rw [Format.add, hr, read_half, sum_pos, hT, hp]; rfl
  · rw [nearest_big _ _ _ h52 h0, hn, read_kept _ _ _ c1 c2 (by omega) (by omega)]
    exact toInt_kept _ _ c1 c2 h1 h2

/-- The one word below 1/2 whose sum with 1/2 rounds up to 1, in units of 2^(-1074). -/
def C : Nat := (2 ^ 53 - 1) * pw 1020
def Lev (z : Int) : Int := if z = C then 1 else max 0 (min 65535 ((z + X) / ((2 * X : Nat) : Int)))

theorem pw_split {c : Nat} (a b : Nat) (h : c = a + b) : pw c = 2 ^ a * pw b := by subst h; exact Nat.pow_add 2 a b
theorem X_eq : X = 2 ^ 53 * pw 1020 := pw_split 53 1020 (by decide)
theorem X_eq' : X = 2 ^ 52 * pw 1021 := pw_split 52 1021 (by decide)
theorem pw_1021 : pw 1021 = 2 ^ 1 * pw 1020 := pw_split 1 1020 (by decide)
theorem C_lt : C < X := by have := X_eq; have := pw_pos 1020; unfold C; omega

theorem Lev_low (z : Int) (h : z ≠ C) (h1 : z < X) : Lev z = 0 := by
  have hx := X_pos
  unfold Lev
  rw [if_neg h]
  have : (z + X) / ((2 * X : Nat) : Int) ≤ 0 := by
    by_cases h2 : 0 ≤ z + X
    · rw [Int.ediv_eq_zero_of_lt h2 (by omega)]; exact Int.le_refl 0
    · exact Int.le_of_lt (Int.ediv_neg_of_neg_of_pos (by omega) (by omega))
  omega

theorem Lev_mid (m k : Nat) (h0 : 2 ^ 52 ≤ m * 2 ^ k) (h : m * 2 ^ k ≤ 65535 * 2 ^ 53) : Lev ((m * 2 ^ (k + 1021) : Nat) : Int) = (((m * 2 ^ k + 2 ^ 52) / 2 ^ 53 : Nat) : Int) := by
  have hx := X_eq'
  have hc := C_lt
  have hp : 0 < pw 1021 := pw_pos 1021
  have e : m * 2 ^ (k + 1021) = m * 2 ^ k * pw 1021 := by rw [Nat.mul_assoc]; exact congrArg (m * ·) (pw_add k 1021)
  have hge : X ≤ m * 2 ^ k * pw 1021 := by rw [hx]; exact Nat.mul_le_mul_right _ h0
  unfold Lev
  rw [e, if_neg (by omega)]
  have e2 : ((m * 2 ^ k * pw 1021 : Nat) : Int) + (X : Int) = (((m * 2 ^ k + 2 ^ 52) * pw 1021 : Nat) : Int) := by rw [hx, Nat.add_mul]; omega
  have e3 : 2 * X = 2 ^ 53 * pw 1021 := by omega
  rw [e2, e3, ← Int.natCast_ediv, Nat.mul_div_mul_right _ _ hp]
  omega

theorem log2_of {T k : Nat} (h1 : 2 ^ k ≤ T) (h2 : T < 2 ^ (k + 1)) : T.log2 = k :=
  (Nat.log2_eq_iff (by have := Nat.two_pow_pos k; omega)).2 ⟨h1, h2⟩

theorem toNat_le (b : Bool) : b.toNat ≤ 1 := by cases b <;> decide

/-- No carry: the sum is exact. -/
theorem cut_exact {s : Bool} (T d : Nat) (h : d ≤ T.log2 + 2) (h0 : T % 2 ^ d = 0) : Toward.even.cut s T d = T / 2 ^ d := by
  rw [cut_even _ _ _ h, h0]
  have hp : 0 < 2 ^ d := Nat.two_pow_pos d
  have e1 : decide (2 ^ d < 2 * 0) = false := decide_eq_false (by omega)
  have e2 : (2 ^ d == 2 * 0) = false := by rw [beq_eq_false_iff_ne]; omega
  rw [e1, e2]
  simp

/-- The words from 1/2 on. -/
theorem cut_high (m e : Nat) (he : e ≤ 16) (h1 : 2 ^ 52 ≤ m) (h2 : m < 2 ^ 53) (T : Nat) (hT : T = m * 2 ^ e + 2 ^ 52) :
    2 ^ 52 ≤ T ∧ T.log2 - 52 ≤ 17 ∧ Toward.even.cut false T (T.log2 - 52) / 2 ^ (53 - (T.log2 - 52)) = T / 2 ^ 53 := by
  have hpos : 0 < 2 ^ e := Nat.two_pow_pos e
  have q1 : 2 ^ 52 * 2 ^ e ≤ m * 2 ^ e := Nat.mul_le_mul_right _ h1
  have q2 : m * 2 ^ e + 2 ^ e ≤ 2 ^ 53 * 2 ^ e := by rw [← Nat.succ_mul]; exact Nat.mul_le_mul_right _ h2
  have e1 : 2 ^ 52 * 2 ^ e = 2 ^ (52 + e) := by rw [Nat.pow_add]
  have e2 : 2 ^ 53 * 2 ^ e = 2 ^ (53 + e) := by rw [Nat.pow_add]
  have e3 : 2 ^ 54 * 2 ^ e = 2 ^ (54 + e) := by rw [Nat.pow_add]
  have f3 : 2 ^ 52 * 2 ^ e = 2 ^ (52 - e) * 2 ^ e * 2 ^ e := by rw [← Nat.pow_add, ← Nat.pow_add, ← Nat.pow_add]; congr 1; omega
  have f4 : 2 ^ 52 = 2 ^ (52 - e) * 2 ^ e := by rw [← Nat.pow_add]; congr 1; omega
  have f1 : 2 ^ 53 = 2 ^ e * 2 ^ (53 - e) := by rw [← Nat.pow_add]; congr 1; omega
  by_cases hc : T < 2 ^ (53 + e)
  · have hl : T.log2 = 52 + e := log2_of (by omega) (by rw [show 52 + e + 1 = 53 + e by omega]; exact hc)
    rw [hl, show 52 + e - 52 = e by omega]
    refine ⟨by omega, by omega, ?_⟩
    have hmod : T % 2 ^ e = 0 := by
      rw [hT, f4, ← Nat.add_mul]
      exact Nat.mul_mod_left _ _
    rw [cut_exact _ _ (by omega) hmod, Nat.div_div_eq_div_mul, ← f1]
  · have hl : T.log2 = 53 + e := log2_of (by omega) (by rw [show 53 + e + 1 = 54 + e by omega]; omega)
    rw [hl, show 53 + e - 52 = e + 1 by omega]
    refine ⟨by omega, by omega, ?_⟩
    rw [cut_even _ _ _ (by omega)]
    have hb := toNat_le (decide (2 ^ (e + 1) < 2 * (T % 2 ^ (e + 1))) || (2 ^ (e + 1) == 2 * (T % 2 ^ (e + 1)) && T / 2 ^ (e + 1) % 2 == 1))
    generalize (decide (2 ^ (e + 1) < 2 * (T % 2 ^ (e + 1))) || (2 ^ (e + 1) == 2 * (T % 2 ^ (e + 1)) && T / 2 ^ (e + 1) % 2 == 1)).toNat = b at hb ⊢
    have g1 : 2 ^ (e + 1) = 2 * 2 ^ e := by rw [Nat.pow_succ]; omega
    have g2 : 2 ^ 52 = 2 ^ (52 - e) * 2 ^ e := f4
    have g3 : 2 ^ (53 - (e + 1)) = 2 ^ (52 - e) := by congr 1; omega
    have g4 : 2 ^ 36 ≤ 2 ^ (52 - e) := Nat.pow_le_pow_right (by omega) (by omega)
    have g5 : 2 ^ (52 - e) = 2 * 2 ^ (51 - e) := by rw [show 52 - e = (51 - e) + 1 by omega, Nat.pow_succ]; omega
    have r2 : T / 2 ^ 53 = 2 ^ e := by
      rw [Nat.div_eq_iff (by omega)]
      omega
    rw [r2, g3]
    have lo : 2 ^ 52 ≤ T / 2 ^ (e + 1) := (Nat.le_div_iff_mul_le (by omega)).2 (by rw [g1]; omega)
    have up : T / 2 ^ (e + 1) ≤ 2 ^ 52 + 2 ^ (51 - e) := by
      apply Nat.le_of_lt_succ
      rw [Nat.div_lt_iff_lt_mul (by omega), g1]
      have k1 : 2 ^ (51 - e) * 2 ^ e = 2 ^ 51 := by rw [← Nat.pow_add]; congr 1; omega
      have k2 : (2 ^ 52 + 2 ^ (51 - e)).succ * (2 * 2 ^ e) = 2 * (2 ^ 52 * 2 ^ e) + 2 * (2 ^ (51 - e) * 2 ^ e) + 2 * 2 ^ e := by
        rw [Nat.succ_mul, Nat.add_mul, Nat.mul_left_comm, Nat.mul_left_comm (2 ^ (51 - e))]
      rw [k2, k1]
      omega
    rw [Nat.div_eq_iff (by omega)]
    have k3 : 2 ^ e * 2 ^ (52 - e) = 2 ^ 52 := by rw [Nat.mul_comm]; exact f4.symm
    omega

/-- The words below 1/2. -/
theorem cut_low (m g : Nat) (hg : 53 ≤ g) (h2 : m < 2 ^ 53) (T : Nat) (hT : T = m + 2 ^ g) :
    2 ^ 52 ≤ T ∧ T.log2 = g ∧ Toward.even.cut false T (g - 52) / 2 ^ 53 = if g = 53 ∧ m = 2 ^ 53 - 1 then 1 else 0 := by
  have q1 : 2 ^ 53 ≤ 2 ^ g := Nat.pow_le_pow_right (by omega) hg
  have hl : T.log2 = g := log2_of (by omega) (by rw [Nat.pow_succ]; omega)
  refine ⟨by omega, hl, ?_⟩
  rw [cut_even _ _ _ (by omega)]
  by_cases h53 : g = 53
  · subst h53
    have hm : 2 ^ (53 - 52) = 2 := rfl
    rw [hm, hT]
    by_cases hm : m = 2 ^ 53 - 1
    · subst hm; rfl
    · rw [if_neg (by omega)]
      have hb := toNat_le (decide (2 < 2 * ((m + 2 ^ 53) % 2)) || (2 == 2 * ((m + 2 ^ 53) % 2) && (m + 2 ^ 53) / 2 % 2 == 1))
      by_cases hlast : m = 2 ^ 53 - 2
      · subst hlast; rfl
      · omega
  · rw [if_neg (by omega)]
    have hb := toNat_le (decide (2 ^ (g - 52) < 2 * (T % 2 ^ (g - 52))) || (2 ^ (g - 52) == 2 * (T % 2 ^ (g - 52)) && T / 2 ^ (g - 52) % 2 == 1))
    generalize (decide (2 ^ (g - 52) < 2 * (T % 2 ^ (g - 52))) || (2 ^ (g - 52) == 2 * (T % 2 ^ (g - 52)) && T / 2 ^ (g - 52) % 2 == 1)).toNat = b at hb ⊢
    have e1 : 2 ^ g = 2 ^ 52 * 2 ^ (g - 52) := by rw [← Nat.pow_add]; congr 1; omega
    have e2 : 2 ^ 2 ≤ 2 ^ (g - 52) := Nat.pow_le_pow_right (by omega) (by omega)
    have up : T / 2 ^ (g - 52) < 2 ^ 52 + 2 ^ 51 := by
      rw [Nat.div_lt_iff_lt_mul (by omega), Nat.add_mul]
      have : 2 ^ 51 * 2 ^ 2 ≤ 2 ^ 51 * 2 ^ (g - 52) := Nat.mul_le_mul_left _ e2
      omega
    exact Nat.div_eq_of_lt (by omega)

theorem V_high (m e : Nat) (i : Int) (h : i = (e : Int) - 53) : V (.number false m i) = ((m * 2 ^ (e + 1021) : Nat) : Int) := by
  have e1 : (i + 1074).toNat = e + 1021 := by omega
  simp only [V, e1, signed_pos]

/-- 1/2 ADDED TO A WORD FROM 0 TO 65535, CUT TO A WHOLE. -/
theorem add_half (v m : Nat) (i : Int) (hr : double.read v = .number false m i) (hn : Nice (.number false m i)) (hle : V (.number false m i) ≤ 65535 * (2 * X : Nat)) :
    ∃ r, double.add v half = some r ∧ (double.read r).toInt .zero = some (Lev (V (.number false m i))) := by
  obtain ⟨h1, h2, h3, h4⟩ := hn
  by_cases hi : -53 ≤ i
  · obtain ⟨e, he⟩ : ∃ e : Nat, i = (e : Int) - 53 := ⟨(i + 53).toNat, by omega⟩
    have hV := V_high m e i he
    rw [hV] at hle ⊢
    have hp : 0 < pw 1021 := pw_pos 1021
    have eX := X_eq'
    have em : m * 2 ^ (e + 1021) = m * 2 ^ e * pw 1021 := by rw [Nat.mul_assoc]; exact congrArg (m * ·) (pw_add e 1021)
    have hme : m * 2 ^ e ≤ 65535 * 2 ^ 53 := by
      have : m * 2 ^ e * pw 1021 ≤ 65535 * 2 ^ 53 * pw 1021 := by rw [← em, Nat.mul_assoc]; omega
      exact Nat.le_of_mul_le_mul_right this hp
    have hm52 : 2 ^ 52 ≤ m := by omega
    have he16 : e ≤ 16 := by
      apply Nat.le_of_not_lt
      intro hlt
      have a1 : 2 ^ 17 ≤ 2 ^ e := Nat.pow_le_pow_right (by omega) hlt
      have a2 : 2 ^ 52 * 2 ^ 17 ≤ m * 2 ^ e := Nat.mul_le_mul hm52 a1
      omega
    have hpe : 0 < 2 ^ e := Nat.two_pow_pos e
    have hm0 : 2 ^ 52 ≤ m * 2 ^ e := Nat.le_trans hm52 (Nat.le_mul_of_pos_right _ hpe)
    obtain ⟨t1, t2, t3⟩ := cut_high m e he16 hm52 h3 _ rfl
    have hmin : min i (-53) = -53 := by omega
    have s1 : (i - min i (-53)).toNat = e := by omega
    have s2 : (-53 - min i (-53)).toNat = 0 := by omega
    obtain ⟨r, hr1, hr2⟩ := sum_cut v m i (m * 2 ^ e + 2 ^ 52) (-53) (53 - ((m * 2 ^ e + 2 ^ 52).log2 - 52)) hr (by rw [s1, s2]) hmin.symm (by omega) t1 (by omega) (by omega) (by omega)
    refine ⟨r, hr1, ?_⟩
    rw [hr2, t3, Lev_mid m e hm0 hme]
  · obtain ⟨g, hg⟩ : ∃ g : Nat, i = -1 - (g : Int) := ⟨(-1 - i).toNat, by omega⟩
    have hg53 : 53 ≤ g := by omega
    have hg2 : g ≤ 1073 := by omega
    obtain ⟨t1, t2, t3⟩ := cut_low m g hg53 h3 _ rfl
    have hmin : min i (-53) = i := by omega
    have s1 : (i - min i (-53)).toNat = 0 := by omega
    have s2 : (-53 - min i (-53)).toNat = g - 52 := by omega
    have s3 : 2 ^ 52 * 2 ^ (g - 52) = 2 ^ g := by rw [← Nat.pow_add]; congr 1; omega
    obtain ⟨r, hr1, hr2⟩ := sum_cut v m i (m + 2 ^ g) i 53 hr (by rw [s1, s2, s3]; omega) hmin.symm (by omega) t1 (by rw [t2]; omega) (by omega) (by omega)
    refine ⟨r, hr1, ?_⟩
    rw [hr2, t2, t3]
    have hC : C = (2 ^ 53 - 1) * pw 1020 := rfl
    have hX := X_eq
    have hp := pw_pos 1020
    have s4 : (i + 1074).toNat = 1073 - g := by omega
    simp only [V, s4, signed_pos]
    have hz : m * 2 ^ (1073 - g) = m * pw (1073 - g) := rfl
    rw [hz]
    by_cases hcor : g = 53 ∧ m = 2 ^ 53 - 1
    · obtain ⟨rfl, rfl⟩ := hcor
      rw [if_pos ⟨rfl, rfl⟩]
      unfold Lev
      rw [if_pos (by rw [hC])]
      rfl
    · rw [if_neg hcor, Lev_low]
      · rfl
      · intro heq
        have heq' : m * pw (1073 - g) = C := by omega
        by_cases h53 : g = 53
        · subst h53
          have : m = 2 ^ 53 - 1 := Nat.eq_of_mul_eq_mul_right hp (by rw [← hC, ← heq'])
          exact hcor ⟨rfl, this⟩
        · have a1 : pw (1073 - g) ≤ pw 1019 := pw_le (by omega)
          have a2 : pw 1020 = 2 ^ 1 * pw 1019 := pw_split 1 1019 (by decide)
          have a3 : m * pw (1073 - g) ≤ 2 ^ 53 * pw 1019 := Nat.mul_le_mul (by omega) a1
          omega
      · have a1 : pw (1073 - g) ≤ pw 1020 := pw_le (by omega)
        have a3 : m * pw (1073 - g) ≤ (2 ^ 53 - 1) * pw 1020 := Nat.mul_le_mul (by omega) a1
        omega

/-! ### Sums and wholes that are exact -/
theorem signed_mul (s : Bool) (n c a : Nat) : signed s (n * 2 ^ c) a = signed s n (c + a) := by
  cases s
  · rw [signed_pos, signed_pos, Nat.pow_add, Nat.mul_assoc]
  · rw [signed_neg, signed_neg, Nat.pow_add, Nat.mul_assoc]

theorem read_exact (s : Bool) (n k : Nat) (p : Int) (h0 : 0 < n) (h1 : n < 2 ^ 53) (hp : -1000 ≤ p) (hpk : p + (k : Int) ≤ 800) :
    n.log2 ≤ 52 ∧ Nice (.number s (n * 2 ^ (52 - n.log2)) (p + k + n.log2 - 52)) ∧ double.read (double.nearest s (n * 2 ^ k) p) = .number s (n * 2 ^ (52 - n.log2)) (p + k + n.log2 - 52) := by
  have hn0 : n ≠ 0 := by omega
  have hL : n.log2 ≤ 52 := by have := (Nat.log2_lt hn0).2 h1; omega
  have a1 : 2 ^ n.log2 ≤ n := Nat.log2_self_le hn0
  have a2 : n < 2 ^ (n.log2 + 1) := Nat.lt_log2_self
  have hpc : 0 < 2 ^ (52 - n.log2) := Nat.two_pow_pos _
  have b1 : 2 ^ 52 ≤ n * 2 ^ (52 - n.log2) := by
    have e : 2 ^ 52 = 2 ^ n.log2 * 2 ^ (52 - n.log2) := by rw [← Nat.pow_add]; congr 1; omega
    rw [e]; exact Nat.mul_le_mul_right _ a1
  have b2 : n * 2 ^ (52 - n.log2) < 2 ^ 53 := by
    have e : 2 ^ 53 = 2 ^ (n.log2 + 1) * 2 ^ (52 - n.log2) := by rw [← Nat.pow_add]; congr 1; omega
    rw [e]; exact Nat.mul_lt_mul_of_pos_right a2 hpc
  have hpk0 : 0 < 2 ^ k := Nat.two_pow_pos _
  have hT0 : n * 2 ^ k ≠ 0 := Nat.ne_of_gt (Nat.mul_pos h0 hpk0)
  have hlT : (n * 2 ^ k).log2 = n.log2 + k := by
    refine log2_of ?_ ?_
    · rw [Nat.pow_add]; exact Nat.mul_le_mul_right _ a1
    · rw [show n.log2 + k + 1 = n.log2 + 1 + k by omega, Nat.pow_add]; exact Nat.mul_lt_mul_of_pos_right a2 hpk0
  refine ⟨hL, ⟨by omega, by omega, b2, .inr b1⟩, ?_⟩
  generalize hLe : n.log2 = L at *
  unfold Format.nearest
  rw [if_neg hT0, dFrac, dLeast, dBin, dInf, hlT]
  have e1 : max (p + ((L + k : Nat) : Int) - ((52 : Nat) : Int)) (-1074) = p + k + L - 52 := by omega
  dsimp only
  rw [e1]
  have e2 : (p + (k : Int) + (L : Int) - 52 - -1074).toNat = (p + (k : Int) + (L : Int) - 52 + 1074).toNat := by omega
  rw [e2]
  have hkept : Toward.even.cut s ((n * 2 ^ k) <<< (p - (p + (k : Int) + (L : Int) - 52)).toNat) (p + (k : Int) + (L : Int) - 52 - p).toNat = n * 2 ^ (52 - L) := by
    by_cases hc : L + k ≤ 52
    · have f1 : (p - (p + (k : Int) + (L : Int) - 52)).toNat = 52 - L - k := by omega
      have f2 : (p + (k : Int) + (L : Int) - 52 - p).toNat = 0 := by omega
      rw [f1, f2, Nat.shiftLeft_eq, cut_exact _ _ (by omega) (by rw [Nat.pow_zero, Nat.mod_one]), Nat.pow_zero, Nat.div_one, Nat.mul_assoc, ← Nat.pow_add]
      congr 2; omega
    · have f1 : (p - (p + (k : Int) + (L : Int) - 52)).toNat = 0 := by omega
      have f2 : (p + (k : Int) + (L : Int) - 52 - p).toNat = L + k - 52 := by omega
      have f3 : n * 2 ^ k = n * 2 ^ (52 - L) * 2 ^ (L + k - 52) := by rw [Nat.mul_assoc, ← Nat.pow_add]; congr 2; omega
      rw [f1, f2, Nat.shiftLeft_zero, cut_exact _ _ (by rw [hlT]; omega) (by rw [f3]; exact Nat.mul_mod_left _ _), f3, Nat.mul_div_cancel _ (Nat.two_pow_pos _)]
  rw [hkept, read_kept _ _ _ b1 (by omega) (by omega) (by omega), if_pos b2]

theorem V_exact (s : Bool) (n k : Nat) (p : Int) (h0 : 0 < n) (h1 : n < 2 ^ 53) (hp : -1000 ≤ p) (hpk : p + (k : Int) ≤ 800) :
    Nice (double.read (double.nearest s (n * 2 ^ k) p)) ∧ V (double.read (double.nearest s (n * 2 ^ k) p)) = signed s n (p + k + 1074).toNat := by
  obtain ⟨hL, hN, hr⟩ := read_exact s n k p h0 h1 hp hpk
  rw [hr]
  refine ⟨hN, ?_⟩
  simp only [V]
  rw [signed_mul]
  congr 1
  omega

theorem two_X : 2 * X = pw 1074 := by
  have := pw_split (c := 1074) 1 1073 (by decide)
  unfold X
  omega
theorem sp (m k : Nat) : signed false m k = ((m * pw k : Nat) : Int) := signed_pos m k
theorem sn (m k : Nat) : signed true m k = -((m * pw k : Nat) : Int) := signed_neg m k
theorem tn (k : Nat) (i : Int) (h : i = k) : i.toNat = k := by subst h; exact Int.toNat_natCast k

/-- float64(a), a from 1 to 65535. -/
theorem ofInt (a : Nat) (h : a ≤ 65535) : Nice (double.read (floatOfInt .f64 a)) ∧ V (double.read (floatOfInt .f64 a)) = ((a * (2 * X) : Nat) : Int) := by
  by_cases h0 : a = 0
  · subst h0
    have e : double.read (floatOfInt .f64 ((0 : Nat) : Int)) = .number false 0 (-1074) := by rfl
    rw [e, Nat.zero_mul]
    exact ⟨⟨by omega, by omega, by omega, by omega⟩, by rfl⟩
  · have e : floatOfInt .f64 (a : Int) = double.nearest false (a * 2 ^ 0) 0 := by
      rw [Nat.pow_zero, Nat.mul_one]
      have hd : decide ((a : Int) < 0) = false := decide_eq_false (by omega)
      show double.nearest (decide ((a : Int) < 0)) (a : Int).natAbs 0 = _
      rw [hd, Int.natAbs_natCast]
    rw [e]
    obtain ⟨h1, h2⟩ := V_exact false a 0 0 (by omega) (by omega) (by omega) (by omega)
    refine ⟨h1, ?_⟩
    rw [h2, two_X, sp, tn 1074 _ (by decide)]

theorem read_ofInt (a : Nat) (h : a ≤ 65535) (h0 : 0 < a) : ∃ m i, double.read (floatOfInt .f64 a) = .number false m i ∧ -53 ≤ i ∧ m * 2 ^ (i + 53).toNat = a * 2 ^ 53 := by
  have e : floatOfInt .f64 (a : Int) = double.nearest false (a * 2 ^ 0) 0 := by
    rw [Nat.pow_zero, Nat.mul_one]
    have hd : decide ((a : Int) < 0) = false := decide_eq_false (by omega)
    show double.nearest (decide ((a : Int) < 0)) (a : Int).natAbs 0 = _
    rw [hd, Int.natAbs_natCast]
  obtain ⟨hL, hN, hr⟩ := read_exact false a 0 0 h0 (by omega) (by omega) (by omega)
  rw [e]
  refine ⟨_, _, hr, by omega, ?_⟩
  rw [Nat.mul_assoc, ← Nat.pow_add]
  congr 2
  omega

/-- float64(a) + 1/2, a from 0 to 65535. -/
theorem add_whole (a : Nat) (h : a ≤ 65535) : ∃ r, double.add (floatOfInt .f64 a) half = some r ∧ Nice (double.read r) ∧ V (double.read r) = (((2 * a + 1) * X : Nat) : Int) := by
  by_cases h0 : a = 0
  · subst h0
    refine ⟨half, by decide +kernel, ?_⟩
    rw [read_half]
    refine ⟨⟨by omega, by omega, by omega, by omega⟩, ?_⟩
    simp only [V]
    rw [sp, tn 1021 _ (by decide), Nat.mul_zero, Nat.zero_add, Nat.one_mul, X_eq']
  · obtain ⟨m, i, hr, hi, hm⟩ := read_ofInt a h (by omega)
    have hmin : min i (-53) = -53 := by omega
    have hT : m * 2 ^ (i - -53).toNat + 2 ^ 52 * 2 ^ (-53 - -53 : Int).toNat = (2 * a + 1) * 2 ^ 52 := by
      have : (i - -53).toNat = (i + 53).toNat := by omega
      rw [this, hm]
      simp
      omega
    obtain ⟨h1, h2⟩ := V_exact false (2 * a + 1) 52 (-53) (by omega) (by omega) (by omega) (by omega)
    refine ⟨_, ?_, h1, ?_⟩
    · rw [Format.add, hr, read_half, sum_pos, hmin, hT]; rfl
    · rw [h2, sp, tn 1073 _ (by decide)]; rfl

/-- float64(a) - 1/2, a from 0 to 65535. -/
theorem sub_whole (a : Nat) (h : a ≤ 65535) : ∃ r, double.sub (floatOfInt .f64 a) half = some r ∧ Nice (double.read r) ∧ V (double.read r) = (2 * (a : Int) - 1) * (X : Int) := by
  by_cases h0 : a = 0
  · subst h0
    have e : double.read (2 ^ 63 + half) = .number true (2 ^ 52) (-53) := by rfl
    refine ⟨2 ^ 63 + half, by decide +kernel, ?_⟩
    rw [e]
    refine ⟨⟨by omega, by omega, by omega, by omega⟩, ?_⟩
    simp only [V]
    rw [sn, tn 1021 _ (by decide), ← X_eq']
    omega
  · obtain ⟨m, i, hr, hi, hm⟩ := read_ofInt a h (by omega)
    have hmin : min i (-53) = -53 := by omega
    obtain ⟨h1, h2⟩ := V_exact false (2 * a - 1) 52 (-53) (by omega) (by omega) (by omega) (by omega)
    have e1 : (i - -53).toNat = (i + 53).toNat := by omega
    have hsum : (Datum.number false m i).sum (Datum.number false (2 ^ 52) (-53)).opposite = some (.number false ((2 * a - 1) * 2 ^ 52) (-53)) := by
      simp only [Datum.opposite, Datum.sum, hmin, e1, signed_pos, hm]
      have e2 : signed (!false) (2 ^ 52) (-53 - -53 : Int).toNat = -((2 ^ 52 : Nat) : Int) := by rfl
      rw [e2]
      have e3 : ((a * 2 ^ 53 : Nat) : Int) + -((2 ^ 52 : Nat) : Int) = (((2 * a - 1) * 2 ^ 52 : Nat) : Int) := by omega
      rw [e3, Int.natAbs_natCast]
      congr 2
      rw [if_neg (by omega)]
      exact decide_eq_false (by omega)
    refine ⟨_, ?_, h1, ?_⟩
    · rw [Format.sub, hr, read_half, hsum]; rfl
    · rw [h2, sp, tn 1073 _ (by decide), Int.natCast_mul]
      show ((2 * a - 1 : Nat) : Int) * (X : Int) = _
      rw [show ((2 * a - 1 : Nat) : Int) = 2 * (a : Int) - 1 by omega]

end Go.Proofs.Qxb6604706a.Fl
