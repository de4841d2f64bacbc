/-
  Counting: that the greedy matching of zzSubMultiset finds its place each time. Plain; no Go text here.
-/
import Derived.Test.Qxb6003312aDraw
namespace Go.Proofs.Qxb6003312a

def cnt (p : Nat → Bool) : Nat → Nat
  | 0 => 0
  | n + 1 => cnt p n + (p n).toNat

theorem cnt_congr {p q : Nat → Bool} : ∀ n, (∀ i, i < n → p i = q i) → cnt p n = cnt q n
  | 0, _ => rfl
  | n + 1, h => by simp only [cnt]; rw [cnt_congr n (fun i hi => h i (by omega)), h n (by omega)]

theorem toNat_mono {a b : Bool} (h : a = true → b = true) : a.toNat ≤ b.toNat := by
  cases a
  · exact Nat.zero_le _
  · rw [h rfl]; exact Nat.le_refl _

theorem cnt_le {p q : Nat → Bool} : ∀ n, (∀ i, i < n → p i = true → q i = true) → cnt p n ≤ cnt q n
  | 0, _ => Nat.le_refl _
  | n + 1, h => by
    have h1 := cnt_le n (fun i hi => h i (by omega))
    have h2 := toNat_mono (h n (by omega))
    simp only [cnt]
    omega

theorem cnt_mono (p : Nat → Bool) {n m : Nat} (h : n ≤ m) : cnt p n ≤ cnt p m := by
  induction m with
  | zero => rw [show n = 0 by omega]; exact Nat.le_refl _
  | succ m ih =>
    by_cases e : n = m + 1
    · rw [e]; exact Nat.le_refl _
    · have := ih (by omega)
      simp only [cnt]
      omega

theorem cnt_remove {q : Nat → Bool} {j : Nat} : ∀ m, j < m → q j = true → cnt q m = cnt (fun i => q i && i != j) m + 1
  | m + 1, hj, hq => by
    simp only [cnt]
    by_cases e : j = m
    · subst e
      have h1 : cnt q j = cnt (fun i => q i && i != j) j := cnt_congr j (fun i hi => by
        have : (i != j) = true := by rw [bne_iff_ne]; omega
        rw [this, Bool.and_true])
      rw [h1, hq]
      simp
    · have ih := cnt_remove m (by omega) hq
      rw [ih]
      have : (m != j) = true := by rw [bne_iff_ne]; omega
      rw [this, Bool.and_true]
      omega

/-- Into other places, each once. -/
theorem cnt_inj (p : Nat → Bool) (σ : Nat → Nat) (m : Nat) : ∀ (n : Nat) (q : Nat → Bool), (∀ k, k < n → p k = true → σ k < m ∧ q (σ k) = true) → (∀ a b, a < n → b < n → σ a = σ b → a = b) → cnt p n ≤ cnt q m
  | 0, _, _, _ => Nat.zero_le _
  | n + 1, q, h, hi => by
    simp only [cnt]
    cases hp : p n with
    | false =>
      have := cnt_inj p σ m n q (fun k hk => h k (by omega)) (fun a b ha hb => hi a b (by omega) (by omega))
      simpa using this
    | true =>
      obtain ⟨h1, h2⟩ := h n (by omega) hp
      have ih := cnt_inj p σ m n (fun i => q i && i != σ n) (fun k hk hpk => ⟨(h k (by omega) hpk).1, by
        have hne : (σ k != σ n) = true := by
          rw [bne_iff_ne]
          intro e
          have := hi k n (by omega) (by omega) e
          omega
        rw [(h k (by omega) hpk).2, hne]; rfl⟩) (fun a b ha hb => hi a b (by omega) (by omega))
      rw [cnt_remove m h1 h2]
      simpa using ih

theorem cnt_gap {p q : Nat → Bool} {m : Nat} (h : cnt p m < cnt q m) : ∃ j, j < m ∧ q j = true ∧ p j = false := by
  by_cases hex : ∃ j, j < m ∧ q j = true ∧ p j = false
  · exact hex
  · have : cnt q m ≤ cnt p m := cnt_le m (fun i hi hq => by
      cases hp : p i with
      | true => rfl
      | false => exact absurd ⟨i, hi, hq, hp⟩ hex)
    omega

/-- How many of the first n entries equal x. -/
def cntE (E : Nat → Int × Int) (x : Int × Int) (n : Nat) : Nat := cnt (fun i => decide (E i = x)) n

/-- After k entries have been matched: of each value, as many places are used as there were entries. -/
def Used (E F : Nat → Int × Int) (m k : Nat) (u : Nat → Bool) : Prop := ∀ x, cnt (fun j => u j && decide (F j = x)) m = cntE E x k

theorem used_zero (E F : Nat → Int × Int) (m : Nat) : Used E F m 0 (fun _ => false) := by
  intro x
  show cnt (fun j => false && decide (F j = x)) m = 0
  have h : cnt (fun j => false && decide (F j = x)) m ≤ cnt (fun _ => false) m := cnt_le m (fun i _ h => by simp at h)
  have z : ∀ n, cnt (fun _ => false) n = 0 := by
    intro n
    induction n with
    | zero => rfl
    | succ n ih => simp [cnt, ih]
  rw [z] at h
  omega

theorem used_step (E F : Nat → Int × Int) (n m : Nat) (hc : ∀ x, cntE E x n ≤ cntE F x m) (k : Nat) (u : Nat → Bool) (hk : k < n) (h : Used E F m k u) :
    (∃ j, j < m ∧ u j = false ∧ F j = E k) ∧ ∀ j, j < m → u j = false → F j = E k → Used E F m (k + 1) (fun i => if i = j then true else u i) := by
  refine ⟨?_, ?_⟩
  · have h1 := h (E k)
    have h2 : cntE E (E k) (k + 1) ≤ cntE E (E k) n := cnt_mono _ (by omega)
    have h3 := hc (E k)
    have h4 : cntE E (E k) (k + 1) = cntE E (E k) k + 1 := by simp [cntE, cnt]
    obtain ⟨j, hj, hq, hp⟩ := cnt_gap (p := fun j => u j && decide (F j = E k)) (q := fun j => decide (F j = E k)) (m := m) (by unfold cntE at *; omega)
    refine ⟨j, hj, ?_, by simpa using hq⟩
    rw [hq, Bool.and_true] at hp
    exact hp
  · intro j hj hu hF x
    have h1 := h x
    by_cases hx : F j = x
    · have e1 := cnt_remove (q := fun i => (if i = j then true else u i) && decide (F i = x)) m hj (by simp [hx])
      rw [e1]
      have e2 : cnt (fun i => ((if i = j then true else u i) && decide (F i = x)) && i != j) m = cnt (fun i => u i && decide (F i = x)) m := cnt_congr m (fun i _ => by
        by_cases e : i = j
        · subst e; rw [hu]; simp
        · have : (i != j) = true := by rw [bne_iff_ne]; exact e
          rw [if_neg e, this, Bool.and_true])
      rw [e2, h1]
      have : E k = x := by rw [← hF]; exact hx
      simp [cntE, cnt, this]
    · have e2 : cnt (fun i => (if i = j then true else u i) && decide (F i = x)) m = cnt (fun i => u i && decide (F i = x)) m := cnt_congr m (fun i _ => by
        by_cases e : i = j
        · subst e; simp [hx]
        · rw [if_neg e])
      rw [e2, h1]
      have : ¬ E k = x := by rw [← hF]; exact hx
      simp [cntE, cnt, this]

/-- Entries picked from n places, each once: no more of any value. -/
theorem cntE_pick (E : Nat → Int × Int) (π : Nat → Nat) (n k : Nat) (h : Inj n π) (hk : k ≤ n) (x : Int × Int) : cntE (fun j => E (π j)) x k ≤ cntE E x n :=
  cnt_inj _ π n k _ (fun i hi hp => ⟨h.1 i (by omega), hp⟩) (fun a b ha hb e => h.2 a b (by omega) (by omega) e)

theorem cntE_congr {E F : Nat → Int × Int} {n : Nat} (h : ∀ i, i < n → E i = F i) (x : Int × Int) : cntE E x n = cntE F x n := cnt_congr n (fun i hi => by rw [h i hi])

end Go.Proofs.Qxb6003312a
