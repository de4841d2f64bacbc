/-
  Merging entries into a view: the plain function, and what it keeps. No Go text here.
-/
import Derived.Test.Qxb6003312aCount
namespace Go.Proofs.Qxb6003312a

/-- Where first does one of the first n entries name u? -/
def firstIdx (n : Nat) (E : Nat → Int × Int) (u : Int) : Option Nat := (List.range n).find? fun i => (E i).1 == u

theorem firstIdx_mk {n : Nat} {E : Nat → Int × Int} {u : Int} {i : Nat} (hi : i < n) (he : (E i).1 = u) (hf : ∀ j, j < i → (E j).1 ≠ u) : firstIdx n E u = some i := by
  unfold firstIdx
  rw [List.find?_range_eq_some]
  exact ⟨by simp [he], List.mem_range.2 hi, fun j hj => by simpa using hf j hj⟩
theorem firstIdx_none {n : Nat} {E : Nat → Int × Int} {u : Int} (hf : ∀ j, j < n → (E j).1 ≠ u) : firstIdx n E u = none := by
  unfold firstIdx
  rw [List.find?_eq_none]
  intro j hj
  simpa using hf j (List.mem_range.1 hj)
theorem firstIdx_some {n : Nat} {E : Nat → Int × Int} {u : Int} {i : Nat} (h : firstIdx n E u = some i) : i < n ∧ (E i).1 = u := by
  unfold firstIdx at h
  rw [List.find?_range_eq_some] at h
  exact ⟨List.mem_range.1 h.2.1, by simpa using h.1⟩
theorem firstIdx_not {n : Nat} {E : Nat → Int × Int} {u : Int} (h : firstIdx n E u = none) : ∀ j, j < n → (E j).1 ≠ u := by
  unfold firstIdx at h
  rw [List.find?_eq_none] at h
  intro j hj
  simpa using h j (List.mem_range.2 hj)

/-- A view while entries are merged into it: its length, its entries, the places that may still be replaced; whether the merge has ended. -/
structure MS where
  n : Nat
  E : Nat → Int × Int
  R : List Nat
  stop : Bool

def put (E : Nat → Int × Int) (i : Nat) (e : Int × Int) (j : Nat) : Int × Int := if j = i then e else E j
theorem put_at (E : Nat → Int × Int) (i : Nat) (e : Int × Int) : put E i e i = e := by unfold put; rw [if_pos rfl]
theorem put_other (E : Nat → Int × Int) {i j : Nat} (e : Int × Int) (h : j ≠ i) : put E i e j = E j := by unfold put; rw [if_neg h]

def mstep (v c : Int) (s : MS) (e : Int × Int) : MS :=
  if s.stop = true then s
  else if e.1 = v ∨ (firstIdx s.n s.E e.1).isSome = true then s
  else if (s.n : Int) < c then ⟨s.n + 1, put s.E s.n e, s.R, false⟩
  else match s.R with
    | [] => ⟨s.n, s.E, [], true⟩
    | r :: R => ⟨s.n, put s.E r e, R, false⟩

def mrun (v c : Int) (F : Nat → Int × Int) (s : MS) : Nat → MS
  | 0 => s
  | j + 1 => mstep v c (mrun v c F s j) (F j)

def NoRep (n : Nat) (E : Nat → Int × Int) : Prop := ∀ i, i < n → ∀ j, j < i → (E i).1 ≠ (E j).1

/-- What merging keeps. -/
structure Keeps (v c : Int) (n0 : Nat) (E0 : Nat → Int × Int) (m : Nat) (F : Nat → Int × Int) (s : MS) : Prop where
  len : (s.n : Int) ≤ c
  rep : NoRep s.n s.E
  own : ∀ i, i < s.n → (s.E i).1 ≠ v
  src : ∀ i, i < s.n → (∃ a, a < n0 ∧ E0 a = s.E i) ∨ ∃ a, a < m ∧ F a = s.E i
  low : n0 ≤ s.n
  pos : ∀ r, r ∈ s.R → r < n0

theorem mstep_cases (v c : Int) (s : MS) (e : Int × Int) :
    mstep v c s e = s ∨ (mstep v c s e = ⟨s.n, s.E, [], true⟩ ∧ s.R = []) ∨
    (e.1 ≠ v ∧ (∀ i, i < s.n → (s.E i).1 ≠ e.1) ∧ ((((s.n : Int) < c) ∧ mstep v c s e = ⟨s.n + 1, put s.E s.n e, s.R, false⟩) ∨
      ∃ r R, s.R = r :: R ∧ mstep v c s e = ⟨s.n, put s.E r e, R, false⟩)) := by
  unfold mstep
  by_cases h0 : s.stop = true
  · rw [if_pos h0]; exact .inl rfl
  · rw [if_neg h0]
    by_cases h1 : e.1 = v ∨ (firstIdx s.n s.E e.1).isSome = true
    · rw [if_pos h1]; exact .inl rfl
    · rw [if_neg h1]
      have hv : e.1 ≠ v := fun h => h1 (.inl h)
      have hn : firstIdx s.n s.E e.1 = none := by
        cases hf : firstIdx s.n s.E e.1 with
        | none => rfl
        | some i => exact absurd (.inr (by rw [hf]; rfl)) h1
      by_cases h2 : (s.n : Int) < c
      · rw [if_pos h2]; exact .inr (.inr ⟨hv, firstIdx_not hn, .inl ⟨h2, rfl⟩⟩)
      · rw [if_neg h2]
        cases hR : s.R with
        | nil => exact .inr (.inl ⟨rfl, rfl⟩)
        | cons r R => exact .inr (.inr ⟨hv, firstIdx_not hn, .inr ⟨r, R, rfl, rfl⟩⟩)

theorem Keeps.step {v c : Int} {n0 : Nat} {E0 : Nat → Int × Int} {m : Nat} {F : Nat → Int × Int} {s : MS} (h : Keeps v c n0 E0 m F s) {j : Nat} (hj : j < m) : Keeps v c n0 E0 m F (mstep v c s (F j)) := by
  rcases mstep_cases v c s (F j) with e | ⟨e, _⟩ | ⟨hv, hf, ⟨hlt, e⟩ | ⟨r, R, hR, e⟩⟩
  · rw [e]; exact h
  · rw [e]; exact ⟨h.len, h.rep, h.own, h.src, h.low, fun r hr => by cases hr⟩
  · rw [e]
    have hat : ∀ i, i < s.n + 1 → (i = s.n ∧ put s.E s.n (F j) i = F j) ∨ (i < s.n ∧ put s.E s.n (F j) i = s.E i) := fun i hi => by
      by_cases h1 : i = s.n
      · subst h1; exact .inl ⟨rfl, put_at _ _ _⟩
      · exact .inr ⟨by omega, put_other _ _ h1⟩
    refine ⟨by show ((s.n + 1 : Nat) : Int) ≤ c; omega, fun i hi k hk => ?_, fun i hi => ?_, fun i hi => ?_, by show n0 ≤ s.n + 1; have := h.low; omega, h.pos⟩
    · show (put s.E s.n (F j) i).1 ≠ (put s.E s.n (F j) k).1
      rcases hat i hi with ⟨e1, e2⟩ | ⟨e1, e2⟩
      · rw [e2, put_other _ _ (show k ≠ s.n by omega)]; exact fun e => hf k (by omega) e.symm
      · rw [e2, put_other _ _ (show k ≠ s.n by omega)]; exact h.rep i e1 k hk
    · show (put s.E s.n (F j) i).1 ≠ v
      rcases hat i hi with ⟨e1, e2⟩ | ⟨e1, e2⟩
      · rw [e2]; exact hv
      · rw [e2]; exact h.own i e1
    · show (∃ a, a < n0 ∧ E0 a = put s.E s.n (F j) i) ∨ ∃ a, a < m ∧ F a = put s.E s.n (F j) i
      rcases hat i hi with ⟨e1, e2⟩ | ⟨e1, e2⟩
      · rw [e2]; exact .inr ⟨j, hj, rfl⟩
      · rw [e2]; exact h.src i e1
  · rw [e]
    have hat : ∀ i, (i = r ∧ put s.E r (F j) i = F j) ∨ (i ≠ r ∧ put s.E r (F j) i = s.E i) := fun i => by
      by_cases h1 : i = r
      · subst h1; exact .inl ⟨rfl, put_at _ _ _⟩
      · exact .inr ⟨h1, put_other _ _ h1⟩
    refine ⟨h.len, fun i hi k hk => ?_, fun i hi => ?_, fun i hi => ?_, h.low, fun q hq => h.pos q (by rw [hR]; exact List.mem_cons_of_mem _ hq)⟩
    · show (put s.E r (F j) i).1 ≠ (put s.E r (F j) k).1
      have hi' : i < s.n := hi
      rcases hat i with ⟨e1, e2⟩ | ⟨e1, e2⟩
      · rw [e2, put_other _ _ (show k ≠ r by omega)]; exact fun e => hf k (by omega) e.symm
      · rw [e2]
        rcases hat k with ⟨e3, e4⟩ | ⟨e3, e4⟩
        · rw [e4]; exact hf i hi'
        · rw [e4]; exact h.rep i hi k hk
    · show (put s.E r (F j) i).1 ≠ v
      rcases hat i with ⟨e1, e2⟩ | ⟨e1, e2⟩
      · rw [e2]; exact hv
      · rw [e2]; exact h.own i hi
    · show (∃ a, a < n0 ∧ E0 a = put s.E r (F j) i) ∨ ∃ a, a < m ∧ F a = put s.E r (F j) i
      rcases hat i with ⟨e1, e2⟩ | ⟨e1, e2⟩
      · rw [e2]; exact .inr ⟨j, hj, rfl⟩
      · rw [e2]; exact h.src i hi

theorem Keeps.run {v c : Int} {n0 : Nat} {E0 : Nat → Int × Int} {m : Nat} {F : Nat → Int × Int} {s : MS} (h : Keeps v c n0 E0 m F s) : ∀ j, j ≤ m → Keeps v c n0 E0 m F (mrun v c F s j)
  | 0, _ => h
  | j + 1, hj => (h.run j (by omega)).step (by omega)

/-- Of a step: the view grows no shorter, and only the place at the list's head may turn. -/
theorem mstep_diff (v c : Int) (s : MS) (e : Int × Int) : s.n ≤ (mstep v c s e).n ∧ (∀ i, i < s.n → (mstep v c s e).E i ≠ s.E i → ∃ R, s.R = i :: R ∧ (mstep v c s e).R = R) ∧ ∀ r, r ∈ (mstep v c s e).R → r ∈ s.R := by
  rcases mstep_cases v c s e with h | ⟨h, hR⟩ | ⟨_, _, ⟨_, h⟩ | ⟨r, R, hR, h⟩⟩
  · rw [h]; exact ⟨Nat.le_refl _, fun i _ hne => absurd rfl hne, fun r hr => hr⟩
  · rw [h]; exact ⟨Nat.le_refl _, fun i _ hne => absurd rfl hne, fun r hr => by cases hr⟩
  · rw [h]; exact ⟨by show s.n ≤ s.n + 1; omega, fun i hi hne => absurd (put_other _ _ (by omega)) hne, fun r hr => hr⟩
  · rw [h]
    refine ⟨Nat.le_refl _, fun i hi hne => ?_, fun q hq => by rw [hR]; exact List.mem_cons_of_mem _ hq⟩
    by_cases e1 : i = r
    · subst e1; exact ⟨R, hR, rfl⟩
    · exact absurd (put_other _ _ e1) hne

/-- The places of the entries that name the first k of the nodes f. -/
def repl (n : Nat) (E : Nat → Int × Int) (f : Nat → Int) (k : Nat) : List Nat := (List.range k).filterMap fun j => firstIdx n E (f j)

theorem repl_succ (n : Nat) (E : Nat → Int × Int) (f : Nat → Int) (k : Nat) : repl n E f (k + 1) = repl n E f k ++ (firstIdx n E (f k)).toList := by
  unfold repl
  rw [List.range_succ, List.filterMap_append]
  cases h : firstIdx n E (f k) <;> simp [h]

theorem repl_mem {n : Nat} {E : Nat → Int × Int} {f : Nat → Int} {k r : Nat} (h : r ∈ repl n E f k) : r < n ∧ ∃ j, j < k ∧ f j = (E r).1 := by
  unfold repl at h
  rw [List.mem_filterMap] at h
  obtain ⟨j, hj, he⟩ := h
  have := firstIdx_some he
  exact ⟨this.1, j, List.mem_range.1 hj, this.2.symm⟩

theorem repl_len (n : Nat) (E : Nat → Int × Int) (f : Nat → Int) (k : Nat) : (repl n E f k).length ≤ k := by
  have := List.length_filterMap_le (fun j => firstIdx n E (f j)) (List.range k)
  unfold repl
  rw [List.length_range] at this
  exact this

theorem repl_nodup {n : Nat} {E : Nat → Int × Int} {f : Nat → Int} : ∀ {k : Nat}, (∀ i, i < k → ∀ j, j < i → f i ≠ f j) → (repl n E f k).Nodup
  | 0, _ => List.nodup_nil
  | k + 1, h => by
    rw [repl_succ, List.nodup_append]
    refine ⟨repl_nodup (fun i hi j hj => h i (by omega) j hj), ?_, fun a ha b hb e => ?_⟩
    · cases firstIdx n E (f k) with
      | none => exact List.nodup_nil
      | some i => simp
    · subst e
      cases hf : firstIdx n E (f k) with
      | none => rw [hf] at hb; cases hb
      | some i =>
        rw [hf] at hb
        simp at hb
        subst hb
        obtain ⟨_, j, hj, he⟩ := repl_mem ha
        have := (firstIdx_some hf).2
        exact h k (by omega) j hj (by rw [he, this])

/-- What the law's marks say: no marked place is still to be replaced. -/
def Marks (U : Nat → Bool) (s : MS) : Prop := s.R.Nodup ∧ ∀ i, U i = true → i ∉ s.R

theorem Marks.step {U U' : Nat → Bool} {s : MS} {v c : Int} {e : Int × Int} (h : Marks U s) (hU : ∀ i, U' i = true → U i = true ∨ (i < s.n ∧ (mstep v c s e).E i ≠ s.E i)) : Marks U' (mstep v c s e) := by
  obtain ⟨hd, hm⟩ := h
  obtain ⟨_, hdiff, hsub⟩ := mstep_diff v c s e
  refine ⟨?_, fun i hi hin => ?_⟩
  · rcases mstep_cases v c s e with h | ⟨h, _⟩ | ⟨_, _, ⟨_, h⟩ | ⟨r, R, hR, h⟩⟩
    · rw [h]; exact hd
    · rw [h]; exact List.nodup_nil
    · rw [h]; exact hd
    · rw [h]
      rw [hR] at hd
      exact (List.nodup_cons.1 hd).2
  · rcases hU i hi with h1 | ⟨h1, h2⟩
    · exact hm i h1 (hsub i hin)
    · obtain ⟨R, hR, hR'⟩ := hdiff i h1 h2
      rw [hR'] at hin
      rw [hR] at hd
      exact (List.nodup_cons.1 hd).1 hin

/-- Two newcomers on a full view, the first's place given twice. -/
theorem merge_two {v c : Int} {n : Nat} {E : Nat → Int × Int} {e1 e2 : Int × Int} {F : Nat → Int × Int} (hc : (n : Int) = c) (h1 : e1.1 ≠ v) (h1' : ∀ i, i < n → (E i).1 ≠ e1.1) (h2 : e2.1 ≠ v) (h2' : ∀ i, i < n → (E i).1 ≠ e2.1) (h12 : e1.1 ≠ e2.1) (hF0 : F 0 = e1) (hF1 : F 1 = e2) :
    (mrun v c F ⟨n, E, [0, 0], false⟩ 2).n = n ∧ (mrun v c F ⟨n, E, [0, 0], false⟩ 2).E 0 = e2 ∧ ∀ i, i < n → ((mrun v c F ⟨n, E, [0, 0], false⟩ 2).E i).1 ≠ e1.1 := by
  have s1 : mstep v c ⟨n, E, [0, 0], false⟩ e1 = ⟨n, put E 0 e1, [0], false⟩ := by
    unfold mstep
    rw [if_neg (by simp), if_neg (by rintro (h | h); exact h1 h; rw [firstIdx_none (fun i hi => h1' i hi)] at h; cases h), if_neg (by show ¬ (n : Int) < c; omega)]
  have s2 : mstep v c ⟨n, put E 0 e1, [0], false⟩ e2 = ⟨n, put (put E 0 e1) 0 e2, [], false⟩ := by
    unfold mstep
    have hf : firstIdx n (put E 0 e1) e2.1 = none := firstIdx_none (fun i hi => by
      by_cases h0 : i = 0
      · subst h0; rw [put_at]; exact h12
      · rw [put_other _ _ h0]; exact h2' i hi)
    rw [if_neg (by simp), if_neg (by rintro (h | h); exact h2 h; rw [hf] at h; cases h), if_neg (by show ¬ (n : Int) < c; omega)]
  have e : mrun v c F ⟨n, E, [0, 0], false⟩ 2 = ⟨n, put (put E 0 e1) 0 e2, [], false⟩ := by
    show mstep v c (mstep v c ⟨n, E, [0, 0], false⟩ (F 0)) (F 1) = _
    rw [hF0, hF1, s1, s2]
  rw [e]
  refine ⟨rfl, put_at (put E 0 e1) 0 e2, fun i hi => ?_⟩
  show (put (put E 0 e1) 0 e2 i).1 ≠ e1.1
  by_cases h0 : i = 0
  · subst h0; rw [put_at]; exact fun h => h12 h.symm
  · rw [put_other _ _ h0, put_other _ _ h0]; exact h1' i hi

/-- Among n + 2 numbers in a row one is neither v nor named by n entries. -/
theorem fresh_exists (n : Nat) (E : Nat → Int × Int) (v x : Int) : ∃ i, i < n + 2 ∧ x + (i : Int) ≠ v ∧ ∀ j, j < n → (E j).1 ≠ x + (i : Int) := by
  by_cases hex : ∃ i, i < n + 2 ∧ x + (i : Int) ≠ v ∧ ∀ j, j < n → (E j).1 ≠ x + (i : Int)
  · exact hex
  · exfalso
    have hall : ∀ i, i < n + 2 → (firstIdx n E (x + (i : Int))).getD n < n + 1 ∧ ((firstIdx n E (x + (i : Int))).getD n < n → (E ((firstIdx n E (x + (i : Int))).getD n)).1 = x + (i : Int)) ∧ ((firstIdx n E (x + (i : Int))).getD n = n → x + (i : Int) = v) := by
      intro i hi
      cases hf : firstIdx n E (x + (i : Int)) with
      | some k =>
        have := firstIdx_some hf
        simp only [Option.getD_some]
        exact ⟨by omega, fun _ => this.2, fun h => by omega⟩
      | none =>
        simp only [Option.getD_none]
        refine ⟨by omega, fun h => by omega, fun _ => ?_⟩
        by_cases hv : x + (i : Int) = v
        · exact hv
        · exact absurd ⟨i, hi, hv, firstIdx_not hf⟩ hex
    have hc := cnt_inj (fun _ => true) (fun i => (firstIdx n E (x + (i : Int))).getD n) (n + 1) (n + 2) (fun _ => true) (fun k hk _ => ⟨(hall k hk).1, rfl⟩) (fun a b ha hb e => by
      by_cases hl : (firstIdx n E (x + (a : Int))).getD n < n
      · have h1 := (hall a ha).2.1 hl
        have h2 := (hall b hb).2.1 (by omega)
        rw [e] at h1
        rw [h1] at h2
        omega
      · have h0 := (hall a ha).1
        have h1 := (hall a ha).2.2 (by omega)
        have h2 := (hall b hb).2.2 (by omega)
        omega)
    have ct : ∀ k, cnt (fun _ => true) k = k := by
      intro k
      induction k with
      | zero => rfl
      | succ k ih => simp [cnt, ih]
    rw [ct, ct] at hc
    omega

end Go.Proofs.Qxb6003312a
