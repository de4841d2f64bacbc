/-
  What the law asks of ask and of draw: no node twice.
-/
import Derived.Test.Qxb6003312aStates
import Derived.Outline
namespace Go.Proofs.Qxb6003312a
open Go.RowKit Go.Deep

/-- What ask leaves, as the law of merging needs it. -/
def SentP (nd br bs : Nat) (V : Value) (w : World) (e : Ending) (w' : World) : Prop :=
  ∃ (x : Int) (y : Option Addr) (yn yc : Nat) (z : Bool) (V' : Value) (sa : Option Addr) (sn sc : Nat) (g : Nat → Int), e = .returned (.tuple #[.int .i64 x, .slice y yn yc, .bool z]) ∧ Node w' nd V' (.slice sa sn sc) ∧ Ids w' sa sn g ∧ (∀ i, i < sn → ∀ j, j < i → g i ≠ g j) ∧ sn ≤ 4096 ∧ sn ≤ sc ∧ sc ≤ maxLen ∧ (∃ l, Rng w' br bs l) ∧ Kp (fun k => k ≠ bs ∧ k ≠ nd ∧ V.ownBlock ≠ some k) w w'

theorem ids_cap {w : World} {B n : Nat} {S : Value} {D : Nat → Int × Int} (h : w.ownsRow B 2 1 S n (idL D n)) : ∃ a c, S = .slice a n c ∧ Ids w a n (fun j => (D j).1) ∧ n ≤ c ∧ c ≤ maxLen := by
  obtain ⟨a, c, rfl, hI⟩ := ids_of h
  obtain ⟨_, ⟨h1, h2⟩ | ⟨g, cap, cur, h1, hb, hg, hnc, hcm, hcs, htake⟩⟩ := h
  · injection h1 with e1 e2 e3
    subst e1; subst e3
    exact ⟨none, 0, rfl, hI, by omega, Nat.zero_le _⟩
  · injection h1 with e1 e2 e3
    subst e1; subst e3
    exact ⟨_, c, rfl, hI, hnc, hcm⟩

theorem delF_inj {E : Nat → Int × Int} {p i : Nat} (hE : NoRep (p + 1) E) : ∀ a, a < p → ∀ b, b < p → (delF E i a).1 = (delF E i b).1 → a = b := by
  have key : ∀ a b, a < p + 1 → b < p + 1 → (E a).1 = (E b).1 → a = b := fun a b ha hb e => by
    rcases Nat.lt_trichotomy a b with h | h | h
    · exact absurd e.symm (hE b hb a h)
    · exact h
    · exact absurd e (hE a ha b h)
  intro a ha b hb e
  unfold delF at e
  by_cases h1 : a < i
  · by_cases h2 : b < i
    · rw [if_pos h1, if_pos h2] at e; exact key a b (by omega) (by omega) e
    · rw [if_pos h1, if_neg h2] at e; have := key a (b + 1) (by omega) (by omega) e; omega
  · by_cases h2 : b < i
    · rw [if_neg h1, if_pos h2] at e; have := key (a + 1) b (by omega) (by omega) e; omega
    · rw [if_neg h1, if_neg h2] at e; have := key (a + 1) (b + 1) (by omega) (by omega) e; omega

theorem zask_sent (nd br bs left : Nat) (a : Option Addr) (n c : Nat) (v : Int) (l : Nat) (E : Nat → Int × Int) (w : World) (hn : n ≤ 4096) (hl : l + 1 ≤ 9223372036854775807) (hN : Node w nd (.slice a n c) (.slice none 0 0)) (hO : w.ownsRow 0 55 2 (.slice a n c) n (entL E n)) (hr : Rng w br bs left) (hE : NoRep n E) :
    Calls Try.prog 19 #[.pointer (some ⟨nd, 0, none⟩), .int .i64 v, .int .i64 ((l : Int) + 1), .pointer (some ⟨br, 0, none⟩)] w (SentP nd br bs (.slice a n c) w) := by
  cases n with
  | zero =>
    refine (zask_empty nd a c v _ _ w hN).mono ?_
    rintro e w' ⟨rfl, hN', k⟩
    have hN2 := hN
    obtain ⟨F, hF, _⟩ := hN2
    exact ⟨0, none, 0, 0, false, _, none, 0, 0, fun _ => 0, rfl, hN', .inl rfl, fun i hi => by omega, by omega, by omega, Nat.zero_le _, ⟨left, hr.off k hF (by decide)⟩, k.mono (fun _ _ h => h.2.1)⟩
  | succ p =>
    obtain ⟨a', c', he, _, hg⟩ := own_ents hO
    obtain ⟨A, ha, hOE, hb⟩ := hg (by omega)
    cases he
    subst ha
    refine (zask_some nd br bs A p c v l E w hn hl ⟨hN, hOE, ⟨left, hr⟩, Kp.refl _ _⟩).mono ?_
    rintro e w' ⟨i, π, S, g, c5, B, rfl, hold, hinj, hO5, hS5, hI5, hg5, _⟩
    obtain ⟨sa, sc, rfl, hI, h1, h2⟩ := ids_cap hI5
    refine ⟨_, _, _, _, _, _, sa, min l p, sc, _, rfl, hS5.1, hI, ?_, by omega, h1, h2, hS5.2.2.1, hS5.2.2.2.mono (fun k _ h => ⟨h.1, h.2.1, fun e => h.2.2 (by rw [e]; simp [Value.ownBlock])⟩)⟩
    intro i1 hi1 j1 hj1 e
    have hnr : NoRep (p + 1) (ag E) := hE
    have h3 := delF_inj hnr _ (hinj.1 i1 (by omega)) _ (hinj.1 j1 (by omega)) e
    have := hinj.2 i1 j1 (by omega) (by omega) h3
    omega

/-- What draw leaves, as the law of merging needs it. -/
def DrewP (n : Nat) (e : Ending) (w' : World) : Prop :=
  ∃ (a : Option Addr) (n' c' : Nat) (G : Nat → Int × Int), e = .returned (.slice a n' c') ∧ Ents w' a n' G ∧ Sl a n' c' ∧ NoRep n' G ∧ n' ≤ n

theorem zdraw_rep (br bs left : Nat) (a : Option Addr) (n c : Nat) (l : Nat) (E : Nat → Int × Int) (w : World) (hn : n ≤ 4096) (hl : l + 1 ≤ 9223372036854775807) (hs : Sl a n c) (h : Ents w a n E) (hr : Rng w br bs left) (hE : NoRep n E) :
    Calls Try.prog 8 #[.pointer (some ⟨br, 0, none⟩), .slice a n c, .int .i64 ((l : Int) + 1)] w fun e w' => DrewP n e w' ∧ Kp (· ≠ bs) w w' := by
  cases a with
  | none =>
    obtain ⟨rfl, rfl⟩ := hs rfl
    refine (zdraw_nil (some ⟨br, 0, none⟩) (l + 1) w).mono ?_
    rintro e w' ⟨rfl, rfl⟩
    exact ⟨⟨none, 0, 0, E, rfl, .inl rfl, fun _ => ⟨rfl, rfl⟩, hE, by omega⟩, Kp.refl _ _⟩
  | some x =>
    refine (zdraw_some br bs left x n c (l + 1) E w hn hl hr h).mono ?_
    rintro e w' ⟨g, c', π, left', rfl, hg, hinj, hO, hr', hk⟩
    refine ⟨⟨_, min (l + 1) n, c', fun j => E (π j), rfl, Ents.of_head (hO.less (by omega)).head, fun h => (by cases h), ?_, by omega⟩, hk⟩
    intro i hi j hj e
    have h1 := hinj.1 i (by omega)
    have h2 := hinj.1 j (by omega)
    have h3 : π i ≠ π j := fun e => by have := hinj.2 i j (by omega) (by omega) e; omega
    rcases Nat.lt_or_gt_of_ne h3 with h | h
    · exact hE (π j) h2 (π i) h e.symm
    · exact hE (π i) h1 (π j) h e

/-- Two entries, as a function of the place. -/
def twoF (p q : Int × Int) (j : Nat) : Int × Int := if j = 0 then p else q

theorem new_cell (w : World) (cs : Array Value) (t : TypeId) (i : Nat) : (w.alloc (.cells cs t)).cell? ⟨w.heap.size, i, none⟩ = cs[i]? := by
  have hb := blk_alloc_new w (.cells cs t)
  unfold World.cell?
  dsimp only
  rw [hb]
  rfl

theorem two_ents (w : World) (a b c d : Int) : Ents (w.alloc (.cells #[.int .i64 a, .int .i64 b, .int .i64 c, .int .i64 d] 33)) (some ⟨w.heap.size, 0, none⟩) 2 (twoF (a, b) (c, d)) := by
  refine .inr ⟨w.heap.size, 0, rfl, by rw [nblk_alloc]; omega, fun i hi => ?_⟩
  rw [new_cell, new_cell]
  rcases (show i = 0 ∨ i = 1 by omega) with rfl | rfl
  · exact ⟨rfl, rfl⟩
  · exact ⟨rfl, rfl⟩

theorem two_ids (w : World) (u : Int) : Ids (w.alloc (.cells #[.int .i64 u, .int .i64 u] 2)) (some ⟨w.heap.size, 0, none⟩) 2 (fun _ => u) := by
  refine .inr ⟨w.heap.size, 0, rfl, by rw [nblk_alloc]; omega, fun i hi => ?_⟩
  rw [new_cell]
  rcases (show i = 0 ∨ i = 1 by omega) with rfl | rfl
  · rfl
  · rfl

theorem repl_two {n : Nat} {E : Nat → Int × Int} (h : 0 < n) : repl n E (fun _ => (E 0).1) 2 = [0, 0] := by
  have hf : firstIdx n E (E 0).1 = some 0 := firstIdx_mk h rfl (fun j hj => by omega)
  rw [repl_succ, repl_succ, hf]
  rfl

end Go.Proofs.Qxb6003312a
