/-
  The row of merged views that the law keeps; plain facts on them.
-/
import Derived.Test.Qxb6003312aZmerge
import Derived.Test.Qxb6003312aLaw5
import Derived.Deep.DeepCutAuto
import Derived.Outline
namespace Go.Proofs.Qxb6003312a
open Go.RowKit Go.Deep

/-- The first t of the views that the row at SB holds are the first t merges; where they lie. -/
def Sts (SB : Nat) (ok : Nat → Prop) (M : Nat → MS) (t m1 : Nat) (W : World) : Prop :=
  ∃ g : Nat → Value, HeadIs W SB 22 m1 g ∧ ∀ i, i < t → ∃ a, g i = .slice a (M i).n (M i).n ∧ Ents W a (M i).n (M i).E ∧ Sl a (M i).n (M i).n ∧ ((M i).n ≠ 0 → ∀ b off, a = some ⟨b, off, none⟩ → ok b)

theorem ents_part {w w' : World} {a : Option Addr} {n : Nat} {E : Nat → Int × Int} {p : Nat → Prop} (h : Ents w a n E) (k : Kp p w w') (hp : n ≠ 0 → ∀ b off, a = some ⟨b, off, none⟩ → p b) : Ents w' a n E := by
  by_cases h0 : n = 0
  · exact .inl h0
  rcases h with h | ⟨b, off, rfl, hb, hc⟩
  · exact .inl h
  · exact .inr ⟨b, off, rfl, Nat.lt_of_lt_of_le hb k.size, fun i hi => ⟨(k.cell (by exact hb) (hp h0 b off rfl)).trans (hc i hi).1, (k.cell (by exact hb) (hp h0 b off rfl)).trans (hc i hi).2⟩⟩

theorem Sts.part {SB : Nat} {ok : Nat → Prop} {M : Nat → MS} {t m1 : Nat} {W W' : World} {p : Nat → Prop} (h : Sts SB ok M t m1 W) (k : Kp p W W') (hp : p SB) (hp2 : ∀ b, ok b → p b) : Sts SB ok M t m1 W' := by
  obtain ⟨g, hH, hg⟩ := h
  refine ⟨g, hH.kp k hp, fun i hi => ?_⟩
  obtain ⟨a, e, hE, hs, hb⟩ := hg i hi
  exact ⟨a, e, ents_part hE k (fun h0 b off e => hp2 b (hb h0 b off e)), hs, hb⟩
theorem Sts.all {SB : Nat} {ok : Nat → Prop} {M : Nat → MS} {t m1 : Nat} {W W' : World} (h : Sts SB ok M t m1 W) (k : Kp All W W') : Sts SB ok M t m1 W' := h.part k trivial (fun _ _ => trivial)
theorem Sts.lt {SB : Nat} {ok : Nat → Prop} {M : Nat → MS} {t m1 : Nat} {W : World} (h : Sts SB ok M t m1 W) : SB < W.heap.size := by
  obtain ⟨g, hH, hg⟩ := h
  exact hH.lt
theorem Sts.low {SB : Nat} {ok : Nat → Prop} {M : Nat → MS} {t m1 : Nat} {W : World} (h : Sts SB ok M t m1 W) : Sts SB (· < W.heap.size) M t m1 W := by
  obtain ⟨g, hH, hg⟩ := h
  refine ⟨g, hH, fun i hi => ?_⟩
  obtain ⟨a, e, hE, hs, hb⟩ := hg i hi
  refine ⟨a, e, hE, hs, fun h0 b off e => ?_⟩
  obtain ⟨b', off', e', hb', _⟩ := ents_cells hE h0
  rw [e'] at e
  injection e with e
  injection e with e1 e2
  omega
theorem Sts.put {SB : Nat} {M : Nat → MS} {t m1 : Nat} {W W' : World} {a : Option Addr} (h : Sts SB (SB < ·) M t m1 W) (k : Kp All W W') (hE : Ents W' a (M t).n (M t).E) (hs : Sl a (M t).n (M t).n) (hb : ∀ b off, a = some ⟨b, off, none⟩ → W.heap.size ≤ b) :
    Sts SB (SB < ·) M (t + 1) m1 (W'.setCell ⟨SB, t, none⟩ (.slice a (M t).n (M t).n)) := by
  have hlt := h.lt
  obtain ⟨g, hH, hg⟩ := h
  have k2 : Kp (· ≠ SB) W' (W'.setCell ⟨SB, t, none⟩ (.slice a (M t).n (M t).n)) := (Kp.refl _ _).setCell (fun _ h => h rfl) _
  refine ⟨_, (hH.kp k trivial).set t _, fun i hi => ?_⟩
  by_cases e : i = t
  · subst e
    exact ⟨a, if_pos rfl, ents_part hE k2 (fun _ b off e h => by have := hb b off e; omega), hs, fun _ b off e => by have := hb b off e; omega⟩
  · obtain ⟨a', e', hE', hs', hb'⟩ := hg i (by omega)
    exact ⟨a', by rw [if_neg e]; exact e', ents_part (ents_kept hE' k) k2 (fun h0 b off e h => by have := hb' h0 b off e; omega), hs', hb'⟩
theorem Sts.made {M : Nat → MS} {m1 : Nat} (w : World) : Sts w.heap.size (w.heap.size < ·) M 0 m1 (w.alloc (.cells (madeCells #[.slice none 0 0] m1) 22)) :=
  ⟨_, HeadIs.of_row (World.rowIs_made w (.slice none 0 0) m1 22), fun i hi => by omega⟩
theorem Sts.at {SB : Nat} {ok : Nat → Prop} {M : Nat → MS} {t m1 : Nat} {W : World} (h : Sts SB ok M t m1 W) (hm : t ≤ m1) {i : Nat} (hi : i < t) : ∃ a, W.cell? ⟨SB, i, none⟩ = some (.slice a (M i).n (M i).n) ∧ Ents W a (M i).n (M i).E ∧ Sl a (M i).n (M i).n ∧ ((M i).n ≠ 0 → ∀ b off, a = some ⟨b, off, none⟩ → ok b) := by
  obtain ⟨g, hH, hg⟩ := h
  obtain ⟨a, e, hE, hs, hb⟩ := hg i hi
  exact ⟨a, by rw [hH.cell (by omega), e], hE, hs, hb⟩
theorem Sts.slot {SB : Nat} {ok : Nat → Prop} {M : Nat → MS} {t m1 : Nat} {W : World} (h : Sts SB ok M t m1 W) {i : Nat} (hi : i < m1) : (∃ x, W.cell? ⟨SB, i, none⟩ = some x) ∧ W.frozen? ⟨SB, i, none⟩ = false := by
  obtain ⟨g, hH, hg⟩ := h
  exact ⟨⟨_, hH.cell hi⟩, hH.frozen i⟩

theorem info22 : (Try.prog.info? 22).map (fun i => (i.zero, i.size, i.bytes)) = some (some (.slice none 0 0), 1, 24) := by kernel_rfl

theorem mrun_sub {v c : Int} {F : Nat → Int × Int} {s : MS} : ∀ j r, r ∈ (mrun v c F s j).R → r ∈ s.R
  | 0, _, h => h
  | j + 1, r, h => mrun_sub j r ((mstep_diff v c (mrun v c F s j) (F j)).2.2 r h)

/-- What the law knows of the merges. -/
structure MK (v c : Int) (n : Nat) (E : Nat → Int × Int) (m : Nat) (F : Nat → Int × Int) (k : Nat) (f : Nat → Int) (M : Nat → MS) : Prop where
  keeps : ∀ i, i ≤ m → Keeps v c n E m F (M i)
  step : ∀ i, M (i + 1) = mstep v c (M i) (F i)
  sub : ∀ i r, r ∈ (M i).R → r ∈ repl n E f k
  zero : (M 0).R = repl n E f k
  len : ∀ i, (M i).n ≤ n + i

theorem mk_of {v c : Int} {n : Nat} {E : Nat → Int × Int} {m : Nat} {F : Nat → Int × Int} {k : Nat} {f : Nat → Int} (h1 : (n : Int) ≤ c) (h2 : NoRep n E) (h3 : ∀ i, i < n → (E i).1 ≠ v) : MK v c n E m F k f (fun i => mrun v c F ⟨n, E, repl n E f k, false⟩ i) :=
  ⟨fun i hi => Keeps.run (n0 := n) (E0 := E) (s := ⟨n, E, repl n E f k, false⟩) ⟨h1, h2, h3, fun i hi => .inl ⟨i, hi, rfl⟩, Nat.le_refl _, fun _ hr => (repl_mem hr).1⟩ i hi, fun _ => rfl, fun i r hr => mrun_sub i r hr, rfl, fun i => mrun_n v c F _ i⟩

end Go.Proofs.Qxb6003312a
