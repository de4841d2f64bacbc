/-
  What is kept of a world; rows at a block's head; entries in memory. No function of the program here.
-/
import Derived.WalkKit
import Derived.Deep.OwnRows
import Derived.Deep.Draws
import Derived.WalkSmall
namespace Go.Proofs.Qxb6003312a
open Go.RowKit Go.Deep

/-! ### What is kept: the old blocks that p names -/
structure Kp (p : Nat → Prop) (w w' : World) : Prop where
  os : w'.os = w.os
  tape : w'.tape = w.tape
  output : w'.output = w.output
  size : w.heap.size ≤ w'.heap.size
  block : ∀ k, k < w.heap.size → p k → w'.heap[k]? = w.heap[k]?

namespace Kp
variable {p q : Nat → Prop} {w w' w'' : World}
theorem refl (p : Nat → Prop) (w : World) : Kp p w w := ⟨rfl, rfl, rfl, Nat.le_refl _, fun _ _ _ => rfl⟩
theorem trans (h : Kp p w w') (k : Kp p w' w'') : Kp p w w'' :=
  ⟨k.os.trans h.os, k.tape.trans h.tape, k.output.trans h.output, Nat.le_trans h.size k.size, fun i hi hp => (k.block i (Nat.lt_of_lt_of_le hi h.size) hp).trans (h.block i hi hp)⟩
theorem mono (h : Kp p w w') (hq : ∀ k, k < w.heap.size → q k → p k) : Kp q w w' := ⟨h.os, h.tape, h.output, h.size, fun k hk hqk => h.block k hk (hq k hk hqk)⟩
/-- Two steps, the second keeping other blocks than the first: what matters is the blocks that were there ahead of both. -/
theorem then_ (h : Kp p w w') (k : Kp q w' w'') (hq : ∀ i, i < w.heap.size → p i → q i) : Kp p w w'' :=
  ⟨k.os.trans h.os, k.tape.trans h.tape, k.output.trans h.output, Nat.le_trans h.size k.size, fun i hi hp => (k.block i (Nat.lt_of_lt_of_le hi h.size) (hq i hi hp)).trans (h.block i hi hp)⟩
theorem drew (h : Kp p w w') : Kp p w w'.drew := ⟨h.os, h.tape, h.output, h.size, h.block⟩
theorem drewN (h : Kp p w w') (n : Nat) : Kp p w (w'.drewN n) := ⟨h.os, h.tape, h.output, h.size, h.block⟩
theorem alloc (h : Kp p w w') (o : Obj) : Kp p w (w'.alloc o) :=
  h.trans ⟨rfl, rfl, rfl, by rw [nblk_alloc]; omega, fun k hk _ => blk_alloc_lt _ _ _ hk⟩
theorem setCell (h : Kp p w w') {a : Addr} (ha : a.block < w.heap.size → ¬ p a.block) (v : Value) : Kp p w (w'.setCell a v) :=
  ⟨h.os, h.tape, h.output, by rw [nblk_setCell]; exact h.size, fun k hk hp => (blk_setCell_other _ _ _ _ (fun e => ha (e ▸ hk) (e ▸ hp))).trans (h.block k hk hp)⟩
theorem grown {row : Option Nat} (h : Kp p w w') (hg : w'.grownBy w'' row) (hr : ∀ k, row = some k → k < w.heap.size → ¬ p k) : Kp p w w'' :=
  ⟨hg.os.trans h.os, hg.tape.trans h.tape, hg.output.trans h.output, Nat.le_trans h.size hg.size, fun i hi hp => (hg.block i (Nat.lt_of_lt_of_le hi h.size) (fun e => hr i e.symm hi hp)).trans (h.block i hi hp)⟩
theorem below (h : Kp p w w') {B : Nat} (hB : B ≤ w.heap.size) (hp : ∀ k, k < B → p k) : Below B w w' :=
  ⟨h.os, h.tape, h.output, h.size, fun k hk => h.block k (by omega) (hp k hk)⟩
theorem of_below {B : Nat} (h : Below B w w') : Kp (· < B) w w' := ⟨h.os, h.tape, h.output, h.size, fun k _ hk => h.block k hk⟩
theorem cell (h : Kp p w w') {a : Addr} (ha : a.block < w.heap.size) (hp : p a.block) : w'.cell? a = w.cell? a := World.cell?_of_block (w := w) (h.block _ ha hp)
theorem frozen (h : Kp p w w') {a : Addr} (ha : a.block < w.heap.size) (hp : p a.block) : w'.frozen? a = w.frozen? a := World.frozen?_of_block (w := w) (h.block _ ha hp)
end Kp

/-- All old blocks. -/
def All (_ : Nat) : Prop := True

/-! ### A row whose first n cells are known -/
def HeadIs (w : World) (b : Nat) (t : TypeId) (n : Nat) (f : Nat → Value) : Prop :=
  ∃ c : Array Value, w.heap[b]? = some (.cells c t (0, 0)) ∧ n ≤ c.size ∧ ∀ i, i < n → c[i]? = some (f i)

namespace HeadIs
variable {w w' : World} {b : Nat} {t : TypeId} {n : Nat} {f g : Nat → Value}
theorem cell (h : HeadIs w b t n f) {i : Nat} (hi : i < n) : w.cell? ⟨b, i, none⟩ = some (f i) := by
  obtain ⟨c, hb, _, hc⟩ := h
  simp [World.cell?, hb, hc i hi]
theorem frozen (h : HeadIs w b t n f) (i : Nat) : w.frozen? ⟨b, i, none⟩ = false := by
  obtain ⟨c, hb, _, _⟩ := h
  simp [World.frozen?, hb]
theorem lt (h : HeadIs w b t n f) : b < w.heap.size := by
  obtain ⟨c, hb, _, _⟩ := h
  exact (Array.getElem?_eq_some_iff.1 hb).1
theorem congr (h : HeadIs w b t n f) (e : ∀ i, i < n → f i = g i) : HeadIs w b t n g := by
  obtain ⟨c, hb, hn, hc⟩ := h
  exact ⟨c, hb, hn, fun i hi => by rw [hc i hi, e i hi]⟩
theorem less (h : HeadIs w b t n f) {m : Nat} (hm : m ≤ n) : HeadIs w b t m f := by
  obtain ⟨c, hb, hn, hc⟩ := h
  exact ⟨c, hb, by omega, fun i hi => hc i (by omega)⟩
theorem of_block (h : HeadIs w b t n f) (e : w'.heap[b]? = w.heap[b]?) : HeadIs w' b t n f := by
  obtain ⟨c, hb, hn, hc⟩ := h
  exact ⟨c, e.trans hb, hn, hc⟩
theorem kp {p : Nat → Prop} (h : HeadIs w b t n f) (k : Kp p w w') (hp : p b) : HeadIs w' b t n f := h.of_block (k.block b h.lt hp)
theorem set (h : HeadIs w b t n f) (i : Nat) (v : Value) : HeadIs (w.setCell ⟨b, i, none⟩ v) b t n (fun j => if j = i then v else f j) := by
  obtain ⟨c, hb, hn, hc⟩ := h
  refine ⟨c.setIfInBounds i v, ?_, by simpa using hn, fun j hj => ?_⟩
  · simp [World.setCell, Array.getElem?_modify, hb]
  · rw [Array.getElem?_setIfInBounds]
    by_cases e : j = i
    · subst e
      rw [if_pos rfl, if_pos (by omega)]
      simp
    · rw [if_neg (fun h => e h.symm)]
      show c[j]? = some (if j = i then v else f j)
      rw [if_neg e]
      exact hc j hj
theorem setOther (h : HeadIs w b t n f) {a : Addr} (ha : b ≠ a.block) (v : Value) : HeadIs (w.setCell a v) b t n f := h.of_block (blk_setCell_other _ _ _ _ ha)
theorem alloc (h : HeadIs w b t n f) (o : Obj) : HeadIs (w.alloc o) b t n f := h.of_block (blk_alloc_lt _ _ _ h.lt)
theorem drewN (h : HeadIs w b t n f) (k : Nat) : HeadIs (w.drewN k) b t n f := h
theorem drew (h : HeadIs w b t n f) : HeadIs w.drew b t n f := h
theorem of_row (h : w.rowIs b t n f) : HeadIs w b t n f := by
  obtain ⟨c, hb, hn, hc⟩ := h
  exact ⟨c, hb, by omega, hc⟩
theorem ne {b' : Nat} {t' : TypeId} {n' : Nat} {f' : Nat → Value} (h : HeadIs w b t n f) (h' : HeadIs w b' t' n' f') (ht : t ≠ t') : b ≠ b' := by
  rintro rfl
  obtain ⟨c, hb, _⟩ := h
  obtain ⟨c', hb', _⟩ := h'
  rw [hb] at hb'
  simp at hb'
  exact ht hb'.2
end HeadIs

/-! ### Entries: pairs of integers, two cells each -/
def entF (E : Nat → Int × Int) (j : Nat) : Value := .int .i64 (if j % 2 = 0 then (E (j / 2)).1 else (E (j / 2)).2)

theorem entF_even (E : Nat → Int × Int) (i : Nat) : entF E (i * 2) = .int .i64 (E i).1 := by
  unfold entF
  rw [if_pos (by omega), show i * 2 / 2 = i by omega]
theorem entF_odd (E : Nat → Int × Int) (i : Nat) : entF E (i * 2 + 1) = .int .i64 (E i).2 := by
  unfold entF
  rw [if_neg (by omega), show (i * 2 + 1) / 2 = i by omega]

theorem HeadIs.ent {w : World} {b : Nat} {t : TypeId} {n : Nat} {E : Nat → Int × Int} (h : HeadIs w b t (n * 2) (entF E)) {i : Nat} (hi : i < n) :
    w.cell? ⟨b, i * 2, none⟩ = some (.int .i64 (E i).1) ∧ w.cell? ⟨b, i * 2 + 1, none⟩ = some (.int .i64 (E i).2) := by
  refine ⟨?_, ?_⟩
  · rw [h.cell (by omega), entF_even]
  · rw [h.cell (by omega), entF_odd]

/-- An entry stored into a row of entries, cell by cell. -/
theorem HeadIs.putEnt {w : World} {b : Nat} {t : TypeId} {n : Nat} {E : Nat → Int × Int} (h : HeadIs w b t n (entF E)) (i : Nat) (x y : Int) :
    HeadIs ((w.setCell ⟨b, i * 2, none⟩ (.int .i64 x)).setCell ⟨b, i * 2 + 1, none⟩ (.int .i64 y)) b t n (entF (fun j => if j = i then (x, y) else E j)) := by
  refine ((h.set (i * 2) _).set (i * 2 + 1) _).congr fun j _ => ?_
  by_cases h1 : j = i * 2 + 1
  · subst h1; rw [if_pos rfl, entF_odd, if_pos rfl]
  · rw [if_neg h1]
    by_cases h2 : j = i * 2
    · subst h2; rw [if_pos rfl, entF_even, if_pos rfl]
    · rw [if_neg h2]
      unfold entF
      dsimp only
      rw [if_neg (show ¬ j / 2 = i by omega)]

/-- A slice's elements, read as entries: its address may be whatever where there are none. -/
def Ents (w : World) (a : Option Addr) (n : Nat) (E : Nat → Int × Int) : Prop :=
  n = 0 ∨ ∃ b off, a = some ⟨b, off, none⟩ ∧ b < w.heap.size ∧ ∀ i, i < n → w.cell? ⟨b, off + i * 2, none⟩ = some (.int .i64 (E i).1) ∧ w.cell? ⟨b, off + i * 2 + 1, none⟩ = some (.int .i64 (E i).2)

theorem Ents.of_head {w : World} {b : Nat} {t : TypeId} {n : Nat} {E : Nat → Int × Int} (h : HeadIs w b t (n * 2) (entF E)) : Ents w (some ⟨b, 0, none⟩) n E :=
  .inr ⟨b, 0, rfl, h.lt, fun i hi => by simpa using h.ent hi⟩
theorem Ents.congr {w : World} {a : Option Addr} {n : Nat} {E F : Nat → Int × Int} (h : Ents w a n E) (e : ∀ i, i < n → E i = F i) : Ents w a n F := by
  rcases h with h | ⟨b, off, rfl, hb, hc⟩
  · exact .inl h
  · exact .inr ⟨b, off, rfl, hb, fun i hi => by rw [← e i hi]; exact hc i hi⟩

end Go.Proofs.Qxb6003312a
