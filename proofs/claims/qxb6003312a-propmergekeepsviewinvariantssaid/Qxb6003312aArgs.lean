/-
  How the arguments of the seat's laws are opened: a slice of entries, a slice of words, a slice of ids.
-/
import Derived.Test.Qxb6003312aRows
import Derived.Test.Qxb6003312aRand
import Derived.WalkKit
import Derived.ProofKit
import Derived.OpenShut
import Derived.ShutString
import Derived.ChangeOld
import Derived.Below
import Derived.Deep.SlicePairs
namespace Go.Proofs.Qxb6003312a
open Go.ChangeShapes Go.WideShapes Go.ChangeAt Go.RowKit Go.Deep

theorem own : ownKnob Try.prog.godebug = none := by kernel_rfl
theorem laidOut : laidOutB Try.prog = true := by kernel_rfl
theorem cells33 : Try.prog.cellsOf 33 = 2 := by kernel_rfl
theorem fields33 : ∃ f0 f1, Try.prog.underlying 33 = some (.struct #[f0, f1]) ∧ f0.offset = 0 ∧ f1.offset = 1 ∧ f0.type = 2 ∧ f1.type = 3 ∧ Try.prog.cellsOf f0.type = 1 ∧ Try.prog.cellsOf f1.type = 1 :=
  ⟨_, _, Try.underlying33, rfl, rfl, rfl, rfl, by kernel_rfl, by kernel_rfl⟩

section
variable {H : Type} {enc : TypeId × Value → H} {W : World} {base : Nat} {held : Bool} {fuel : Nat} {x : DataW H × List MemPlace}

theorem row_of {x : Addr} {v : Value} (h : W.cell? (x.add 0) = some v) : ∃ b off, x = ⟨b, off, none⟩ ∧ b < W.heap.size := by
  obtain ⟨b, off, spot⟩ := x
  have hspot : spot = none := by simpa [Addr.add] using World.cell?_spot h
  subst hspot
  exact ⟨b, off, rfl, World.block_lt_of_cell? W _ h⟩

theorem arg_ents {a : Option Addr} {len cap : Nat} (h : DataW.trod enc Try.prog W base (fun _ => true) held fuel 22 [.slice a len cap] = some x) :
    (a = none ∧ len = 0 ∧ cap = 0) ∨ ∃ y E, a = some y ∧ len ≤ maxLen ∧ Ents W (some y) len E := by
  obtain ⟨f0, f1, hu, o0, o1, t0, t1, c0, c1⟩ := fields33
  rcases open_slice_pairs Try.underlying22 hu cells33 o0 o1 c0 c1 h with ⟨hcs, _⟩ | ⟨y, l, c, m, n, V0, V1, D0, D1, P0, P1, hcs, _, hl, hm, hmm, _, hc⟩
  · simp at hcs
    exact .inl hcs
  · simp at hcs
    obtain ⟨rfl, rfl, rfl⟩ := hcs
    refine .inr ⟨y, fun i => (intOf (V0 i), intOf (V1 i)), rfl, Nat.le_trans hl hm, ?_⟩
    by_cases h0 : len = 0
    · exact .inl h0
    · have hlm : len ≤ m := by rw [hmm]; simpa using hl
      have each : ∀ i, i < len → W.cell? (y.add (i * 2)) = some (.int .i64 (intOf (V0 i))) ∧ W.cell? (y.add (i * 2 + 1)) = some (.int .i64 (intOf (V1 i))) := by
        intro i hi
        obtain ⟨e0, e1, q0, q1⟩ := hc i (by omega)
        rw [t0] at q0
        rw [t1] at q1
        obtain ⟨z0, v0, _, _⟩ := DataW.trod_int Try.underlying2 q0
        obtain ⟨z1, v1, _, _⟩ := DataW.trod_int Try.underlying3 q1
        simp at v0 v1
        rw [e0, e1, v0, v1]
        exact ⟨rfl, rfl⟩
      obtain ⟨b, off, hy, hb⟩ := row_of (x := y) (each 0 (by omega)).1
      subst hy
      refine .inr ⟨b, off, rfl, hb, fun i hi => ?_⟩
      have := each i hi
      rw [Go.WideShapes.add_plain, Go.WideShapes.add_plain] at this
      exact this

theorem u64_bounds {n : Int} (h : (Lit.int .u64 n).wf = true) : 0 ≤ n ∧ n ≤ 18446744073709551615 := by
  have := bounds_u64 h
  omega

theorem zero_in : (0 : Int) ≤ 0 ∧ (0 : Int) ≤ 18446744073709551615 := ⟨by decide, by decide⟩

theorem arg_words {a : Option Addr} {len cap : Nat} (h : DataW.trod enc Try.prog W base (fun _ => true) held fuel 23 [.slice a len cap] = some x) :
    len ≤ maxLen ∧ ∃ s, Words W a len cap s := by
  rcases open_ints Try.underlying23 Try.underlying80 (by kernel_rfl) h with ⟨hcs, _⟩ | ⟨y, l, c, zs, hcs, _, hl, hm, hz, _, hcell, hwz⟩
  · simp at hcs
    obtain ⟨rfl, rfl, rfl⟩ := hcs
    exact ⟨Nat.zero_le _, fun _ => 0, fun _ => zero_in, fun _ => rfl, .inl rfl⟩
  · simp at hcs
    obtain ⟨rfl, rfl, rfl⟩ := hcs
    refine ⟨Nat.le_trans hl hm, fun j => zs.getD j 0, fun j => ?_, fun h => (by cases h), ?_⟩
    · by_cases hj : j < zs.length
      · have : zs.getD j 0 ∈ zs := by
          rw [List.getD_eq_getElem?_getD, List.getElem?_eq_getElem hj]
          exact List.getElem_mem hj
        exact u64_bounds (hwz _ this)
      · have e : zs.getD j 0 = 0 := by rw [List.getD_eq_getElem?_getD, List.getElem?_eq_none (by omega)]; rfl
        show 0 ≤ zs.getD j 0 ∧ zs.getD j 0 ≤ 18446744073709551615
        rw [e]
        exact ⟨by decide, by decide⟩
    · have hzc : zs.length = cap := by simpa using hz
      by_cases h0 : len = 0
      · exact .inl h0
      · obtain ⟨b, off, hy, hb⟩ := row_of (hcell 0 (by omega))
        subst hy
        refine .inr ⟨b, off, rfl, hb, fun i hi => ?_⟩
        have := hcell i (by omega)
        rw [Go.WideShapes.add_plain] at this
        exact this
end
end Go.Proofs.Qxb6003312a
