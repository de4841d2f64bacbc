/-
  The statement Rows.PropDrawTakesDistinctLeavesEntriesSaid, proved off the walk.
-/
import Derived.Test.Qxb6003312aRows
import Derived.Test.Qxb6003312aLaw3
import Derived.Test.Qxb6003312aArgs
namespace Go.Proofs.Qxb6003312a.propDrawTakesDistinctLeavesEntries
open Go.ChangeShapes Go.WideShapes Go.ChangeAt Go.RowKit Go.Deep
set_option linter.unusedVariables false

theorem walk {a0 : Option Addr} {len0 cap0 : Nat} {a1 : Int} {a2 : Option Addr} {len2 cap2 : Nat} {w : World}
    (h0 : (a0 = none ∧ len0 = 0 ∧ cap0 = 0) ∨ ∃ y E, a0 = some y ∧ len0 ≤ maxLen ∧ Ents w (some y) len0 E) (h1 : (Lit.int .i64 a1).wf = true) (h2 : len2 ≤ maxLen ∧ ∃ s, Words w a2 len2 cap2 s) :
    Calls Try.prog 3 #[.slice a0 len0 cap0, .int .i64 a1, .slice a2 len2 cap2] w fun e w' => e = .returned (.bool true) ∧ Below w.heap.size w w' := by
  obtain ⟨hl2, s, hs⟩ := h2
  have hl0 : len0 ≤ maxLen := by
    rcases h0 with ⟨_, rfl, _⟩ | ⟨_, _, _, h, _⟩
    · exact Nat.zero_le _
    · exact h
  have hb := bounds_i64 h1
  by_cases hg : a1 < 0 ∨ 4096 < len0 ∨ 65536 < len2
  · exact law3_out a0 len0 cap0 a1 a2 len2 cap2 w hg hl0 hl2
  · obtain ⟨k, rfl⟩ := Int.eq_ofNat_of_zero_le (show 0 ≤ a1 by omega)
    rcases h0 with ⟨rfl, rfl, rfl⟩ | ⟨y, E, rfl, _, hE⟩
    · exact law3_nil k a2 len2 cap2 s w (by omega) hs
    · exact law3_some y len0 cap0 k a2 len2 cap2 E s w (by omega) (by omega) (by omega) hE hs

set_option maxRecDepth 100000 in
theorem lifted (os : Os) (started : os.Started) (H : Type) (enc : TypeId × Value → H) :
    ReturnsInHanded {} Try.checked os 3 .any (Rows.propDrawTakesDistinctLeavesEntriesSpec.pre6 enc Try.prog Try.f3 Rows.propDrawTakesDistinctLeavesEntriesRow.domain false) (Rows.propDrawTakesDistinctLeavesEntriesSpec.post enc Try.prog Try.f3 false true false false) := by
  refine returnsInHanded_of_change (C := Try.checked) own started (by kernel_rfl) Try.func3
    (ChangeSpec.witness6 (enc := enc) (C := Try.checked) false ⟨#[], #[.slice none 0 0, .int .i64 0, .slice none 0 0], []⟩ 8 (by kernel_rfl) (by kernel_rfl) (by kernel_rfl) (by kernel_rfl)) ?_
  intro W base args ds gs before hval0 hW hcnd _
  have hval : ∀ (j : Nat) t v, Try.f3.params[j]? = some t → args[j]? = some v → Value.okWide Try.prog W .any base t v := hval0
  have hW' := hW
  obtain ⟨p, q, hA0, hV, rfl, hfz, hnd⟩ := hW
  have hA : DataW.TrodAll enc Try.prog W 0 (fun _ => true) true Try.f3.params.toList args.toList ds p := hA0
  rw [Try.params3] at hA hval
  obtain ⟨v0, vs0, d0, ds0, p0, q0, hargs, rfl, rfl, h0, r0⟩ := trodAll_cons hA
  obtain ⟨v1, vs1, d1, ds1, p1, q1, rfl, rfl, rfl, h1, r1⟩ := trodAll_cons r0
  obtain ⟨v2, vs2, d2, ds2, p2, q2, rfl, rfl, rfl, h2, r2⟩ := trodAll_cons r1
  obtain ⟨rfl, rfl, rfl⟩ := trodAll_nil r2
  obtain rfl : args = #[v0, v1, v2] := by cases args; simp_all
  obtain ⟨rfl, rfl⟩ := trodVars_none hV
  obtain ⟨a0, len0, cap0, rfl⟩ := okWide_slice Try.underlying22 (hval 0 22 v0 rfl rfl)
  obtain ⟨a2, len2, cap2, rfl⟩ := okWide_slice Try.underlying23 (hval 2 23 v2 rfl rfl)
  have k0 := h0
  have k2 := h2
  have lt0 : ∀ x ∈ p0, x.block < W.heap.size := by obtain ⟨m, hm⟩ := k0; exact DataW.trod_lt m _ _ _ hm
  have lt2 : ∀ x ∈ p2, x.block < W.heap.size := by obtain ⟨m, hm⟩ := k2; exact DataW.trod_lt m _ _ _ hm
  obtain ⟨a1, rfl, rfl, rfl, w1⟩ := open_int Try.underlying3 (hval 1 3 v1 rfl rfl) h1
  have e0 : (a0 = none ∧ len0 = 0 ∧ cap0 = 0) ∨ ∃ y E, a0 = some y ∧ len0 ≤ maxLen ∧ Ents W (some y) len0 E := by
    obtain ⟨fuel, hf⟩ := h0
    exact arg_ents hf
  have e2 : len2 ≤ maxLen ∧ ∃ s, Words W a2 len2 cap2 s := by
    obtain ⟨fuel, hf⟩ := h2
    exact arg_words hf
  clear hA0 hval0
  refine (walk e0 w1 e2).mono fun e W' ⟨he, bel⟩ => ?_
  subst he
  exact ⟨_, rfl, _, _, _, [], _, [], hW', trodAll_mk1 (shut_bool Try.underlying4 _), (trodAll_cons_mk (Below.trod laidOut (by kernel_rfl) (of_decide_eq_true (by kernel_rfl)) k0 bel lt0) (trodAll_cons_mk (shut_int Try.underlying3 w1) (trodAll_cons_mk (Below.trod laidOut (by kernel_rfl) (of_decide_eq_true (by kernel_rfl)) k2 bel lt2) trodAll_mk0))), rfl, bel.frame _, fun h => by cases h⟩

theorem over : Rows.propDrawTakesDistinctLeavesEntriesRow.holds Try.pinned (OpenSpec.ofChange Rows.propDrawTakesDistinctLeavesEntriesSpec) :=
  OpenClaim.holds_of_wide 3 Try.f3 rfl rfl rfl rfl rfl rfl rfl ⟨rfl, rfl, rfl, rfl, rfl⟩ rfl rfl rfl rfl rfl (by kernel_rfl) Try.func3 (by kernel_rfl)
    (of_decide_eq_true (by kernel_rfl)) (by unfold Func.isWrapper; first | (rw [if_pos (by decide +kernel)]; kernel_rfl) | (rw [if_neg (by decide +kernel)]; exact ⟨rfl, rfl⟩))
    (fun os started H enc _ => lifted os started H enc)

theorem proved : Rows.PropDrawTakesDistinctLeavesEntriesSaid := over
end Go.Proofs.Qxb6003312a.propDrawTakesDistinctLeavesEntries
