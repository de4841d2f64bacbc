/-
  The statement Rows.PropMergeKeepsViewInvariantsSaid, proved off the walk.
-/
import Derived.Test.Qxb6003312aRows
import Derived.Test.Qxb6003312aLaw4
import Derived.Test.Qxb6003312aGuards
namespace Go.Proofs.Qxb6003312a.propMergeKeepsViewInvariants
open Go.ChangeShapes Go.WideShapes Go.ChangeAt Go.RowKit Go.Deep
set_option linter.unusedVariables false

theorem walk {a0 a1 a5 : Int} {a2 : Option Addr} {len2 cap2 : Nat} {a3 : Option Addr} {len3 cap3 : Nat} {a4 : Option Addr} {len4 cap4 : Nat} {a6 : Option Addr} {len6 cap6 : Nat} {w : World}
    (h5 : (Lit.int .i64 a5).wf = true) (h2 : Room a2 len2 cap2 ∧ ∃ E, Ents w a2 len2 E) (h3 : Room a3 len3 cap3 ∧ ∃ E, Ents w a3 len3 E) (h4 : Room a4 len4 cap4 ∧ ∃ f, Ids w a4 len4 f) (h6 : len6 ≤ maxLen ∧ ∃ s, Words w a6 len6 cap6 s) :
    Calls Try.prog 4 #[.int .i64 a0, .int .i64 a1, .slice a2 len2 cap2, .slice a3 len3 cap3, .slice a4 len4 cap4, .int .i64 a5, .slice a6 len6 cap6] w fun e w' => e = .returned (.bool true) ∧ Below w.heap.size w w' := by
  obtain ⟨⟨r21, r22, r23⟩, E, hE⟩ := h2
  obtain ⟨⟨r31, r32, r33⟩, F, hF⟩ := h3
  obtain ⟨⟨r41, r42, r43⟩, f, hf⟩ := h4
  obtain ⟨hl6, s, hs⟩ := h6
  unfold maxLen at r22 r32 r42 hl6
  have hb := bounds_i64 h5
  by_cases hg : 256 < len2 ∨ 256 < len3 ∨ 256 < len4 ∨ 65536 < len6 ∨ a1 < (len2 : Int)
  · exact law4_out a0 a1 a2 len2 cap2 a3 len3 cap3 a4 len4 cap4 a5 a6 len6 cap6 w hg (by omega) (by omega) (by omega) (by omega)
  · exact law4_in a0 a1 a2 len2 cap2 a3 len3 cap3 a4 len4 cap4 a5 a6 len6 cap6 E F f s w (by omega) (by omega) (by omega) (by omega) (by omega) r21 (by omega) r31 (by omega) r41 (by omega) (by omega) r23 hE r33 hF r43 hf hs

set_option maxRecDepth 100000 in
theorem lifted (os : Os) (started : os.Started) (H : Type) (enc : TypeId × Value → H) :
    ReturnsInHanded {} Try.checked os 4 .any (Rows.propMergeKeepsViewInvariantsSpec.pre6 enc Try.prog Try.f4 Rows.propMergeKeepsViewInvariantsRow.domain false) (Rows.propMergeKeepsViewInvariantsSpec.post enc Try.prog Try.f4 false true false false) := by
  refine returnsInHanded_of_change (C := Try.checked) own started (by kernel_rfl) Try.func4
    (ChangeSpec.witness6 (enc := enc) (C := Try.checked) false ⟨#[], #[.int .i64 0, .int .i64 0, .slice none 0 0, .slice none 0 0, .slice none 0 0, .int .i64 0, .slice none 0 0], []⟩ 8 (by kernel_rfl) (by kernel_rfl) (by kernel_rfl) (by kernel_rfl)) ?_
  intro W base args ds gs before hval0 hW hcnd _
  have hval : ∀ (j : Nat) t v, Try.f4.params[j]? = some t → args[j]? = some v → Value.okWide Try.prog W .any base t v := hval0
  have hW' := hW
  obtain ⟨p, q, hA0, hV, rfl, hfz, hnd⟩ := hW
  have hA : DataW.TrodAll enc Try.prog W 0 (fun _ => true) true Try.f4.params.toList args.toList ds p := hA0
  rw [Try.params4] at hA hval
  obtain ⟨v0, vs0, d0, ds0, p0, q0, hargs, rfl, rfl, h0, r0⟩ := trodAll_cons hA
  obtain ⟨v1, vs1, d1, ds1, p1, q1, rfl, rfl, rfl, h1, r1⟩ := trodAll_cons r0
  obtain ⟨v2, vs2, d2, ds2, p2, q2, rfl, rfl, rfl, h2, r2⟩ := trodAll_cons r1
  obtain ⟨v3, vs3, d3, ds3, p3, q3, rfl, rfl, rfl, h3, r3⟩ := trodAll_cons r2
  obtain ⟨v4, vs4, d4, ds4, p4, q4, rfl, rfl, rfl, h4, r4⟩ := trodAll_cons r3
  obtain ⟨v5, vs5, d5, ds5, p5, q5, rfl, rfl, rfl, h5, r5⟩ := trodAll_cons r4
  obtain ⟨v6, vs6, d6, ds6, p6, q6, rfl, rfl, rfl, h6, r6⟩ := trodAll_cons r5
  obtain ⟨rfl, rfl, rfl⟩ := trodAll_nil r6
  obtain rfl : args = #[v0, v1, v2, v3, v4, v5, v6] := by cases args; simp_all
  obtain ⟨rfl, rfl⟩ := trodVars_none hV
  obtain ⟨a2, len2, cap2, rfl⟩ := okWide_slice Try.underlying22 (hval 2 22 v2 rfl rfl)
  obtain ⟨a3, len3, cap3, rfl⟩ := okWide_slice Try.underlying22 (hval 3 22 v3 rfl rfl)
  obtain ⟨a4, len4, cap4, rfl⟩ := okWide_slice Try.underlying35 (hval 4 35 v4 rfl rfl)
  obtain ⟨a6, len6, cap6, rfl⟩ := okWide_slice Try.underlying23 (hval 6 23 v6 rfl rfl)
  have k2 := h2
  have k3 := h3
  have k4 := h4
  have k6 := h6
  have lt2 : ∀ x ∈ p2, x.block < W.heap.size := by obtain ⟨m, hm⟩ := k2; exact DataW.trod_lt m _ _ _ hm
  have lt3 : ∀ x ∈ p3, x.block < W.heap.size := by obtain ⟨m, hm⟩ := k3; exact DataW.trod_lt m _ _ _ hm
  have lt4 : ∀ x ∈ p4, x.block < W.heap.size := by obtain ⟨m, hm⟩ := k4; exact DataW.trod_lt m _ _ _ hm
  have lt6 : ∀ x ∈ p6, x.block < W.heap.size := by obtain ⟨m, hm⟩ := k6; exact DataW.trod_lt m _ _ _ hm
  obtain ⟨a0, rfl, rfl, rfl, w0⟩ := open_int Try.underlying2 (hval 0 2 v0 rfl rfl) h0
  obtain ⟨a1, rfl, rfl, rfl, w1⟩ := open_int Try.underlying3 (hval 1 3 v1 rfl rfl) h1
  obtain ⟨a5, rfl, rfl, rfl, w5⟩ := open_int Try.underlying3 (hval 5 3 v5 rfl rfl) h5
  have e2 : Room a2 len2 cap2 ∧ ∃ E, Ents W a2 len2 E := by
    obtain ⟨fuel, hf⟩ := h2
    exact arg_ents_room hf
  have e3 : Room a3 len3 cap3 ∧ ∃ E, Ents W a3 len3 E := by
    obtain ⟨fuel, hf⟩ := h3
    exact arg_ents_room hf
  have e4 : Room a4 len4 cap4 ∧ ∃ f, Ids W a4 len4 f := by
    obtain ⟨fuel, hf⟩ := h4
    exact arg_ids hf
  have e6 : len6 ≤ maxLen ∧ ∃ s, Words W a6 len6 cap6 s := by
    obtain ⟨fuel, hf⟩ := h6
    exact arg_words hf
  clear hA0 hval0
  refine (walk (a0 := a0) (a1 := a1) w5 e2 e3 e4 e6).mono fun e W' ⟨he, bel⟩ => ?_
  subst he
  exact ⟨_, rfl, _, _, _, [], _, [], hW', trodAll_mk1 (shut_bool Try.underlying4 _), (trodAll_cons_mk (shut_int Try.underlying2 w0) (trodAll_cons_mk (shut_int Try.underlying3 w1) (trodAll_cons_mk (Below.trod laidOut (by kernel_rfl) (of_decide_eq_true (by kernel_rfl)) k2 bel lt2) (trodAll_cons_mk (Below.trod laidOut (by kernel_rfl) (of_decide_eq_true (by kernel_rfl)) k3 bel lt3) (trodAll_cons_mk (Below.trod laidOut (by kernel_rfl) (of_decide_eq_true (by kernel_rfl)) k4 bel lt4) (trodAll_cons_mk (shut_int Try.underlying3 w5) (trodAll_cons_mk (Below.trod laidOut (by kernel_rfl) (of_decide_eq_true (by kernel_rfl)) k6 bel lt6) trodAll_mk0))))))), rfl, bel.frame _, fun h => by cases h⟩

theorem over : Rows.propMergeKeepsViewInvariantsRow.holds Try.pinned (OpenSpec.ofChange Rows.propMergeKeepsViewInvariantsSpec) :=
  OpenClaim.holds_of_wide 4 Try.f4 rfl rfl rfl rfl rfl rfl rfl ⟨rfl, rfl, rfl, rfl, rfl⟩ rfl rfl rfl rfl rfl (by kernel_rfl) Try.func4 (by kernel_rfl)
    (of_decide_eq_true (by kernel_rfl)) (by unfold Func.isWrapper; first | (rw [if_pos (by decide +kernel)]; kernel_rfl) | (rw [if_neg (by decide +kernel)]; exact ⟨rfl, rfl⟩))
    (fun os started H enc _ => lifted os started H enc)

theorem proved : Rows.PropMergeKeepsViewInvariantsSaid := over
end Go.Proofs.Qxb6003312a.propMergeKeepsViewInvariants
