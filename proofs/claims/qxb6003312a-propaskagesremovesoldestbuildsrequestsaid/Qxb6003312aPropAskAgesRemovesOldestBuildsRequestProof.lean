/-
  The statement Rows.PropAskAgesRemovesOldestBuildsRequestSaid, proved off the walk.
-/
import Derived.Test.Qxb6003312aRows
import Derived.Test.Qxb6003312aLaw5
import Derived.Test.Qxb6003312aArgs
namespace Go.Proofs.Qxb6003312a.propAskAgesRemovesOldestBuildsRequest
open Go.ChangeShapes Go.WideShapes Go.ChangeAt Go.RowKit Go.Deep
set_option linter.unusedVariables false

theorem walk {a0 a1 : Int} {a2 : Option Addr} {len2 cap2 : Nat} {a3 : Option Addr} {len3 cap3 : Nat} {w : World}
    (h1 : (Lit.int .i64 a1).wf = true) (h2 : (a2 = none ∧ len2 = 0 ∧ cap2 = 0) ∨ ∃ y E, a2 = some y ∧ len2 ≤ maxLen ∧ Ents w (some y) len2 E) (h3 : len3 ≤ maxLen ∧ ∃ s, Words w a3 len3 cap3 s) :
    Calls Try.prog 5 #[.int .i64 a0, .int .i64 a1, .slice a2 len2 cap2, .slice a3 len3 cap3] w fun e w' => e = .returned (.bool true) ∧ Below w.heap.size w w' := by
  obtain ⟨hl3, s, hs⟩ := h3
  have hl2 : len2 ≤ maxLen := by
    rcases h2 with ⟨_, rfl, _⟩ | ⟨_, _, _, h, _⟩
    · exact Nat.zero_le _
    · exact h
  have hb := bounds_i64 h1
  by_cases hg : 4096 < len2 ∨ 65536 < len3 ∨ len2 = 0 ∨ a1 < 1
  · exact law5_out a0 a1 a2 len2 cap2 a3 len3 cap3 w hg hl2 hl3
  · obtain ⟨l, hl⟩ := Int.eq_ofNat_of_zero_le (show 0 ≤ a1 - 1 by omega)
    obtain rfl : a1 = (l : Int) + 1 := by omega
    obtain ⟨p, rfl⟩ : ∃ p, len2 = p + 1 := ⟨len2 - 1, by omega⟩
    rcases h2 with ⟨_, h, _⟩ | ⟨y, E, rfl, _, hE⟩
    · omega
    · exact law5_in y p cap2 l a0 a3 len3 cap3 E s w (by omega) (by omega) (by omega) hE hs

set_option maxRecDepth 100000 in
theorem lifted (os : Os) (started : os.Started) (H : Type) (enc : TypeId × Value → H) :
    ReturnsInHanded {} Try.checked os 5 .any (Rows.propAskAgesRemovesOldestBuildsRequestSpec.pre6 enc Try.prog Try.f5 Rows.propAskAgesRemovesOldestBuildsRequestRow.domain false) (Rows.propAskAgesRemovesOldestBuildsRequestSpec.post enc Try.prog Try.f5 false true false false) := by
  refine returnsInHanded_of_change (C := Try.checked) own started (by kernel_rfl) Try.func5
    (ChangeSpec.witness6 (enc := enc) (C := Try.checked) false ⟨#[], #[.int .i64 0, .int .i64 0, .slice none 0 0, .slice none 0 0], []⟩ 8 (by kernel_rfl) (by kernel_rfl) (by kernel_rfl) (by kernel_rfl)) ?_
  intro W base args ds gs before hval0 hW hcnd _
  have hval : ∀ (j : Nat) t v, Try.f5.params[j]? = some t → args[j]? = some v → Value.okWide Try.prog W .any base t v := hval0
  have hW' := hW
  obtain ⟨p, q, hA0, hV, rfl, hfz, hnd⟩ := hW
  have hA : DataW.TrodAll enc Try.prog W 0 (fun _ => true) true Try.f5.params.toList args.toList ds p := hA0
  rw [Try.params5] at hA hval
  obtain ⟨v0, vs0, d0, ds0, p0, q0, hargs, rfl, rfl, h0, r0⟩ := trodAll_cons hA
  obtain ⟨v1, vs1, d1, ds1, p1, q1, rfl, rfl, rfl, h1, r1⟩ := trodAll_cons r0
  obtain ⟨v2, vs2, d2, ds2, p2, q2, rfl, rfl, rfl, h2, r2⟩ := trodAll_cons r1
  obtain ⟨v3, vs3, d3, ds3, p3, q3, rfl, rfl, rfl, h3, r3⟩ := trodAll_cons r2
  obtain ⟨rfl, rfl, rfl⟩ := trodAll_nil r3
  obtain rfl : args = #[v0, v1, v2, v3] := by cases args; simp_all
  obtain ⟨rfl, rfl⟩ := trodVars_none hV
  obtain ⟨a2, len2, cap2, rfl⟩ := okWide_slice Try.underlying22 (hval 2 22 v2 rfl rfl)
  obtain ⟨a3, len3, cap3, rfl⟩ := okWide_slice Try.underlying23 (hval 3 23 v3 rfl rfl)
  have k2 := h2
  have k3 := h3
  have lt2 : ∀ x ∈ p2, x.block < W.heap.size := by obtain ⟨m, hm⟩ := k2; exact DataW.trod_lt m _ _ _ hm
  have lt3 : ∀ x ∈ p3, x.block < W.heap.size := by obtain ⟨m, hm⟩ := k3; exact DataW.trod_lt m _ _ _ hm
  obtain ⟨a0, rfl, rfl, rfl, w0⟩ := open_int Try.underlying2 (hval 0 2 v0 rfl rfl) h0
  obtain ⟨a1, rfl, rfl, rfl, w1⟩ := open_int Try.underlying3 (hval 1 3 v1 rfl rfl) h1
  have e2 : (a2 = none ∧ len2 = 0 ∧ cap2 = 0) ∨ ∃ y E, a2 = some y ∧ len2 ≤ maxLen ∧ Ents W (some y) len2 E := by
    obtain ⟨fuel, hf⟩ := h2
    exact arg_ents hf
  have e3 : len3 ≤ maxLen ∧ ∃ s, Words W a3 len3 cap3 s := by
    obtain ⟨fuel, hf⟩ := h3
    exact arg_words hf
  clear hA0 hval0
  refine (walk (a0 := a0) w1 e2 e3).mono fun e W' ⟨he, bel⟩ => ?_
  subst he
  exact ⟨_, rfl, _, _, _, [], _, [], hW', trodAll_mk1 (shut_bool Try.underlying4 _), (trodAll_cons_mk (shut_int Try.underlying2 w0) (trodAll_cons_mk (shut_int Try.underlying3 w1) (trodAll_cons_mk (Below.trod laidOut (by kernel_rfl) (of_decide_eq_true (by kernel_rfl)) k2 bel lt2) (trodAll_cons_mk (Below.trod laidOut (by kernel_rfl) (of_decide_eq_true (by kernel_rfl)) k3 bel lt3) trodAll_mk0)))), rfl, bel.frame _, fun h => by cases h⟩

theorem over : Rows.propAskAgesRemovesOldestBuildsRequestRow.holds Try.pinned (OpenSpec.ofChange Rows.propAskAgesRemovesOldestBuildsRequestSpec) :=
  OpenClaim.holds_of_wide 5 Try.f5 rfl rfl rfl rfl rfl rfl rfl ⟨rfl, rfl, rfl, rfl, rfl⟩ rfl rfl rfl rfl rfl (by kernel_rfl) Try.func5 (by kernel_rfl)
    (of_decide_eq_true (by kernel_rfl)) (by unfold Func.isWrapper; first | (rw [if_pos (by decide +kernel)]; kernel_rfl) | (rw [if_neg (by decide +kernel)]; exact ⟨rfl, rfl⟩))
    (fun os started H enc _ => lifted os started H enc)

theorem proved : Rows.PropAskAgesRemovesOldestBuildsRequestSaid := over
end Go.Proofs.Qxb6003312a.propAskAgesRemovesOldestBuildsRequest
