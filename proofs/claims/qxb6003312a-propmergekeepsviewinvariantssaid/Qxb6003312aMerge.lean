/-
  The walk of merge.
-/
import Derived.Test.Qxb6003312aMergeState
import Derived.Outline
namespace Go.Proofs.Qxb6003312a
open Go.RowKit Go.Deep

set_option maxRecDepth 100000
set_option maxHeartbeats 4000000 in
theorem merge_any (nd : Nat) (V0 S : Value) (sa : Option Addr) (k sc : Nat) (f : Nat → Int) (ea : Option Addr) (m ec : Nat) (F : Nat → Int × Int) (v c : Int) (n : Nat) (E : Nat → Int × Int) (w : World)
    (hn : n ≤ 256) (hm : m ≤ 256) (hk : k ≤ 256) (h : MSt nd V0 S V0 n E w w) (hS : Ids w sa k f) (hF : Ents w ea m F) (hq : ∀ b off, ea = some ⟨b, off, none⟩ → b ≠ nd ∧ V0.ownBlock ≠ some b) :
    Calls Try.prog 31 #[.pointer (some ⟨nd, 0, none⟩), .int .i64 v, .slice ea m ec, .slice sa k sc, .int .i64 c] w (MergeP nd V0 S (mrun v c F ⟨n, E, repl n E f k, false⟩ m) w) := by
  have H := hid (⟨h, hS, hF, hq⟩ : MSt nd V0 S V0 n E w w ∧ Ids w sa k f ∧ Ents w ea m F ∧ (∀ b off, ea = some ⟨b, off, none⟩ → b ≠ nd ∧ V0.ownBlock ≠ some b))
  clear h hS hF hq
  have hmf := run_mkFunc Try.prog
  obtain ⟨i3, hi3, hx0, hx1, hx2⟩ := info_parts inf3
  go_enter Try.func31, Try.ntmps31
  go_wp2_with fail
  go_loopw [10, 18] (fun Rv i wr => ∃ t : Nat, t ≤ k ∧ i = .int .i64 t ∧ Hid (wr.ownsRow w.heap.size 3 1 Rv (repl n E f t).length (natL (repl n E f t)) ∧ Kp All w wr)) (fun _ i _ => k - (intOf i).toNat)
  case atStart => exact ⟨0, Nat.zero_le _, rfl, World.ownsRow_nil _ _ _ _, Kp.refl _ _⟩
  case round =>
    obtain ⟨t, ht, rfl, HR⟩ := hrel
    by_cases hlt : t < k
    · obtain ⟨b, off, rfl, hb, hc⟩ := ids_cells H.out.2.1 (by omega)
      have c1 := (HR.out.2.cell (a := ⟨b, off + t, none⟩) hb trivial).trans (hc t hlt)
      clear hc
      obtain ⟨a0, c0, rfl, hE0, _⟩ := own_ents H.out.1.2.1
      have cv := (H.out.1.1.kp HR.out.2 trivial).view
      have lnd := (H.out.1.1.kp HR.out.2 trivial).lt
      have HE := hid (ents_kept hE0 (HR.out.2.alloc (.cells #[.int .i64 (f t)] 2)))
      have HU := hid (new_int (x := f t) (t := 2) wr)
      clear hE0
      go_wp2_with fail
      refine (index38 a0 n c0 wr.heap.size E (f t) _ (by omega) HE.out HU.out (by rw [nblk_alloc]; omega)).mono ?_
      rintro e w1 ⟨rfl, k1⟩
      have K1 := hid ((Kp.refl All wr).alloc (.cells #[.int .i64 (f t)] 2) |>.trans k1)
      clear k1 HE HU cv
      cases hf : firstIdx n E (f t) with
      | some i =>
        have HI := hid hf
        rw [idxI_some hf]
        have hin := (firstIdx_some hf).1
        clear hf
        have hlen := repl_len n E f t
        have hown : Hid ((w1.alloc (.cells #[.int .i64 (i : Int)] 3)).ownsRow w.heap.size 3 1 u10 (repl n E f t).length (natL (repl n E f t))) := (own_kp HR.out.1 K1.out (fun _ _ => trivial)).alloc _
        have hnews : Hid (∀ j u, [Value.int .i64 (i : Int)][j]? = some u → (w1.alloc (.cells #[.int .i64 (i : Int)] 3)).cell? ((⟨w1.heap.size, 0, none⟩ : Addr).add j) = some u) := by
          intro j u hu
          match j, hu with
          | 0, hu => simp at hu; subst hu; exact new_int w1
        have hsz : w.heap.size ≤ w1.heap.size := (HR.out.2.trans K1.out).size
        go_wp2_with (at_builtin; refine wpList_append_own _ rfl _ _ 76 rfl w.heap.size 3 i3 _ 1 8 Try.underlying76 hi3 hx0 hx1 hx2 rfl (by decide) _ _ _ rfl hown.out ⟨w1.heap.size, 0, none⟩ 1 1 [.int .i64 (i : Int)] rfl rfl hnews.out one_cell (by unfold maxLen; omega) (by omega) (by simp; omega) ?_)
        intro v' w' hO hG _
        have HF : Hid (w'.ownsRow w.heap.size 3 1 v' (repl n E f (t + 1)).length (natL (repl n E f (t + 1))) ∧ Kp All w w') := by
          rw [repl_succ, HI.out]
          refine ⟨by simpa [natL_snoc] using hO, ((HR.out.2.trans K1.out).alloc _).grown hG (fun g hg hl => ?_)⟩
          obtain ⟨_, ⟨rfl, _⟩ | ⟨g', cap, cur, rfl, hb, _⟩⟩ := HR.out.1
          · simp [Value.ownBlock] at hg
          · simp [Value.ownBlock] at hg; omega
        clear hO hG hown hnews
        go_wp2
        go_roundw
        case rel => exact ⟨t + 1, by omega, by go_num, HF.out⟩
        case measure => simp [intOf]; omega
      | none =>
        have HI := hid hf
        rw [idxI_none hf]
        clear hf
        go_wp2
        go_roundw
        case rel => exact ⟨t + 1, by omega, by go_num, by rw [repl_succ, HI.out]; simpa using own_kp HR.out.1 K1.out (fun _ _ => trivial), HR.out.2.trans K1.out⟩
        case measure => simp [intOf]; omega
    · obtain rfl : t = k := by omega
      have HM : Hid (MSt nd V0 S V0 n E w wr ∧ Reps wr u10 (repl n E f t)) := ⟨H.out.1.all HR.out.2, Reps.of_own HR.out.1⟩
      have HL : Hid (∀ r, r ∈ repl n E f t → r < n) := fun r hr => (repl_mem hr).1
      clear HR hmf hi3 hx0 hx1 hx2
      obtain ⟨i5, hi5, hy0, hy1, hy2⟩ := info_parts inf55
      go_wp2_with fail
      go_loopw [10, 37] (fun Rv i wr => ∃ (j n' : Nat) (E' : Nat → Int × Int) (R' : List Nat) (V : Value), j ≤ m ∧ i = .int .i64 j ∧ n' ≤ n + j ∧ Hid (mrun v c F ⟨n, E, repl n E f t, false⟩ j = ⟨n', E', R', false⟩ ∧ MSt nd V0 S V n' E' w wr ∧ Reps wr Rv R' ∧ ∀ r, r ∈ R' → r < n')) (fun _ i _ => m - (intOf i).toNat)
      case atStart => exact ⟨0, n, E, repl n E f t, V0, Nat.zero_le _, rfl, Nat.le_refl _, rfl, HM.out.1, HM.out.2, HL.out⟩
      case round =>
        clear HM HL
        rename_i wr0 _
        obtain ⟨j, n', E', R', V, hj, rfl, hn', HR⟩ := hrel
        by_cases hlt : j < m
        · obtain ⟨b, off, rfl, hb, hc⟩ := ents_cells H.out.2.2.1 (by omega)
          have hqb := H.out.2.2.2 b off rfl
          have c1 := (HR.out.2.1.2.2.2.cell (a := ⟨b, off + j * 2, none⟩) hb hqb).trans (hc j hlt).1
          have c2 := (HR.out.2.1.2.2.2.cell (a := ⟨b, off + j * 2 + 1, none⟩) hb hqb).trans (hc j hlt).2
          clear hc hqb
          by_cases q1 : ((F j).1 == v) = true
          · have Q1 := hid q1
            go_wp2_with fail
            go_roundw
            case rel =>
              exact ⟨j + 1, n', E', R', V, by omega, by go_num, by omega, by
                show mstep v c (mrun v c F ⟨n, E, repl n E f t, false⟩ j) (F j) = _
                rw [HR.out.1]
                unfold mstep
                rw [if_neg (by simp), if_pos (.inl (by simpa using Q1.out))], HR.out.2.1.all ((Kp.refl _ _).alloc _), HR.out.2.2.1.kp ((Kp.refl All _).alloc _) (fun _ _ _ _ => trivial), HR.out.2.2.2⟩
            case measure => simp [intOf]; omega
          · have q1' : ((F j).1 == v) = false := by simpa using q1
            have Q1 := hid q1'
            clear q1
            obtain ⟨a1, cp, rfl, hE1, hg⟩ := own_ents HR.out.2.1.2.1
            have HG := hid hg
            have HN := hid (⟨HR.out.2.1.1.alloc (.cells #[.int .i64 (F j).1, .int .i64 (F j).2] 55), ents_kept hE1 ((Kp.refl All wr).alloc _)⟩ : Node (wr.alloc (.cells #[.int .i64 (F j).1, .int .i64 (F j).2] 55)) nd (.slice a1 n' cp) S ∧ Ents (wr.alloc (.cells #[.int .i64 (F j).1, .int .i64 (F j).2] 55)) a1 n' E')
            clear hE1 hg
            go_wp2_with fail
            refine (holds_any nd a1 n' cp S E' (F j).1 _ (by omega) HN.out.1 HN.out.2).mono ?_
            rintro e w1 ⟨rfl, k1⟩
            have H1 : Hid (MSt nd V0 S (.slice a1 n' cp) n' E' w w1 ∧ Reps w1 u10 R' ∧ HeadIs w1 wr.heap.size 55 2 (entF (fun _ => F j))) := by
              have k := ((Kp.refl All wr).alloc (.cells #[.int .i64 (F j).1, .int .i64 (F j).2] 55)).trans k1
              exact ⟨HR.out.2.1.all k, HR.out.2.2.1.kp k (fun _ _ _ _ => trivial), (one_ent wr (F j)).kp k1 trivial⟩
            clear k1 HN c1 c2
            cases hh : (firstIdx n' E' (F j).1).isSome with
            | true =>
              have Q2 := hid hh
              clear hh
              go_wp2_with fail
              go_roundw
              case rel =>
                exact ⟨j + 1, n', E', R', _, by omega, by go_num, by omega, by
                  show mstep v c (mrun v c F ⟨n, E, repl n E f t, false⟩ j) (F j) = _
                  rw [HR.out.1]
                  unfold mstep
                  rw [if_neg (by simp), if_pos (.inr Q2.out)], H1.out.1, H1.out.2.1, HR.out.2.2.2⟩
              case measure => simp [intOf]; omega
            | false =>
              have Q2 : Hid (¬ ((F j).1 = v ∨ (firstIdx n' E' (F j).1).isSome = true)) := by
                rintro (h | h)
                · have := Q1.out; simp [h] at this
                · rw [hh] at h; cases h
              clear hh
              have cv := H1.out.1.1.view
              have fv := H1.out.1.1.frozen 0
              have lnd := H1.out.1.1.lt
              have x1 : w1.cell? ⟨wr.heap.size, 0, none⟩ = some (.int .i64 (F j).1) := H1.out.2.2.cell (by omega)
              have x2 : w1.cell? ⟨wr.heap.size, 1, none⟩ = some (.int .i64 (F j).2) := H1.out.2.2.cell (by omega)
              have lx := H1.out.2.2.lt
              by_cases q2 : (n' : Int) < c
              · have hX : ∀ Y : Obj, Y = .cells #[.int .i64 (F j).1, .int .i64 (F j).2] 55 → Hid ((w1.alloc Y).drew.ownsRow 0 55 2 (.slice a1 n' cp) n' (entL E' n') ∧ ∀ j' u, (entL (fun _ => F j) 1)[j']? = some u → (w1.alloc Y).drew.cell? ((⟨w1.heap.size, 0, none⟩ : Addr).add j') = some u) := fun Y hY => by
                  subst hY
                  exact ⟨H1.out.1.2.1.alloc _, ents_news (w := (w1.alloc (.cells #[.int .i64 (F j).1, .int .i64 (F j).2] 55)).drew) (Ents.of_head (n := 1) (one_ent w1 (F j)))⟩
                go_wp2_with fail
                go_region_law (refine step_append_at rfl (.tmp 64) (.tmp 66) 24 rfl 0 55 i5 _ 2 16 Try.underlying24 hi5 hy0 hy1 hy2 rfl (by decide) (.slice a1 n' cp) n' (entL E' n') (by simp [Act.eval]) ⟨w1.heap.size, 0, none⟩ 1 1 (entL (fun _ => F j) 1) (by simp [Act.eval]) (hX _ rfl).out.1 (entL_len _ 1) (hX _ rfl).out.2 (entL_one _ 1) (by unfold maxLen; omega) (by omega) (Nat.zero_le _) ?_; intro v' w' hO hG hA; obtain ⟨hN, hl, hM, hk⟩ := H1.out.1.grow hO hG hA; obtain ⟨a', c', hv', _, _⟩ := own_ents hM.2.1; subst hv'; have cs' := hN.view; have fs' := hN.frozen 0; have HF := hid (And.intro hM ((H1.out.2.1.kp hk (fun i _ _ hf e => own_ne H1.out.1.2.1 e i _ _ _ hf (by decide) rfl)).kp ((Kp.refl (· ≠ nd) w').setCell (a := ⟨nd, 0, none⟩) (fun _ h => h rfl) (.slice a' (n' + 1) c')) (fun i _ _ hf => hN.ne hf (by decide)))); clear hO hG hA hM hk hN hX)
                all_goals
                  go_wp2
                  go_roundw
                  case rel =>
                    exact ⟨j + 1, n' + 1, put E' n' (F j), R', _, by omega, by go_num, by omega, by
                      show mstep v c (mrun v c F ⟨n, E, repl n E f t, false⟩ j) (F j) = _
                      rw [HR.out.1]
                      unfold mstep
                      rw [if_neg (by simp), if_neg Q2.out, if_pos (show (n' : Int) < c by omega)], HF.out.1, HF.out.2, fun r hr => Nat.lt_succ_of_lt (HR.out.2.2.2 r hr)⟩
                  case measure => simp [intOf]; omega
              · cases R' with
                | nil =>
                  obtain ⟨ra, rc, rfl, hl, _⟩ := H1.out.2.1
                  clear hl
                  go_wp2_with fail
                  first | go_end0 | refine bodyPost_ret (results_none rfl _ _ _) rfl ?_
                  have hs : mrun v c F ⟨n, E, repl n E f t, false⟩ (j + 1) = ⟨n', E', [], true⟩ := by
                    show mstep v c (mrun v c F ⟨n, E, repl n E f t, false⟩ j) (F j) = _
                    rw [HR.out.1]
                    unfold mstep
                    rw [if_neg (by simp), if_neg Q2.out, if_neg (show ¬ (n' : Int) < c by omega)]
                  refine ⟨rfl, .slice a1 n' cp, ?_⟩
                  rw [mrun_stop (by rw [hs]) m (by omega), hs]
                  exact H1.out.1
                | cons r R1 =>
                  obtain ⟨ra, rc, rfl, hl, hr⟩ := H1.out.2.1
                  rcases hr with hr | ⟨rb, ro, rf, rfl, hH, hrf⟩
                  · cases hr
                  have cr : w1.cell? ⟨rb, ro, none⟩ = some (.int .i64 (r : Int)) := by
                    have := hH.cell (i := ro) (by simp)
                    rw [this]
                    exact congrArg some (hrf 0 r rfl)
                  have HH := hid (And.intro hH hrf)
                  have hrn : r < n' := HR.out.2.2.2 r (List.mem_cons_self ..)
                  rw [List.length_cons] at hl
                  obtain ⟨a2, c2, he, _, hg2⟩ := own_ents H1.out.1.2.1
                  obtain ⟨g, ha2, hO, hgb⟩ := hg2 (by omega)
                  have hrg : rb ≠ g := hH.ne hO.head (by decide)
                  cases he
                  subst ha2
                  have d1 := (hO.head.ent hrn).1
                  have d2 := (hO.head.ent hrn).2
                  have f1 := hO.head.frozen (r * 2)
                  have f2 := hO.head.frozen (r * 2 + 1)
                  have lg := hO.lt
                  have lrb := hH.lt
                  have HB := hid (And.intro hgb hrg)
                  clear hH hrf hg2 hO hgb
                  go_wp2_with fail
                  go_region
                  all_goals
                    go_wp2
                    go_roundw
                    case rel =>
                      refine ⟨j + 1, n', put E' r (F j), R1, _, by omega, by go_num, by omega, by
                        show mstep v c (mrun v c F ⟨n, E, repl n E f t, false⟩ j) (F j) = _
                        rw [HR.out.1]
                        unfold mstep
                        rw [if_neg (by simp), if_neg Q2.out, if_neg (show ¬ (n' : Int) < c by omega)], (H1.out.1.putAt HB.out.1 r (F j)).all ((Kp.refl _ _).drew), ?_, fun q hq => HR.out.2.2.2 q (List.mem_cons_of_mem _ hq)⟩
                      refine ⟨_, _, rfl, by omega, ?_⟩
                      by_cases hR1 : R1 = []
                      · exact .inl hR1
                      have hp : 0 < R1.length := List.length_pos_iff.2 hR1
                      refine .inr ⟨rb, ro + 1, rf, if_neg (by omega), ?_, fun i q hq => ?_⟩
                      · exact ((HH.out.1.less (by simp; omega)).setOther HB.out.2 _).setOther HB.out.2 _
                      · have := HH.out.2 (i + 1) q (by simpa using hq)
                        rw [← this]
                        congr 1
                        omega
                    case measure => simp [intOf]; omega
        · obtain rfl : j = m := by omega
          go_wp2_with fail
          first | go_end0 | refine bodyPost_ret (results_none rfl _ _ _) rfl ?_
          exact ⟨rfl, V, by rw [HR.out.1]; exact HR.out.2.1⟩

end Go.Proofs.Qxb6003312a
