/-
  The walk of PropMergeKeepsViewInvariants.
-/
import Derived.Test.Qxb6003312aParts
import Derived.Deep.RegionHeld3
import Derived.Outline
namespace Go.Proofs.Qxb6003312a
open Go.RowKit Go.Deep

theorem ents_less {w : World} {a : Option Addr} {n t : Nat} {E : Nat → Int × Int} (h : Ents w a n E) (ht : t ≤ n) : Ents w a t E := by
  rcases h with h | ⟨b, off, rfl, hb, hc⟩
  · exact .inl (by omega)
  · exact .inr ⟨b, off, rfl, hb, fun i hi => hc i (by omega)⟩
theorem sl_less {a : Option Addr} {n c t : Nat} (h : Sl a n c) (ht : t ≤ n) : Sl a t c := fun e => ⟨by have := (h e).1; omega, (h e).2⟩

set_option maxRecDepth 100000 in
set_option maxHeartbeats 80000000 in
theorem law4_in (v c : Int) (va : Option Addr) (n vc : Nat) (ea : Option Addr) (m ec : Nat) (sa : Option Addr) (k sc : Nat) (l : Int) (wa : Option Addr) (ns cs : Nat) (E F : Nat → Int × Int) (f s : Nat → Int) (w : World)
    (hn : n ≤ 256) (hm : m ≤ 256) (hk : k ≤ 256) (hns : ns ≤ 65536) (hc : (n : Int) ≤ c) (hvc : n ≤ vc) (hvc2 : vc ≤ 9223372036854775807) (hec : m ≤ ec) (_hec2 : ec ≤ 9223372036854775807) (hsc : k ≤ sc) (hsc2 : sc ≤ 9223372036854775807) (hl : l ≤ 9223372036854775807)
    (h1 : Sl va n vc) (h2 : Ents w va n E) (h3 : Sl ea m ec) (h4 : Ents w ea m F) (h5 : Sl sa k sc) (h6 : Ids w sa k f) (h7 : Words w wa ns cs s) :
    Calls Try.prog 4 #[.int .i64 v, .int .i64 c, .slice va n vc, .slice ea m ec, .slice sa k sc, .int .i64 l, .slice wa ns cs] w fun e w' => e = .returned (.bool true) ∧ Below w.heap.size w w' := by
  have H : Hid (Sl va n vc ∧ Ents w va n E ∧ Sl ea m ec ∧ Ents w ea m F ∧ Sl sa k sc ∧ Ids w sa k f ∧ Words w wa ns cs s) := ⟨h1, h2, h3, h4, h5, h6, h7⟩
  clear h1 h2 h3 h4 h5 h6 h7
  go_enter Try.func4, Try.ntmps4
  go_wp2_with fail
  go_loopw [62] (fun i wr => ∃ t : Nat, t ≤ n ∧ i = .int .i64 t ∧ Hid ((∀ j, j < t → (E j).1 ≠ v) ∧ Kp All w wr)) (fun i _ => n - (intOf i).toNat)
  case atStart => exact ⟨0, Nat.zero_le _, rfl, fun j hj => by omega, Kp.refl _ _⟩
  case round =>
    obtain ⟨t, ht, rfl, HR⟩ := hrel
    by_cases hlt : t < n
    · obtain ⟨b, off, rfl, hb, hcl⟩ := ents_cells H.out.2.1 (by omega)
      have c1 := (HR.out.2.cell (a := ⟨b, off + t * 2, none⟩) hb trivial).trans (hcl t hlt).1
      have c2 := (HR.out.2.cell (a := ⟨b, off + t * 2 + 1, none⟩) hb trivial).trans (hcl t hlt).2
      clear hcl
      by_cases q : ((E t).1 == v) = true
      · have Q := hid q
        go_wp2_with fail
        go_ret
        exact ⟨rfl, (HR.out.2.alloc _).below (Nat.le_refl _) (fun _ _ => trivial)⟩
      · have q' : ((E t).1 == v) = false := by simpa using q
        have Q := hid q'
        clear q
        go_wp2_with fail
        go_roundw
        case rel =>
          refine ⟨t + 1, by omega, by go_num, fun j hj => ?_, HR.out.2.alloc _⟩
          by_cases e : j = t
          · subst e; simpa using Q.out
          · exact HR.out.1 j (by omega)
        case measure => simp [intOf]; omega
    · obtain rfl : t = n := by omega
      clear hlt
      go_wp2_with fail
      refine (viewRep_any va t vc E _ (by omega) hvc (by unfold maxLen; omega) (ents_kept H.out.2.1 HR.out.2)).mono ?_
      rintro e w1 ⟨b, rfl, hb, k1⟩
      have K1 := hid (HR.out.2.trans k1)
      clear k1
      cases b with
      | true =>
        clear hb
        go_wp2_with fail
        go_ret
        exact ⟨rfl, K1.out.below (Nat.le_refl _) (fun _ _ => trivial)⟩
      | false =>
        have HN : Hid (NoRep t E ∧ ∀ i, i < t → (E i).1 ≠ v) := ⟨Classical.not_not.1 (fun h => Bool.noConfusion (hb.2 h)), HR.out.1⟩
        obtain ⟨M, hM0, hM⟩ : ∃ M, (∀ i, M i = mrun v c F ⟨t, E, repl t E f k, false⟩ i) ∧ MK v c t E m F k f M := ⟨_, fun _ => rfl, mk_of hc HN.out.1 HN.out.2⟩
        have HM0 := hid hM0
        have HM := hid hM
        clear hM0 hM hb HR
        have hmk : ∀ w : World, (Instr.makeSlice 37 (.int .i64 ((m : Int) + 1)) (.int .i64 ((m : Int) + 1))).run Try.prog w = .ok (.slice (some ⟨w.heap.size, 0, none⟩) (m + 1) (m + 1)) (w.alloc (.cells (madeCells #[.slice none 0 0] (m + 1)) 22)) := fun w => run_make_row' (P := Try.prog) 37 22 (.slice none 0 0) 24 Try.underlying37 info22 rfl .i64 .i64 (m + 1) (by omega) (by omega) w
        have HS0 : Hid (Sts w1.heap.size (w1.heap.size < ·) M 0 (m + 1) (w1.alloc (.cells (madeCells #[.slice none 0 0] (m + 1)) 22)) ∧ Kp All w (w1.alloc (.cells (madeCells #[.slice none 0 0] (m + 1)) 22)) ∧ w.heap.size ≤ w1.heap.size) := ⟨Sts.made w1, K1.out.alloc _, K1.out.size⟩
        go_wp2_with fail
        clear K1
        go_loopw [79] (fun i wr => ∃ t' : Nat, t' ≤ m + 1 ∧ i = .int .i64 t' ∧ Hid (Sts w1.heap.size (w1.heap.size < ·) M t' (m + 1) wr ∧ Kp All w wr)) (fun i _ => m + 1 - (intOf i).toNat)
        case atStart => exact ⟨0, Nat.zero_le _, rfl, HS0.out.1, HS0.out.2.1⟩
        case round =>
          clear hmk
          have HB : Hid (w.heap.size ≤ w1.heap.size) := HS0.out.2.2
          clear HS0
          obtain ⟨t', ht', rfl, HR⟩ := hrel
          by_cases hlt : t' < m + 1
          · have lSB := HR.out.1.lt
            go_wp2_with fail
            have hz := zmerge_any va t vc E ea t' ec F sa k sc f v c wr hn (by omega) hk H.out.1 (ents_kept H.out.2.1 HR.out.2) (sl_less H.out.2.2.1 (by omega)) (ents_kept (ents_less H.out.2.2.2.1 (by omega)) HR.out.2) H.out.2.2.2.2.1 (H.out.2.2.2.2.2.1.kp HR.out.2)
            rw [← HM0.out t'] at hz
            refine hz.mono ?_
            clear hz
            rintro e w2 ⟨a, rfl, hE, hs, hf, k2⟩
            obtain ⟨⟨x, cx⟩, fx⟩ := (HR.out.1.all k2).slot hlt
            have HP := hid (And.intro (HR.out.1.put k2 hE hs hf) (HR.out.2.trans k2))
            have lSB2 : w1.heap.size < w2.heap.size := Nat.lt_of_lt_of_le lSB k2.size
            clear hE hs hf k2 lSB
            go_wp2_with fail
            go_roundw
            case rel => exact ⟨t' + 1, by omega, by go_num, HP.out.1, HP.out.2.setCell (fun h => absurd h (by have := HB.out; show ¬ w1.heap.size < w.heap.size; omega)) _⟩
            case measure => simp [intOf]; omega
          · obtain rfl : t' = m + 1 := by omega
            clear hlt ht'
            go_wp2_with fail
            go_loopw [96] (fun i wr => ∃ t' : Nat, t' ≤ m + 1 ∧ i = .int .i64 t' ∧ Hid (Sts w1.heap.size (w1.heap.size < ·) M (m + 1) (m + 1) wr ∧ Kp All w wr)) (fun i _ => m + 1 - (intOf i).toNat)
            case atStart => exact ⟨0, Nat.zero_le _, rfl, HR.out⟩
            case round =>
              clear HR
              obtain ⟨t', ht', rfl, HR⟩ := hrel
              by_cases hlt : t' < m + 1
              · as_aux_lemma =>
                have lSB := HR.out.1.lt
                obtain ⟨a, cx, hE, hs, _⟩ := HR.out.1.at (Nat.le_refl _) hlt
                obtain ⟨N, hN⟩ : ∃ N, (M t').n = N := ⟨_, rfl⟩
                obtain ⟨G, hG⟩ : ∃ G, (M t').E = G := ⟨_, rfl⟩
                have hKe := HM.out.keeps t' (by omega)
                have hle := HM.out.len t'
                have hlc := hKe.len
                rw [hN] at cx hs hE hle hlc
                rw [hG] at hE
                have HE := hid (And.intro hE hs)
                have HK : Hid (NoRep N G ∧ (∀ i, i < N → (G i).1 ≠ v) ∧ ∀ i, i < N → (∃ a, a < t ∧ E a = G i) ∨ ∃ a, a < m ∧ F a = G i) := by
                  rw [← hN, ← hG]; exact ⟨hKe.rep, hKe.own, hKe.src⟩
                clear hE hs hKe hN hG
                have hlc2 : ¬ c < (N : Int) := by omega
                go_wp2_with fail
                refine (viewRep_any a N N G _ (by omega) (Nat.le_refl _) (by unfold maxLen; omega) HE.out.1).mono ?_
                rintro e w2 ⟨b, rfl, hb, k2⟩
                have hbf : b = false := by
                  cases b with
                  | false => rfl
                  | true => exact absurd HK.out.1 (hb.1 rfl)
                subst hbf
                have HR2 := hid (And.intro (HR.out.1.all k2) (HR.out.2.trans k2))
                have HE2 := hid (ents_kept HE.out.1 k2)
                clear hb k2 HE cx lSB
                go_wp2_with fail
                go_loopw [110] (fun i wr => ∃ j : Nat, j ≤ N ∧ i = .int .i64 j ∧ Hid (Sts w1.heap.size (w1.heap.size < ·) M (m + 1) (m + 1) wr ∧ Kp All w wr ∧ Ents wr a N G)) (fun i _ => N - (intOf i).toNat)
                case atStart => exact ⟨0, Nat.zero_le _, rfl, HR2.out.1, HR2.out.2, HE2.out⟩
                case round =>
                  clear HR HR2 HE2
                  obtain ⟨j, hj, rfl, HJ⟩ := hrel
                  by_cases hjl : j < N
                  · obtain ⟨b, off, rfl, hb, hcl⟩ := ents_cells HJ.out.2.2 (by omega)
                    have c1 := (hcl j hjl).1
                    have c2 := (hcl j hjl).2
                    clear hcl
                    have q1 : ((G j).1 == v) = false := by simpa using HK.out.2.1 j hjl
                    have HX := hid (one_ent (t := 33) wr (G j))
                    have K0 := hid ((Kp.refl All wr).alloc (.cells #[.int .i64 (G j).1, .int .i64 (G j).2] 33))
                    go_wp2_with fail
                    refine (hasEntry_any va t vc E (G j).1 (G j).2 _ (by omega) (ents_kept H.out.2.1 (HJ.out.2.1.trans K0.out))).mono ?_
                    rintro e w2 ⟨b1, rfl, hb1, k2⟩
                    have HJ2 := hid (And.intro (HJ.out.1.all (K0.out.trans k2)) (And.intro (HJ.out.2.1.trans (K0.out.trans k2)) (ents_kept HJ.out.2.2 (K0.out.trans k2))))
                    have x1 : w2.cell? ⟨wr.heap.size, 0, none⟩ = some (.int .i64 (G j).1) := (HX.out.kp k2 trivial).cell (by omega)
                    have x2 : w2.cell? ⟨wr.heap.size, 1, none⟩ = some (.int .i64 (G j).2) := (HX.out.kp k2 trivial).cell (by omega)
                    have lx : wr.heap.size < w2.heap.size := (HX.out.kp k2 trivial).lt
                    have HB1 := hid hb1
                    clear hb1 k2 HX c1 c2
                    cases b1 with
                    | true =>
                      go_wp2_with fail
                      go_roundw
                      case rel => exact ⟨j + 1, by omega, by go_num, HJ2.out⟩
                      case measure => simp [intOf]; omega
                    | false =>
                      go_wp2_with fail
                      refine (hasEntry_any ea m ec F (G j).1 (G j).2 _ (by omega) (ents_kept H.out.2.2.2.1 HJ2.out.2.1)).mono ?_
                      rintro e w3 ⟨b2, rfl, hb2, k3⟩
                      have hbt : b2 = true := hb2.2 (by
                        rcases HK.out.2.2 j hjl with ⟨i, hi, he⟩ | h
                        · exact Bool.noConfusion (HB1.out.2 ⟨i, hi, he⟩)
                        · exact h)
                      subst hbt
                      have HJ3 := hid (And.intro (HJ2.out.1.all k3) (And.intro (HJ2.out.2.1.trans k3) (ents_kept HJ2.out.2.2 k3)))
                      clear hb2 k3 x1 x2 lx HJ2
                      go_wp2_with fail
                      go_roundw
                      case rel => exact ⟨j + 1, by omega, by go_num, HJ3.out⟩
                      case measure => simp [intOf]; omega
                  · go_wp2_with fail
                    go_roundw
                    case rel =>
                      (repeat apply Exists.intro)
                      exact ⟨⟨t' + 1, by omega, by go_num, HJ.out.1, HJ.out.2.1⟩, rfl⟩
                    case measure => simp [intOf]; omega
              · as_aux_lemma =>
                obtain rfl : t' = m + 1 := by omega
                clear hlt ht'
                go_wp2_with fail
                refine (idsRep_any sa k sc f _ (by omega) hsc (by unfold maxLen; omega) (H.out.2.2.2.2.2.1.kp HR.out.2)).mono ?_
                rintro e w2 ⟨b, rfl, hb, k2⟩
                have HR2 := hid (And.intro (HR.out.1.all k2) (HR.out.2.trans k2))
                clear k2 HR
                go_upto_if 132 with fail
                go_cut [] (fun wx => Hid (Kp All w wx))
                case first =>
                 as_aux_lemma =>
                  cases b with
                  | true =>
                    go_wp2_with fail
                    go_meet
                    exact HR2.out.2
                  | false =>
                    have HD : Hid (Marks (fun _ => false) (M 0)) := ⟨by rw [HM.out.zero]; exact repl_nodup (fun i hi j hj e => Bool.noConfusion (hb.2 ⟨i, hi, j, hj, e⟩)), fun i h => Bool.noConfusion h⟩
                    have hmk := run_make_row' (P := Try.prog) 41 4 (.bool false) 1 Try.underlying41 info4 rfl .i64 .i64 t (by omega) (by omega)
                    have HU0 : Hid (HeadIs (w2.alloc (.cells (madeCells #[.bool false] t) 4)) w2.heap.size 4 t (fun _ => .bool false)) := HeadIs.of_row (World.rowIs_made w2 (.bool false) t 4)
                    have HL : Hid (w.heap.size ≤ w2.heap.size ∧ w1.heap.size < w2.heap.size) := ⟨HR2.out.2.size, HR2.out.1.lt⟩
                    clear hb
                    go_wp2_with fail
                    clear hmk
                    go_loopw [24] (fun i wr => ∃ (t' : Nat) (U : Nat → Bool), t' ≤ m ∧ i = .int .i64 ((t' : Int) + 1) ∧ Hid (Sts w1.heap.size (· < w2.heap.size) M (m + 1) (m + 1) wr ∧ Kp All w wr ∧ HeadIs wr w2.heap.size 4 t (fun j => .bool (U j)) ∧ Marks U (M t'))) (fun i _ => m + 1 - (intOf i).toNat)
                    case atStart => exact ⟨0, fun _ => false, Nat.zero_le _, rfl, HR2.out.1.low.all ((Kp.refl _ _).alloc _), HR2.out.2.alloc _, HU0.out, HD.out⟩
                    case round =>
                      clear HD HU0 HR2
                      obtain ⟨t', U, ht', rfl, HR⟩ := hrel
                      by_cases hlt : t' < m
                      · have lSB := HR.out.1.lt
                        obtain ⟨a, cx, hE, hs, ho⟩ := HR.out.1.at (Nat.le_refl _) (show t' < m + 1 by omega)
                        obtain ⟨a2, cx2, hE2, hs2, ho2⟩ := HR.out.1.at (Nat.le_refl _) (show t' + 1 < m + 1 by omega)
                        have hdf := mstep_diff v c (M t') (F t')
                        rw [← HM.out.step t'] at hdf
                        have hle := HM.out.len t'
                        have hle2 := HM.out.len (t' + 1)
                        have hps : Hid (∀ r, r ∈ (M t').R → r < t ∧ ∃ i, i < k ∧ f i = (E r).1) := fun r hr => repl_mem (HM.out.sub t' r hr)
                        have HMk := hid (HR.out.2.2.2)
                        have HSt := hid (HM.out.step t')
                        have HA := hid (And.intro HR.out.1 (And.intro HR.out.2.1 HR.out.2.2.1))
                        clear HR
                        obtain ⟨N, hN⟩ : ∃ N, (M t').n = N := ⟨_, rfl⟩
                        obtain ⟨G, hG⟩ : ∃ G, (M t').E = G := ⟨_, rfl⟩
                        obtain ⟨N2, hN2⟩ : ∃ N2, (M (t' + 1)).n = N2 := ⟨_, rfl⟩
                        obtain ⟨G2, hG2⟩ : ∃ G2, (M (t' + 1)).E = G2 := ⟨_, rfl⟩
                        have HEq := hid (And.intro hN (And.intro hG (And.intro hN2 hG2)))
                        rw [hN] at cx hE hs hle hdf ho
                        rw [hG] at hE hdf
                        rw [hN2] at cx2 hE2 hs2 hle2 hdf ho2
                        rw [hG2] at hE2 hdf
                        have HOk := hid (And.intro ho ho2)
                        clear hN hG hN2 hG2 hs hs2 ho ho2
                        have HE := hid (And.intro hE hE2)
                        have hNN := hdf.1
                        have HDf := hid hdf.2.1
                        clear hE hE2 hdf
                        have hz1 : ((t' : Int) + 1).toNat = t' + 1 := by omega
                        have hz2 : ((t' : Int) + 1 - 1) = (t' : Int) := by omega
                        have hz3 : ¬ (N2 : Int) < (N : Int) := by omega
                        go_wp2_with fail
                        go_quiet (fail)
                        go_wp2_with fail
                        have HNN := hid hNN
                        clear cx cx2 hz1 hz2 hz3 hNN
                        have HE3 := hid (And.intro (ents_kept HE.out.1 (kp_dN (k := nq))) (ents_kept HE.out.2 (kp_dN (k := nq))))
                        have HA3 := hid (And.intro (HA.out.1.all (kp_dN (k := nq))) (And.intro (HA.out.2.1.trans (kp_dN (k := nq))) (HA.out.2.2.kp (kp_dN (k := nq)) trivial)))
                        clear HE HA
                        go_loopw [27] (fun i wr => ∃ (j : Nat) (U' : Nat → Bool), j ≤ N ∧ i = .int .i64 j ∧ Hid (Sts w1.heap.size (· < w2.heap.size) M (m + 1) (m + 1) wr ∧ Kp All w wr ∧ HeadIs wr w2.heap.size 4 t (fun j => .bool (U' j)) ∧ Ents wr a N G ∧ Ents wr a2 N2 G2 ∧ ∀ i, U' i = true → U i = true ∨ (i < j ∧ G2 i ≠ G i))) (fun i _ => N - (intOf i).toNat)
                        case atStart => exact ⟨0, U, Nat.zero_le _, rfl, HA3.out.1, HA3.out.2.1, HA3.out.2.2, HE3.out.1, HE3.out.2, fun i h => .inl h⟩
                        case round =>
                          clear HA3 HE3 lSB
                          obtain ⟨j, U', hj, rfl, HJ⟩ := hrel
                          by_cases hjl : j < N
                          · obtain ⟨b1, o1, rfl, hb1, hc1⟩ := ents_cells HJ.out.2.2.2.1 (by omega)
                            have hjN2 : j < N2 := Nat.lt_of_lt_of_le hjl HNN.out
                            obtain ⟨b2, o2, rfl, hb2, hc2⟩ := ents_cells HJ.out.2.2.2.2.1 (by omega)
                            have p1 := (hc1 j hjl).1
                            have p2 := (hc1 j hjl).2
                            have n1 := (hc2 j (by omega)).1
                            have n2 := (hc2 j (by omega)).2
                            clear hc1 hc2
                            have q33 := eq33
                            by_cases heq : G2 j = G j
                            · as_aux_lemma =>
                              have t1 : ((G2 j).1 == (G j).1) = true := by simp [heq]
                              have t2 : ((G2 j).2 == (G j).2) = true := by simp [heq]
                              clear heq
                              go_wp2_with fail
                              go_quiet (fail)
                              go_wp2_with fail
                              go_roundw
                              case rel => exact ⟨j + 1, U', by omega, by go_num, HJ.out.1.all kp_dN, HJ.out.2.1.trans kp_dN, HJ.out.2.2.1.kp (kp_dN (k := nq)) trivial, ents_kept HJ.out.2.2.2.1 kp_dN, ents_kept HJ.out.2.2.2.2.1 kp_dN, fun i h => (HJ.out.2.2.2.2.2 i h).imp id (fun h => ⟨by omega, h.2⟩)⟩
                              case measure => simp [intOf]; omega
                            · obtain ⟨R1, hR1, _⟩ := HDf.out j hjl heq
                              have hjR : j ∈ (M t').R := by rw [hR1]; exact List.mem_cons_self ..
                              obtain ⟨hjt, hex⟩ := hps.out j hjR
                              have hU : U' j = false := by
                                cases hu : U' j with
                                | false => rfl
                                | true =>
                                  rcases HJ.out.2.2.2.2.2 j hu with h | h
                                  · exact absurd hjR (HMk.out.2 j h)
                                  · omega
                              have cU : wr.cell? ⟨w2.heap.size, j, none⟩ = some (.bool false) := by rw [HJ.out.2.2.1.cell hjt, hU]
                              have lU := HJ.out.2.2.1.lt
                              obtain ⟨b3, o3, rfl, hb3, hc3⟩ := ents_cells H.out.2.1 (by omega)
                              have e1 := (HJ.out.2.1.cell (a := ⟨b3, o3 + j * 2, none⟩) hb3 trivial).trans (hc3 j hjt).1
                              have lb3 : b3 < wr.heap.size := Nat.lt_of_lt_of_le hb3 HJ.out.2.1.size
                              have HX := hid (And.intro heq hex)
                              have tt : ((G2 j).1 == (G j).1) = false ∨ (((G2 j).1 == (G j).1) = true ∧ ((G2 j).2 == (G j).2) = false) := by
                                by_cases h1 : (G2 j).1 = (G j).1
                                · exact .inr ⟨by simpa using h1, by
                                    have : (G2 j).2 ≠ (G j).2 := fun h2 => heq (Prod.ext h1 h2)
                                    simpa using this⟩
                                · exact .inl (by simpa using h1)
                              clear hc3 hex heq hR1 hjR hU
                              rcases tt with t1 | ⟨t1, t2⟩
                              all_goals
                               as_aux_lemma =>
                                go_wp2_with fail
                                go_quiet (fail)
                                go_wp2_with fail
                                refine (hasID_any sa k sc f (E j).1 _ (by omega) (H.out.2.2.2.2.2.1.kp (HJ.out.2.1.trans kp_dN))).mono ?_
                                rintro e w3 ⟨b, rfl, hb, k3⟩
                                have hbt : b = true := hb.2 HX.out.2
                                subst hbt
                                have k4 : Kp All wr w3 := (kp_dN (k := nq)).trans k3
                                have HJ3 := hid (And.intro (HJ.out.1.all k4) (And.intro (HJ.out.2.1.trans k4) (And.intro (HJ.out.2.2.1.kp k4 trivial) (And.intro (ents_kept HJ.out.2.2.2.1 k4) (ents_kept HJ.out.2.2.2.2.1 k4)))))
                                have cU3 : w3.cell? ⟨w2.heap.size, j, none⟩ = some (.bool (U' j)) := HJ3.out.2.2.1.cell hjt
                                have fU3 := HJ3.out.2.2.1.frozen j
                                have lU3 := HJ3.out.2.2.1.lt
                                clear hb k3 k4 cU lU e1 lb3 p1 p2 n1 n2
                                go_wp2_with fail
                                go_roundw
                                case rel =>
                                  have ks : ∀ x : Value, Kp (· ≠ w2.heap.size) w3 (w3.setCell ⟨w2.heap.size, j, none⟩ x) := fun x => (Kp.refl _ _).setCell (fun _ h => h rfl) _
                                  (repeat apply Exists.intro)
                                  refine ⟨⟨j + 1, fun i => if i = j then true else U' i, by omega, by go_num, HJ3.out.1.part (ks _) (by have := HL.out.2; show w1.heap.size ≠ w2.heap.size; omega) (fun b hb => by show b ≠ w2.heap.size; omega), HJ3.out.2.1.setCell (a := ⟨w2.heap.size, j, none⟩) (fun h => absurd h (by have := HL.out.1; show ¬ w2.heap.size < w.heap.size; omega)) _, (HJ3.out.2.2.1.set j _).congr (fun i _ => bool_upd U' j i), ents_part HJ3.out.2.2.2.1 (ks _) (fun h0 b off e => by have := HOk.out.1 h0 b off e; show b ≠ w2.heap.size; omega), ents_part HJ3.out.2.2.2.2 (ks _) (fun h0 b off e => by have := HOk.out.2 h0 b off e; show b ≠ w2.heap.size; omega), fun i h => ?_⟩, ?_⟩
                                  rotate_left
                                  · (rw [show decide (N2 < N) = false from decide_eq_false (by have := HNN.out; omega)]) <;> rfl
                                  · have h' : (if i = j then true else U' i) = true := h
                                    by_cases e : i = j
                                    · subst e; exact .inr ⟨by omega, HX.out.1⟩
                                    · rw [if_neg e] at h'
                                      exact (HJ.out.2.2.2.2.2 i h').imp id (fun h => ⟨by omega, h.2⟩)
                                case measure => simp [intOf]; omega
                          · obtain rfl : j = N := by omega
                            go_wp2_with fail
                            go_roundw
                            case rel =>
                              (repeat apply Exists.intro)
                              refine ⟨⟨t' + 1, U', by omega, by go_num, HJ.out.1, HJ.out.2.1, HJ.out.2.2.1, ?_⟩, rfl⟩
                              rw [HSt.out]
                              refine HMk.out.step (fun i hi => ?_)
                              rw [← HSt.out, HEq.out.1, HEq.out.2.1, HEq.out.2.2.2]
                              rcases HJ.out.2.2.2.2.2 i hi with h | h
                              · exact .inl h
                              · exact .inr h
                            case measure => simp [intOf]; omega
                      · obtain rfl : t' = m := by omega
                        go_wp2_with fail
                        go_meet
                        exact HR.out.2.1
                case rest =>
                 as_aux_lemma =>
                  clear HR2
                  go_upto_if 193 with fail
                  go_cut [] (fun wx => Hid (Kp All w wx))
                  case first =>
                   as_aux_lemma =>
                    by_cases hl1 : 1 ≤ l
                    · obtain ⟨l', hl'⟩ := Int.eq_ofNat_of_zero_le (show 0 ≤ l - 1 by omega)
                      have HLq : Hid (l = (l' : Int) + 1) := show l = (l' : Int) + 1 by omega
                      have HLb : Hid (l' + 1 ≤ 9223372036854775807) := show l' + 1 ≤ 9223372036854775807 by omega
                      clear hl'
                      go_wp2_with fail
                      refine (rand_any wa ns cs s _ hns (words_kept H.out.2.2.2.2.2.2 hcut.out)).mono ?_
                      rintro e w3 ⟨br, bs, lf, rfl, hr3, k3, _, lbs⟩
                      have H3 := hid (And.intro hr3 (And.intro (hcut.out.trans k3) (Nat.le_trans hcut.out.size lbs)))
                      clear hr3 k3 lbs
                      go_wp2_with fail
                      refine (to_any va t vc E _ (by omega) H.out.1 (ents_kept H.out.2.1 H3.out.2.1)).mono ?_
                      rintro e w4 ⟨a4, c4, rfl, hO4, k4, _⟩
                      have H4 := hid (And.intro hO4 (And.intro (H3.out.1.kp k4 (fun _ _ _ => trivial)) (And.intro (H3.out.2.1.trans k4) H3.out.2.1.size)))
                      clear hO4 k4
                      go_wp2_with fail
                      refine (node_new a4 t c4 _).mono ?_
                      rintro e w5 ⟨rfl, hN5, k5, _⟩
                      have H5 := hid (And.intro (own_kp (own_base H4.out.1).1 k5 (fun _ _ => trivial)) (And.intro (H4.out.2.1.kp k5 (fun _ _ _ => trivial)) (And.intro (H4.out.2.2.1.trans k5) hN5)))
                      clear k5 hN5
                      go_wp2_with fail
                      have hz := zask_sent w4.heap.size br bs lf a4 t c4 v l' E w5 (by omega) HLb.out H5.out.2.2.2 H5.out.1 H5.out.2.1 HN.out.1
                      rw [← HLq.out] at hz
                      refine hz.mono ?_
                      clear hz
                      rintro e w6 ⟨x6, y6, yn6, yc6, z6, V6, sa6, sn6, sc6, g6, rfl, hN6, hI6, hd6, b61, b62, b63, ⟨l6, hr6⟩, k6⟩
                      have K6 : Hid (Kp All w w6) := H5.out.2.2.1.then_ k6 (fun q hq _ => ⟨by have := H3.out.2.2; omega, by have := H4.out.2.2.1.size; omega, fun e => by have := (own_base H4.out.1).2 q e; have := H4.out.2.2.2; omega⟩)
                      have H6 := hid (And.intro hN6 (And.intro hI6 (And.intro hd6 hr6)))
                      clear hN6 hI6 hd6 hr6 k6
                      go_wp2_with fail
                      refine (node_sent _ _ _ _ H6.out.1).mono ?_
                      rintro e w7 ⟨rfl, hw⟩
                      rw [hw]
                      clear hw w7
                      go_wp2_with fail
                      refine (idsRep_any sa6 sn6 sc6 g6 _ b61 b62 b63 H6.out.2.1).mono ?_
                      rintro e w7 ⟨b7, rfl, hb7, k7⟩
                      have hb7f : b7 = false := by
                        cases b7 with
                        | false => rfl
                        | true => obtain ⟨i, hi, j, hj, e⟩ := hb7.1 rfl; exact absurd e (H6.out.2.2.1 i hi j hj)
                      subst hb7f
                      have H7 := hid (And.intro (K6.out.trans k7) (H6.out.2.2.2.kp k7 (fun _ _ _ => trivial)))
                      clear hb7 k7
                      go_wp2_with fail
                      refine (to_any va t vc E _ (by omega) H.out.1 (ents_kept H.out.2.1 H7.out.1)).mono ?_
                      rintro e w8 ⟨a8, c8, rfl, hO8, k8, hs8⟩
                      have H8 : Hid (Ents w8 a8 t E ∧ Sl a8 t c8 ∧ Rng w8 br bs l6 ∧ Kp All w w8) := by
                        obtain ⟨a, c, he, hE, _⟩ := own_ents (own_base hO8).1
                        cases he
                        exact ⟨hE, hs8, H7.out.2.kp k8 (fun _ _ _ => trivial), H7.out.1.trans k8⟩
                      clear hO8 k8 hs8
                      go_wp2_with fail
                      have hz := zdraw_rep br bs l6 a8 t c8 l' E w8 (by omega) HLb.out H8.out.2.1 H8.out.1 H8.out.2.2.1 HN.out.1
                      rw [← HLq.out] at hz
                      refine hz.mono ?_
                      clear hz
                      rintro e w9 ⟨⟨a9, n9, c9, G9, rfl, hE9, hs9, hn9, hl9⟩, k9⟩
                      have H9 : Hid (Ents w9 a9 n9 G9 ∧ Sl a9 n9 c9 ∧ NoRep n9 G9 ∧ Kp All w w9) := ⟨hE9, hs9, hn9, H8.out.2.2.2.then_ k9 (fun q hq _ => by have := H3.out.2.2; show q ≠ bs; omega)⟩
                      clear hE9 hs9 hn9 k9
                      go_wp2_with fail
                      refine (from_any a9 n9 c9 G9 _ (by omega) H9.out.2.1 H9.out.1).mono ?_
                      rintro e w10 ⟨a10, rfl, hE10, _, _, k10⟩
                      have H10 := hid (And.intro hE10 (H9.out.2.2.2.trans k10))
                      clear hE10 k10
                      go_wp2_with fail
                      refine (viewRep_any a10 n9 n9 G9 _ (by omega) (Nat.le_refl _) (by unfold maxLen; omega) H10.out.1).mono ?_
                      rintro e w11 ⟨b11, rfl, hb11, k11⟩
                      have hb11f : b11 = false := by
                        cases b11 with
                        | false => rfl
                        | true => exact absurd H9.out.2.2.1 (hb11.1 rfl)
                      subst hb11f
                      have H11 := hid (H10.out.2.trans k11)
                      clear hb11 k11
                      go_wp2_with fail
                      go_meet
                      exact H11.out
                    · have hl2 : ¬ (1 : Int) ≤ l := hl1
                      go_wp2_with fail
                      go_meet
                      exact hcut.out
                  case rest =>
                   as_aux_lemma =>
                    have HC := hid hcut.out
                    by_cases hg : (1 : Int) ≤ c ∧ (t : Int) = c
                    · obtain ⟨hg1, hg2⟩ := hg
                      have ht1 : 1 ≤ t := by omega
                      have hg3 : ((t : Int) == c) = true := by simpa using hg2
                      have hg4 : ((t : Int) != c) = false := by simpa using hg2
                      have HG := hid hg2
                      clear hg2
                      obtain ⟨b3, o3, rfl, hb3, hc3⟩ := ents_cells H.out.2.1 (by omega)
                      have e1 := (HC.out.cell (a := ⟨b3, o3, none⟩) hb3 trivial).trans (by simpa using (hc3 0 (by omega)).1)
                      have lb3 : b3 < wc.heap.size := Nat.lt_of_lt_of_le hb3 HC.out.size
                      clear hc3
                      go_wp2_with fail
                      refine (fresh_any _ t vc E v 0 _ hn (by omega) (by omega) (ents_kept H.out.2.1 HC.out)).mono ?_
                      rintro e w3 ⟨x, rfl, hx, k3⟩
                      have hx1 := hx.1
                      have hx2 := hx.2.1
                      have H3 := hid (And.intro hx (HC.out.trans k3))
                      clear hx k3 e1 lb3
                      go_wp2_with fail
                      refine (fresh_any _ t vc E v (x + 1) _ hn (by omega) (by omega) (ents_kept H.out.2.1 H3.out.2)).mono ?_
                      rintro e w4 ⟨y, rfl, hy, k4⟩
                      have hy1 := hy.1
                      have H4 := hid (And.intro hy (H3.out.2.trans k4))
                      clear hy k4
                      have hbd := bld33
                      have HX1 := hid (one_ent (t := 33) w4 (x, 1))
                      have HX2 := hid (one_ent (t := 33) (w4.alloc (.cells #[.int .i64 x, .int .i64 1] 33)) (y, 2))
                      have HK5 := hid ((H4.out.2.alloc (.cells #[.int .i64 x, .int .i64 1] 33)).alloc (.cells #[.int .i64 y, .int .i64 2] 33))
                      go_wp2_with fail
                      refine (to_any _ t vc E _ (by omega) H.out.1 (ents_kept H.out.2.1 HK5.out)).mono ?_
                      rintro e w6 ⟨a6, c6, rfl, hO6, k6, _⟩
                      have HO6 : Hid (w6.ownsRow (w4.heap.size + 2) 55 2 (.slice a6 t c6) t (entL E t)) := by
                        have := hO6
                        rw [nblk_alloc, nblk_alloc] at this
                        exact this
                      have HX6 : Hid (HeadIs w6 w4.heap.size 33 2 (entF (fun _ => (x, 1))) ∧ HeadIs w6 (w4.heap.size + 1) 33 2 (entF (fun _ => (y, 2))) ∧ Kp All w w6) := by
                        refine ⟨(HX1.out.alloc _).kp k6 trivial, ?_, HK5.out.trans k6⟩
                        have := HX2.out.kp k6 trivial
                        rw [nblk_alloc] at this
                        exact this
                      clear hO6 k6 HX1 HX2 HK5
                      go_wp2_with fail
                      refine (node_new a6 t c6 _).mono ?_
                      rintro e w7 ⟨rfl, hN7, k7, hsz7⟩
                      have H7 : Hid (Node w7 w6.heap.size (.slice a6 t c6) (.slice none 0 0) ∧ w7.ownsRow (w4.heap.size + 2) 55 2 (.slice a6 t c6) t (entL E t) ∧ HeadIs w7 w4.heap.size 33 2 (entF (fun _ => (x, 1))) ∧ HeadIs w7 (w4.heap.size + 1) 33 2 (entF (fun _ => (y, 2))) ∧ Kp All w w7 ∧ w7.heap.size = w6.heap.size + 1 ∧ w4.heap.size + 1 < w6.heap.size ∧ ∀ g, (Value.slice a6 t c6).ownBlock = some g → g < w6.heap.size) :=
                        ⟨hN7, own_kp HO6.out k7 (fun _ _ => trivial), HX6.out.1.kp k7 trivial, HX6.out.2.1.kp k7 trivial, HX6.out.2.2.trans k7, hsz7, HX6.out.2.1.lt, fun g hg => own_lt (own_base HO6.out).1 hg⟩
                      clear hN7 k7 hsz7 HO6 HX6
                      have x1 : w7.cell? ⟨w4.heap.size, 0, none⟩ = some (.int .i64 x) := H7.out.2.2.1.cell (by omega)
                      have x2 : w7.cell? ⟨w4.heap.size, 1, none⟩ = some (.int .i64 1) := H7.out.2.2.1.cell (by omega)
                      have y1 : w7.cell? ⟨w4.heap.size + 1, 0, none⟩ = some (.int .i64 y) := H7.out.2.2.2.1.cell (by omega)
                      have y2 : w7.cell? ⟨w4.heap.size + 1, 1, none⟩ = some (.int .i64 2) := H7.out.2.2.2.1.cell (by omega)
                      have lx := H7.out.2.2.1.lt
                      have ly := H7.out.2.2.2.1.lt
                      have HF := hid (two_ents w7 x 1 y 2)
                      go_wp2_with fail
                      refine (to_any _ 2 2 (twoF (x, 1) (y, 2)) _ (by omega) (fun h => by cases h) HF.out).mono ?_
                      rintro e w8 ⟨a8, c8, rfl, hO8, k8, _⟩
                      rw [nblk_alloc] at hO8
                      have H8 := hid (And.intro hO8 (((Kp.refl All w7).alloc (.cells #[.int .i64 x, .int .i64 1, .int .i64 y, .int .i64 2] 33)).trans k8))
                      clear hO8 k8 HF x1 x2 y1 y2 lx ly
                      have HI := hid (two_ids w8 (E 0).1)
                      have HM9 : Hid (MSt w6.heap.size (.slice a6 t c6) (.slice none 0 0) (.slice a6 t c6) t E (w8.alloc (.cells #[.int .i64 (E 0).1, .int .i64 (E 0).1] 2)) (w8.alloc (.cells #[.int .i64 (E 0).1, .int .i64 (E 0).1] 2)) ∧ Ents (w8.alloc (.cells #[.int .i64 (E 0).1, .int .i64 (E 0).1] 2)) a8 2 (twoF (x, 1) (y, 2)) ∧ (∀ b off, a8 = some ⟨b, off, none⟩ → b ≠ w6.heap.size ∧ (Value.slice a6 t c6).ownBlock ≠ some b) ∧ HeadIs (w8.alloc (.cells #[.int .i64 (E 0).1, .int .i64 (E 0).1] 2)) (w4.heap.size + 1) 33 2 (entF (fun _ => (y, 2))) ∧ Kp All w (w8.alloc (.cells #[.int .i64 (E 0).1, .int .i64 (E 0).1] 2))) := by
                        have k79 := H8.out.2.alloc (.cells #[.int .i64 (E 0).1, .int .i64 (E 0).1] 2)
                        refine ⟨MSt.start (H7.out.1.kp k79 trivial) (own_kp (own_base H7.out.2.1).1 k79 (fun _ _ => trivial)), ?_, fun b off hb => ?_, H7.out.2.2.2.1.kp k79 trivial, H7.out.2.2.2.2.1.trans k79⟩
                        · obtain ⟨a, c, he, hE, _⟩ := own_ents (own_base H8.out.1).1
                          cases he
                          exact ents_kept hE ((Kp.refl _ _).alloc _)
                        · have h1 := own_addr H8.out.1 b off hb
                          have h2 := H7.out.2.2.2.2.2.1
                          exact ⟨by omega, fun e => by have := H7.out.2.2.2.2.2.2.2 b e; omega⟩
                      go_wp2_with fail
                      refine (zzmerge_any w6.heap.size (.slice a6 t c6) (.slice none 0 0) _ 2 2 (fun _ => (E 0).1) a8 2 c8 (twoF (x, 1) (y, 2)) v c t E _ hn (by omega) (by omega) HM9.out.1 HI.out HM9.out.2.1 HM9.out.2.2.1).mono ?_
                      rintro e w10 ⟨rfl, V, hV⟩
                      have hm2 := merge_two (v := v) (c := c) (n := t) (E := E) (e1 := (x, 1)) (e2 := (y, 2)) (F := twoF (x, 1) (y, 2)) HG.out H3.out.1.2.2.1 (fun i hi => H3.out.1.2.2.2 i hi) H4.out.1.2.2.1 (fun i hi => H4.out.1.2.2.2 i hi) (by show x ≠ y; omega) rfl rfl
                      have hR : repl t E (fun _ => (E 0).1) 2 = [0, 0] := repl_two (by omega)
                      rw [hR] at hV
                      generalize mrun v c (twoF (x, 1) (y, 2)) ⟨t, E, [0, 0], false⟩ 2 = s10 at hV hm2
                      obtain ⟨N10, G10, R10, st10⟩ := s10
                      obtain ⟨hm21, hm22, hm23⟩ := hm2
                      dsimp only at hm21 hm22 hm23 hV
                      subst hm21
                      obtain ⟨a10, c10, rfl, hE10, _⟩ := own_ents hV.2.1
                      have H10 : Hid (Node w10 w6.heap.size (.slice a10 N10 c10) (.slice none 0 0) ∧ Ents w10 a10 N10 G10 ∧ Sl a10 N10 c10 ∧ HeadIs w10 (w4.heap.size + 1) 33 2 (entF (fun _ => (y, 2))) ∧ Kp All w w10 ∧ G10 0 = (y, 2) ∧ firstIdx N10 G10 x = none) := by
                        have hz := H7.out.2.2.2.2.2.2.1
                        refine ⟨hV.1, hE10, fun h => ?_, HM9.out.2.2.2.1.kp hV.2.2.2 ⟨by omega, fun e => by have := (own_base H7.out.2.1).2 _ e; omega⟩, HM9.out.2.2.2.2.then_ hV.2.2.2 (fun q hq _ => ⟨?_, fun e => ?_⟩), hm22, firstIdx_none (fun i hi => hm23 i hi)⟩
                        · subst h
                          obtain ⟨_, ⟨h, hn⟩ | ⟨g, cap, cur, h, _⟩⟩ := hV.2.1
                          · injection h with h1 h2 h3; exact ⟨h2, h3⟩
                          · cases h
                        · have := H4.out.2.size; omega
                        · have := (own_base H7.out.2.1).2 q e; have := H4.out.2.size; omega
                      clear hV hE10 hm22 hm23 hR HM9 HI H8
                      go_wp2_with fail
                      refine (node_view _ _ _ _ H10.out.1).mono ?_
                      rintro e w11 ⟨rfl, hw⟩
                      rw [hw]
                      clear hw w11
                      go_wp2_with fail
                      refine (from_any a10 N10 c10 G10 _ (by omega) H10.out.2.2.1 H10.out.2.1).mono ?_
                      rintro e w11 ⟨a11, rfl, hE11, _, _, k11⟩
                      obtain ⟨b4, o4, rfl, hb4, hc4⟩ := ents_cells hE11 (by omega)
                      have z1 : w11.cell? ⟨b4, o4, none⟩ = some (.int .i64 y) := by have := (hc4 0 (by omega)).1; rw [H10.out.2.2.2.2.2.1] at this; simpa using this
                      have z2 : w11.cell? ⟨b4, o4 + 1, none⟩ = some (.int .i64 2) := by have := (hc4 0 (by omega)).2; rw [H10.out.2.2.2.2.2.1] at this; simpa using this
                      have y1 : w11.cell? ⟨w4.heap.size + 1, 0, none⟩ = some (.int .i64 y) := (H10.out.2.2.2.1.kp k11 trivial).cell (by omega)
                      have y2 : w11.cell? ⟨w4.heap.size + 1, 1, none⟩ = some (.int .i64 2) := (H10.out.2.2.2.1.kp k11 trivial).cell (by omega)
                      have ly : w4.heap.size + 1 < w11.heap.size := (H10.out.2.2.2.1.kp k11 trivial).lt
                      have hz := zholds_any w6.heap.size a10 N10 c10 (.slice none 0 0) G10 x w11.drew (by omega) (H10.out.1.kp k11.drew trivial) (ents_kept H10.out.2.1 k11.drew)
                      rw [H10.out.2.2.2.2.2.2] at hz
                      have HZ := hid hz
                      have H11 := hid (H10.out.2.2.2.2.1.trans k11)
                      have q33 := eq33
                      have hyy : (y == y) = true := by simp
                      have hN0 : 0 < N10 := by omega
                      have hN1 : (0 : Int) < (N10 : Int) := by omega
                      clear hE11 k11 hc4 hz H10
                      go_wp2_with fail
                      go_region_held3 (fun W => W.cell? ⟨b4, o4, none⟩ = some (.int .i64 y) ∧ W.cell? ⟨b4, o4 + 1, none⟩ = some (.int .i64 2) ∧ W.cell? ⟨w4.heap.size + 1, 0, none⟩ = some (.int .i64 y) ∧ W.cell? ⟨w4.heap.size + 1, 1, none⟩ = some (.int .i64 2)) (first | exact ⟨z1, z2, y1, y2⟩ | assumption | go_keep) (first | (go_at_call 24; refine HZ.out.mono ?_; rintro e w12 ⟨rfl, k12⟩; have K12 := hid (Kp.trans H11.out.drew k12); have hS : w12.cell? ⟨b4, o4, none⟩ = some (.int .i64 y) ∧ w12.cell? ⟨b4, o4 + 1, none⟩ = some (.int .i64 2) ∧ w12.cell? ⟨w4.heap.size + 1, 0, none⟩ = some (.int .i64 y) ∧ w12.cell? ⟨w4.heap.size + 1, 1, none⟩ = some (.int .i64 2) := ⟨(k12.cell (a := ⟨b4, o4, none⟩) hb4 trivial).trans z1, (k12.cell (a := ⟨b4, o4 + 1, none⟩) hb4 trivial).trans z2, (k12.cell (a := ⟨w4.heap.size + 1, 0, none⟩) ly trivial).trans y1, (k12.cell (a := ⟨w4.heap.size + 1, 1, none⟩) ly trivial).trans y2⟩; clear k12) | fail)
                      all_goals
                        go_wp2_with fail
                        go_ret
                        exact ⟨rfl, K12.out.below (Nat.le_refl _) (fun _ _ => trivial)⟩
                    · by_cases h1 : (1 : Int) ≤ c
                      · have h2 : ((t : Int) == c) = false := by
                          have : (t : Int) ≠ c := fun e => hg ⟨h1, e⟩
                          simpa using this
                        clear hg
                        go_wp2_with fail
                        go_ret
                        exact ⟨rfl, HC.out.below (Nat.le_refl _) (fun _ _ => trivial)⟩
                      · clear hg
                        go_wp2_with fail
                        go_ret
                        exact ⟨rfl, HC.out.below (Nat.le_refl _) (fun _ _ => trivial)⟩
end Go.Proofs.Qxb6003312a
