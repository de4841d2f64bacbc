/-
  The walk of PropDrawTakesDistinctLeavesEntries.
-/
import Derived.Test.Qxb6003312aSub
import Derived.Outline
namespace Go.Proofs.Qxb6003312a
open Go.RowKit Go.Deep

theorem build33 (a b : Int) (w : World) : (Instr.build 33 #[(0, .int .i64 a), (1, .int .i64 b)]).run Try.prog w = .ok (.agg #[.int .i64 a, .int .i64 b]) w := run_build w 33 _ _ (by kernel_rfl)

set_option maxHeartbeats 400000 in
theorem set_any (g len cap n i : Nat) (x y : Int) (E : Nat → Int × Int) (w : World) (hi : i < len) (_ : len ≤ 4096) (hn : i < n) (h : HeadIs w g 55 (n * 2) (entF E)) :
    Calls Try.prog 12 #[.slice (some ⟨g, 0, none⟩) len cap, .int .i64 (i : Int), .agg #[.int .i64 x, .int .i64 y]] w fun e w' => e = .returned (.tuple #[]) ∧ (∃ F, HeadIs w' g 55 (n * 2) (entF F)) ∧ Kp (· ≠ g) w w' := by
  have HH : Hid (HeadIs w g 55 (n * 2) (entF E)) := h
  have c1 := (h.ent hn).1
  have c2 := (h.ent hn).2
  have f1 := h.frozen (i * 2)
  have f2 := h.frozen (i * 2 + 1)
  have hl := h.lt
  clear h
  go_enter Try.func12, Try.ntmps12
  go_wp2
  go_end0
  exact ⟨rfl, ⟨_, (HH.out.putEnt i x y).alloc _⟩, (((Kp.refl _ _).setCell (fun _ h => h rfl) _).setCell (fun _ h => h rfl) _).alloc _⟩

/-- What stays of the two lists while the law runs. -/
def St (w0 : World) (A B n : Nat) (E : Nat → Int × Int) (W : World) : Prop := HeadIs W A 55 (n * 2) (entF E) ∧ HeadIs W B 33 (n * 2) (entF E) ∧ Kp All w0 W ∧ A < B

theorem St.kp {w0 W W' : World} {A B n : Nat} {E : Nat → Int × Int} {p : Nat → Prop} (h : St w0 A B n E W) (k : Kp p W W') (pA : p A) (pB : p B) (p0 : ∀ i, i < w0.heap.size → p i) : St w0 A B n E W' :=
  ⟨h.1.kp k pA, h.2.1.kp k pB, h.2.2.1.then_ k (fun i hi _ => p0 i hi), h.2.2.2⟩
theorem St.all {w0 W W' : World} {A B n : Nat} {E : Nat → Int × Int} (h : St w0 A B n E W) (k : Kp All W W') : St w0 A B n E W' := h.kp k trivial trivial (fun _ _ => trivial)

theorem words_kp {w w' : World} {a : Option Addr} {n cap : Nat} {s : Nat → Int} (h : Words w a n cap s) (k : Kp All w w') : Words w' a n cap s := by
  obtain ⟨h1, h2, h3⟩ := h
  refine ⟨h1, h2, ?_⟩
  rcases h3 with h | ⟨b, off, rfl, hb, hc⟩
  · exact .inl h
  · exact .inr ⟨b, off, rfl, Nat.lt_of_lt_of_le hb k.size, fun i hi => (k.cell (by exact hb) trivial).trans (hc i hi)⟩

/-- The two lists, and the list that was drawn. -/
def St2 (w0 : World) (A B n : Nat) (E : Nat → Int × Int) (g M : Nat) (W : World) : Prop := St w0 A B n E W ∧ (∃ F, HeadIs W g 55 (M * 2) (entF F)) ∧ B < g

theorem St2.all {w0 W W' : World} {A B n g M : Nat} {E : Nat → Int × Int} (h : St2 w0 A B n E g M W) (k : Kp All W W') : St2 w0 A B n E g M W' :=
  ⟨h.1.all k, by obtain ⟨F, hF⟩ := h.2.1; exact ⟨F, hF.kp k trivial⟩, h.2.2⟩
theorem St2.set {w0 W W' : World} {A B n g M : Nat} {E : Nat → Int × Int} (h : St2 w0 A B n E g M W) (k : Kp (· ≠ g) W W') (hF : ∃ F, HeadIs W' g 55 (M * 2) (entF F)) (h0 : w0.heap.size ≤ A) : St2 w0 A B n E g M W' := by
  have h1 := h.2.2
  have h2 := h.1.2.2.2
  exact ⟨h.1.kp k (by show _ ≠ _; omega) (by show _ ≠ _; omega) (fun i hi => by show _ ≠ _; omega), hF, h1⟩

theorem kp_drewN {w : World} {k : Nat} : Kp All w (w.drewN k) := (Kp.refl _ _).drewN _

set_option maxHeartbeats 4000000 in
theorem law3_some (x : Addr) (n cap k : Nat) (a2 : Option Addr) (ns cs : Nat) (E : Nat → Int × Int) (s : Nat → Int) (w : World) (hn : n ≤ 4096) (hk : k ≤ 9223372036854775807) (hns : ns ≤ 65536) (h : Ents w (some x) n E) (hs : Words w a2 ns cs s) :
    Calls Try.prog 3 #[.slice (some x) n cap, .int .i64 (k : Int), .slice a2 ns cs] w fun e w' => e = .returned (.bool true) ∧ Below w.heap.size w w' := by
  have HE : Hid (Ents w (some x) n E ∧ Words w a2 ns cs s) := ⟨h, hs⟩
  clear h hs
  have hb33 := build33
  have g1 : decide ((k : Int) < 0) = false := decide_eq_false (by omega)
  have g2 : decide (4096 < (n : Int)) = false := decide_eq_false (by omega)
  have g3 : decide (65536 < (ns : Int)) = false := decide_eq_false (by omega)
  rcases Nat.lt_or_ge k n with hkn | hkn
  all_goals
    go_enter Try.func3, Try.ntmps3
    go_wp2_with fail
    refine (to_some x n cap E _ hn HE.out.1).mono ?_
    rintro e w1 ⟨rfl, hA, k1⟩
    have H1 : Hid (HeadIs w1 w.heap.size 55 (n * 2) (entF E) ∧ Kp All w w1) := ⟨hA, k1⟩
    clear hA k1
    go_wp2_with fail
    refine (from_some _ n n E _ hn (Ents.of_head H1.out.1)).mono ?_
    rintro e w2 ⟨rfl, hB, k2⟩
    have H2 : Hid (St w w.heap.size w1.heap.size n E w2) := ⟨H1.out.1.kp k2 trivial, hB, H1.out.2.trans k2, H1.out.1.lt⟩
    clear hB k2
    go_wp2_with fail
    refine (rand_any a2 ns cs s _ hns (words_kp HE.out.2 H2.out.2.2.1)).mono ?_
    rintro e w3 ⟨br, bs, lf, rfl, hr3, k3, l1, l2⟩
    have H3 : Hid (St w w.heap.size w1.heap.size n E w3 ∧ Rng w3 br bs lf ∧ w1.heap.size < bs) := ⟨H2.out.all k3, hr3, Nat.lt_of_lt_of_le H2.out.2.1.lt l2⟩
    clear hr3 k3 l1 l2
    go_wp2_with fail
    refine (zdraw_some br bs lf _ n n k E _ hn hk H3.out.2.1 (Ents.of_head H3.out.1.1)).mono ?_
    rintro e w4 ⟨g, c, π, l4, rfl, hg, hi, hO, hr4, k4⟩
    generalize hM : min k n = M
    have hM1 : M ≤ n := by omega
    first | (have hMt : ((M : Int) != (k : Int)) = false := by (rw [bne_eq_false_iff_eq]; omega)) | (have hMt : ((M : Int) != (n : Int)) = false := by (rw [bne_eq_false_iff_eq]; omega))
    have H4 : Hid (St2 w w.heap.size w1.heap.size n E g M w4 ∧ Inj n π ∧ HeadIs w4 g 55 (M * 2) (entF (fun j => E (π j)))) := by
      have h3 := H3.out
      have hlt := h3.1.2.2.2
      have hlt2 := h3.1.2.1.lt
      exact ⟨⟨h3.1.kp k4 (by show _ ≠ _; omega) (by show _ ≠ _; omega) (fun i hi => by show _ ≠ _; omega), ⟨_, hO.head.less (by omega)⟩, by omega⟩, hi, hO.head.less (by omega)⟩
    clear hg hi hO hr4 k4 hM
    go_wp2_with fail
    refine (from_some _ n n E _ hn (Ents.of_head H4.out.1.1.1)).mono ?_
    rintro e w5 ⟨rfl, hh5, k5⟩
    have H5 : Hid (St2 w w.heap.size w1.heap.size n E g M w5 ∧ HeadIs w5 w4.heap.size 33 (n * 2) (entF E) ∧ HeadIs w5 g 55 (M * 2) (entF (fun j => E (π j)))) := ⟨H4.out.1.all k5, hh5, H4.out.2.2.kp k5 trivial⟩
    clear hh5 k5
    go_wp2_with fail
    refine (equal_any _ n n _ n E E _ hn (Ents.of_head H5.out.2.1) (Ents.of_head H5.out.1.1.2.1)).mono ?_
    rintro e w6 ⟨b, rfl, hb, q, hw6⟩
    obtain rfl : b = true := hb.2 (fun _ _ => rfl)
    subst hw6
    have H6 : Hid (St2 w w.heap.size w1.heap.size n E g M (w5.drewN q) ∧ HeadIs (w5.drewN q) g 55 (M * 2) (entF (fun j => E (π j)))) := ⟨H5.out.1.all kp_drewN, H5.out.2.2⟩
    clear hb
    go_wp2_with fail
    refine (from_some _ M c (fun j => E (π j)) _ (by omega) (Ents.of_head H6.out.2)).mono ?_
    rintro e w7 ⟨rfl, hh7, k7⟩
    have H7 : Hid (St2 w w.heap.size w1.heap.size n E g M w7 ∧ HeadIs w7 (w5.drewN q).heap.size 33 (M * 2) (entF (fun j => E (π j)))) := ⟨H6.out.1.all k7, hh7⟩
    clear hh7 k7
    go_wp2_with fail
    refine (sub_any _ M M _ n n (fun j => E (π j)) E _ (by omega) hn (Ents.of_head H7.out.2) (Ents.of_head H7.out.1.1.2.1) (fun y => cntE_pick E π n M H4.out.2.1 hM1 y)).mono ?_
    rintro e w8 ⟨rfl, k8⟩
    have H8 : Hid (St2 w w.heap.size w1.heap.size n E g M w8) := H7.out.1.all k8
    clear k8
    go_wp2_with fail
    go_loopw [12] (fun i wr => ∃ t : Nat, t ≤ M ∧ i = .int .i64 t ∧ Hid (St2 w w.heap.size w1.heap.size n E g M wr)) (fun i _ => M - (intOf i).toNat)
    case atStart => exact ⟨0, Nat.zero_le _, rfl, H8⟩
    case round =>
      obtain ⟨t, ht, rfl, HT⟩ := hrel
      by_cases htl : t < M
      · go_wp2_with fail
        obtain ⟨F, hF⟩ := HT.out.2.1
        refine (set_any g M c M t _ _ F _ htl (by omega) htl hF).mono ?_
        rintro e w9 ⟨rfl, hF9, k9⟩
        have H9 : Hid (St2 w w.heap.size w1.heap.size n E g M w9) := HT.out.set k9 hF9 (Nat.le_refl _)
        clear hF9 k9 hF
        go_wp2_with fail
        go_roundw
        case rel => exact ⟨t + 1, by omega, by go_num, H9⟩
        case measure => simp [intOf]; omega
      · go_wp2_with fail
        refine (from_some _ n n E _ hn (Ents.of_head HT.out.1.1)).mono ?_
        rintro e w10 ⟨rfl, hh10, k10⟩
        have H10 : Hid (St2 w w.heap.size w1.heap.size n E g M w10 ∧ HeadIs w10 wr.heap.size 33 (n * 2) (entF E)) := ⟨HT.out.all k10, hh10⟩
        clear hh10 k10
        go_wp2_with fail
        refine (equal_any _ n n _ n E E _ hn (Ents.of_head H10.out.2) (Ents.of_head H10.out.1.1.2.1)).mono ?_
        rintro e w11 ⟨b, rfl, hb, q2, hw11⟩
        obtain rfl : b = true := hb.2 (fun _ _ => rfl)
        subst hw11
        have H11 : Hid (St2 w w.heap.size w1.heap.size n E g M (w10.drewN q2)) := H10.out.1.all kp_drewN
        clear hb
        go_wp2_with fail
        go_loopw [13] (fun i wr => ∃ t : Nat, t ≤ M ∧ i = .int .i64 t ∧ Hid (St2 w w.heap.size w1.heap.size n E g M wr)) (fun i _ => M - (intOf i).toNat)
        case atStart => exact ⟨0, Nat.zero_le _, rfl, H11⟩
        case round =>
          obtain ⟨t, ht, rfl, HT⟩ := hrel
          by_cases htl : t < M
          · go_wp2_with fail
            obtain ⟨F, hF⟩ := HT.out.2.1
            refine (set_any g M c M t _ _ F _ htl (by omega) htl hF).mono ?_
            rintro e w9 ⟨rfl, hF9, k9⟩
            have H9 : Hid (St2 w w.heap.size w1.heap.size n E g M w9) := HT.out.set k9 hF9 (Nat.le_refl _)
            clear hF9 k9 hF
            go_wp2_with fail
            go_roundw
            case rel => exact ⟨t + 1, by omega, by go_num, H9⟩
            case measure => simp [intOf]; omega
          · go_wp2_with fail
            refine (from_some _ n n E _ hn (Ents.of_head HT.out.1.1)).mono ?_
            rintro e w12 ⟨rfl, hh12, k12⟩
            have H12 : Hid (St2 w w.heap.size w1.heap.size n E g M w12 ∧ HeadIs w12 wr.heap.size 33 (n * 2) (entF E)) := ⟨HT.out.all k12, hh12⟩
            clear hh12 k12
            go_wp2_with fail
            refine (equal_any _ n n _ n E E _ hn (Ents.of_head H12.out.2) (Ents.of_head H12.out.1.1.2.1)).mono ?_
            rintro e w13 ⟨b, rfl, hb, q3, hw13⟩
            obtain rfl : b = true := hb.2 (fun _ _ => rfl)
            subst hw13
            clear hb
            go_wp2_with fail
            go_ret
            exact ⟨rfl, (H12.out.1.all (kp_drewN (k := q3))).1.2.2.1.below (Nat.le_refl _) (fun _ _ => trivial)⟩

theorem ents_nil (w : World) (E : Nat → Int × Int) : Ents w none 0 E := .inl rfl

set_option maxHeartbeats 4000000 in
theorem law3_nil (k : Nat) (a2 : Option Addr) (ns cs : Nat) (s : Nat → Int) (w : World) (hns : ns ≤ 65536) (hs : Words w a2 ns cs s) :
    Calls Try.prog 3 #[.slice none 0 0, .int .i64 (k : Int), .slice a2 ns cs] w fun e w' => e = .returned (.bool true) ∧ Below w.heap.size w w' := by
  have HE : Hid (Words w a2 ns cs s) := hs
  clear hs
  have g1 : decide ((k : Int) < 0) = false := decide_eq_false (by omega)
  have g3 : decide (65536 < (ns : Int)) = false := decide_eq_false (by omega)
  go_enter Try.func3, Try.ntmps3
  go_wp2_with fail
  refine (to_nil _).mono ?_
  rintro e w1 ⟨rfl, hw⟩
  rw [hw]
  clear hw w1
  go_wp2_with fail
  refine (from_nil _).mono ?_
  rintro e w1 ⟨rfl, hw⟩
  rw [hw]
  clear hw w1
  go_wp2_with fail
  refine (rand_any a2 ns cs s _ hns HE.out).mono ?_
  rintro e w3 ⟨br, bs, lf, rfl, hr3, k3, l1, l2⟩
  have H3 : Hid (Kp All w w3) := k3
  clear hr3 k3 l1 l2
  go_wp2_with fail
  refine (zdraw_nil _ k _).mono ?_
  rintro e w1 ⟨rfl, hw⟩
  rw [hw]
  clear hw w1
  go_wp2_with fail
  refine (from_nil _).mono ?_
  rintro e w1 ⟨rfl, hw⟩
  rw [hw]
  clear hw w1
  go_wp2_with fail
  refine (equal_any none 0 0 none 0 (fun _ => (0, 0)) (fun _ => (0, 0)) _ (by omega) (ents_nil _ _) (ents_nil _ _)).mono ?_
  rintro e w6 ⟨b, rfl, hb, q, hw6⟩
  obtain rfl : b = true := hb.2 (fun _ _ => rfl)
  subst hw6
  clear hb
  go_wp2_with fail
  refine (from_nil _).mono ?_
  rintro e w1 ⟨rfl, hw⟩
  rw [hw]
  clear hw w1
  go_wp2_with fail
  refine (sub_any none 0 0 none 0 0 (fun _ => (0, 0)) (fun _ => (0, 0)) _ (by omega) (by omega) (ents_nil _ _) (ents_nil _ _) (fun _ => Nat.le_refl _)).mono ?_
  rintro e w8 ⟨rfl, k8⟩
  have H8 : Hid (Kp All w w8) := (H3.out.drewN q).trans k8
  clear k8
  go_wp2_with fail
  refine wp_loop_rounds 1 ?_
  rw [rounds_succ]
  go_wp2_with fail
  refine (from_nil _).mono ?_
  rintro e w1 ⟨rfl, hw⟩
  rw [hw]
  clear hw w1
  go_wp2_with fail
  refine (equal_any none 0 0 none 0 (fun _ => (0, 0)) (fun _ => (0, 0)) _ (by omega) (ents_nil _ _) (ents_nil _ _)).mono ?_
  rintro e w6 ⟨b, rfl, hb, q2, hw6⟩
  obtain rfl : b = true := hb.2 (fun _ _ => rfl)
  subst hw6
  clear hb
  go_wp2_with fail
  refine wp_loop_rounds 1 ?_
  rw [rounds_succ]
  go_wp2_with fail
  refine (from_nil _).mono ?_
  rintro e w1 ⟨rfl, hw⟩
  rw [hw]
  clear hw w1
  go_wp2_with fail
  refine (equal_any none 0 0 none 0 (fun _ => (0, 0)) (fun _ => (0, 0)) _ (by omega) (ents_nil _ _) (ents_nil _ _)).mono ?_
  rintro e w6 ⟨b, rfl, hb, q3, hw6⟩
  obtain rfl : b = true := hb.2 (fun _ _ => rfl)
  subst hw6
  clear hb
  go_wp2_with fail
  go_ret
  exact ⟨rfl, (H8.out.drewN (q2 + q3)).below (Nat.le_refl _) (fun _ _ => trivial)⟩

/-- The law's own guards. -/
theorem law3_out (a1 : Option Addr) (n cap : Nat) (k : Int) (a2 : Option Addr) (ns cs : Nat) (w : World) (h : k < 0 ∨ 4096 < n ∨ 65536 < ns) (hn : n ≤ maxLen) (hs : ns ≤ maxLen) :
    Calls Try.prog 3 #[.slice a1 n cap, .int .i64 k, .slice a2 ns cs] w fun e w' => e = .returned (.bool true) ∧ Below w.heap.size w w' := by
  unfold maxLen at hn hs
  by_cases h1 : k < 0
  · clear h
    go_enter Try.func3, Try.ntmps3
    go_wp2
    go_ret
    exact ⟨rfl, Below.refl _ _⟩
  · by_cases h2 : 4096 < n
    · clear h
      go_enter Try.func3, Try.ntmps3
      go_wp2
      go_ret
      exact ⟨rfl, Below.refl _ _⟩
    · have h3 : 65536 < ns := by omega
      clear h
      go_enter Try.func3, Try.ntmps3
      go_wp2
      go_ret
      exact ⟨rfl, Below.refl _ _⟩

end Go.Proofs.Qxb6003312a
