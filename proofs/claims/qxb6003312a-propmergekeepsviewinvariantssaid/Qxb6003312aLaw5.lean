/-
  The walk of PropAskAgesRemovesOldestBuildsRequest.
-/
import Derived.Test.Qxb6003312aOwn
import Derived.Outline
namespace Go.Proofs.Qxb6003312a
open Go.RowKit Go.Deep

theorem bld33 (a b : Int) (w : World) : (Instr.build 33 #[(0, .int .i64 a), (1, .int .i64 b)]).run Try.prog w = .ok (.agg #[.int .i64 a, .int .i64 b]) w := run_build w 33 _ _ (by kernel_rfl)

theorem ag_upd (E : Nat → Int × Int) (k : Nat) : (fun j => if j = k then ((E k).1, wrap64 ((E k).2 + 1)) else if j < k then ag E j else (0, 0)) = fun j => if j < k + 1 then ag E j else (0, 0) := by
  funext j
  by_cases h1 : j = k
  · subst h1; rw [if_pos rfl, if_pos (by omega)]; rfl
  · rw [if_neg h1]
    by_cases h2 : j < k
    · rw [if_pos h2, if_pos (by omega)]
    · rw [if_neg h2, if_neg (by omega)]

/-- The greatest of the first age and the first k ages. -/
def mxA (A : Nat → Int × Int) : Nat → Int
  | 0 => (A 0).2
  | k + 1 => if mxA A k < (A k).2 then (A k).2 else mxA A k

theorem mxA_le (A : Nat → Int × Int) (b : Int) (n : Nat) (h : ∀ j, j < n → (A j).2 ≤ b) (h0 : (A 0).2 ≤ b) : ∀ k, k ≤ n → mxA A k ≤ b
  | 0, _ => h0
  | k + 1, hk => by
    have := mxA_le A b n h h0 k (by omega)
    have := h k (by omega)
    simp only [mxA]
    split <;> omega
theorem mxA_ge (A : Nat → Int × Int) : ∀ k j, j < k → (A j).2 ≤ mxA A k
  | k + 1, j, hj => by
    simp only [mxA]
    by_cases e : j = k
    · subst e; split <;> omega
    · have := mxA_ge A k j (by omega)
      split <;> omega
theorem mxA_oldest {A : Nat → Int × Int} {n i : Nat} (h : Oldest n A i) : mxA A n = (A i).2 := by
  have h1 := mxA_ge A n i h.1
  have h2 := mxA_le A (A i).2 n h.2 (h.2 0 (by have := h.1; omega)) n (Nat.le_refl _)
  omega

theorem words_all {w w' : World} {a : Option Addr} {n cap : Nat} {s : Nat → Int} (h : Words w a n cap s) (k : Kp All w w') : Words w' a n cap s := by
  obtain ⟨h1, h2, h3⟩ := h
  refine ⟨h1, h2, ?_⟩
  rcases h3 with h | ⟨b, off, rfl, hb, hc⟩
  · exact .inl h
  · exact .inr ⟨b, off, rfl, Nat.lt_of_lt_of_le hb k.size, fun i hi => (k.cell (by exact hb) trivial).trans (hc i hi)⟩
theorem ents_all {w w' : World} {a : Option Addr} {n : Nat} {E : Nat → Int × Int} (h : Ents w a n E) (k : Kp All w w') : Ents w' a n E := by
  rcases h with h | ⟨b, off, rfl, hb, hc⟩
  · exact .inl h
  · exact .inr ⟨b, off, rfl, Nat.lt_of_lt_of_le hb k.size, fun i hi => ⟨(k.cell (by exact hb) trivial).trans (hc i hi).1, (k.cell (by exact hb) trivial).trans (hc i hi).2⟩⟩

/-- What the law holds in memory once it has asked. -/
def S5 (w : World) (G P R p M : Nat) (AG D Q : Nat → Int × Int) (a : Option Addr) (ids : Nat → Int) (W : World) : Prop :=
  HeadIs W G 33 ((p + 1) * 2) (entF AG) ∧ HeadIs W P 33 (p * 2) (entF D) ∧ HeadIs W R 33 ((M + 1) * 2) (entF Q) ∧ Ids W a M ids ∧ Kp All w W
theorem S5.all {w W W' : World} {G P R p M : Nat} {AG D Q : Nat → Int × Int} {a : Option Addr} {ids : Nat → Int} (h : S5 w G P R p M AG D Q a ids W) (k : Kp All W W') : S5 w G P R p M AG D Q a ids W' :=
  ⟨h.1.kp k trivial, h.2.1.kp k trivial, h.2.2.1.kp k trivial, h.2.2.2.1.kp k, h.2.2.2.2.trans k⟩

/-- Do two lists of n entries agree? -/
def eqB (n : Nat) (E F : Nat → Int × Int) : Bool := (List.range n).all fun i => decide (E i = F i)
theorem eqB_iff (n : Nat) (E F : Nat → Int × Int) : eqB n E F = true ↔ ∀ i, i < n → E i = F i := by
  unfold eqB
  rw [List.all_eq_true]
  constructor
  · intro h i hi
    exact of_decide_eq_true (h i (List.mem_range.2 hi))
  · intro h i hi
    exact decide_eq_true (h i (List.mem_range.1 hi))
theorem equal_B (a1 : Option Addr) (n c1 : Nat) (a2 : Option Addr) (c2 : Nat) (E F : Nat → Int × Int) (w : World) (hn : n ≤ 4096) (h1 : Ents w a1 n E) (h2 : Ents w a2 n F) :
    Calls Try.prog 10 #[.slice a1 n c1, .slice a2 n c2] w fun e w' => e = .returned (.bool (eqB n E F)) ∧ ∃ m, w' = w.drewN m := by
  refine (equal_any a1 n c1 a2 c2 E F w hn h1 h2).mono ?_
  rintro e w' ⟨b, rfl, hb, hk⟩
  have : b = eqB n E F := by
    rw [Bool.eq_iff_iff, hb, eqB_iff]
  rw [this]
  exact ⟨rfl, hk⟩

/-- The rest of a row of entries, from entry t on. -/
theorem ents_rest {w : World} {b : Nat} {ty : TypeId} {n t m : Nat} {E : Nat → Int × Int} (h : HeadIs w b ty (n * 2) (entF E)) (hm : t + m ≤ n) : Ents w (some ⟨b, t * 2, none⟩) m (fun j => E (t + j)) :=
  .inr ⟨b, t * 2, rfl, h.lt, fun j hj => by
    have := h.ent (show t + j < n by omega)
    rw [show t * 2 + j * 2 = (t + j) * 2 by omega]
    exact this⟩

theorem kp_dN {w : World} {k : Nat} : Kp All w (w.drewN k) := (Kp.refl _ _).drewN _

theorem at_oldest (A : Nat → Int × Int) (p i t : Nat) (e : t = i) : ((A t).2 == (A i).2) = true ∧ ((A t).1 == (A i).1) = true ∧ eqB t (delF A i) A = true ∧ eqB (p - t) (fun j => delF A i (t + j)) (fun j => A (t + 1 + j)) = true := by
  subst e
  refine ⟨by simp, by simp, (eqB_iff _ _ _).2 fun j hj => ?_, (eqB_iff _ _ _).2 fun j hj => ?_⟩
  · unfold delF; rw [if_pos hj]
  · unfold delF; rw [if_neg (by omega), show t + j + 1 = t + 1 + j by omega]

theorem reqF_last (D : Nat → Int × Int) (M : Nat) (v : Int) : reqF D M v M = (v, 0) := by unfold reqF; rw [if_neg (Nat.lt_irrefl M)]

set_option maxRecDepth 100000 in
set_option maxHeartbeats 8000000 in
theorem law5_in (x : Addr) (p cap l : Nat) (v : Int) (a2 : Option Addr) (ns cs : Nat) (E : Nat → Int × Int) (s : Nat → Int) (w : World) (hp : p + 1 ≤ 4096) (hl : l + 1 ≤ 9223372036854775807) (hns : ns ≤ 65536) (h : Ents w (some x) (p + 1) E) (hs : Words w a2 ns cs s) :
    Calls Try.prog 5 #[.int .i64 v, .int .i64 ((l : Int) + 1), .slice (some x) (p + 1) cap, .slice a2 ns cs] w fun e w' => e = .returned (.bool true) ∧ Below w.heap.size w w' := by
  have HE := hid (⟨h, hs⟩ : Ents w (some x) (p + 1) E ∧ Words w a2 ns cs s)
  clear h hs
  have hmk := run_make_pairs 22 33 Try.underlying22 info33 (p + 1) (by omega)
  have ec : ((p + 1 : Nat) : Int) = (p : Int) + 1 := by omega
  rw [ec] at hmk
  clear ec
  have hb33 := bld33
  have g1 : decide (4096 < (p : Int) + 1) = false := decide_eq_false (by omega)
  have g2 : decide (65536 < (ns : Int)) = false := decide_eq_false (by omega)
  have g3 : decide ((p : Int) + 1 < 1) = false := decide_eq_false (by omega)
  have g4 : decide ((l : Int) + 1 < 1) = false := decide_eq_false (by omega)
  go_enter Try.func5, Try.ntmps5
  go_wp2_with fail
  go_loopw [48] (fun i wr => ∃ k : Nat, k ≤ p + 1 ∧ i = .int .i64 k ∧ Hid (HeadIs wr w.heap.size 33 ((p + 1) * 2) (entF (fun j => if j < k then ag E j else (0, 0))) ∧ Kp All w wr)) (fun i _ => p + 1 - (intOf i).toNat)
  case atStart => exact ⟨0, Nat.zero_le _, rfl, made_pairs (ag E) w (p + 1) 33, (Kp.refl _ _).alloc _⟩
  case round =>
    obtain ⟨k, hk, rfl, HR⟩ := hrel
    clear hmk
    by_cases hlt : k < p + 1
    · rcases HE.out.1 with h0 | ⟨b, off, hx, hb, hc⟩
      · omega
      · obtain rfl : x = ⟨b, off, none⟩ := by injection hx
        clear hx
        obtain ⟨e1, e2⟩ := hc k hlt
        have c1 : wr.cell? ⟨b, off + k * 2, none⟩ = some (.int .i64 (E k).1) := (HR.out.2.cell (by exact hb) trivial).trans e1
        have c2 : wr.cell? ⟨b, off + k * 2 + 1, none⟩ = some (.int .i64 (E k).2) := (HR.out.2.cell (by exact hb) trivial).trans e2
        have hlt2 : w.heap.size < wr.heap.size := HR.out.1.lt
        have d1 := (HR.out.1.ent hlt).1
        have d2 := (HR.out.1.ent hlt).2
        have f1 := HR.out.1.frozen (k * 2)
        have f2 := HR.out.1.frozen (k * 2 + 1)
        clear e1 e2 hc
        go_wp2_with fail
        go_roundw
        case rel => exact ⟨k + 1, by omega, by go_num, ((HR.out.1.putEnt k _ _).congr (fun j _ => by rw [ag_upd])).alloc _, ((HR.out.2.setCell (fun h => absurd h (Nat.lt_irrefl _)) _).setCell (fun h => absurd h (Nat.lt_irrefl _)) _).alloc _⟩
        case measure => simp [intOf]; omega
    · have H1 : Hid (HeadIs wr w.heap.size 33 ((p + 1) * 2) (entF (ag E)) ∧ Kp All w wr) := ⟨HR.out.1.congr (fun i hi => by unfold entF; dsimp only; rw [if_pos (show i / 2 < k by omega)]), HR.out.2⟩
      clear HR
      go_wp2_with fail
      refine (to_own x (p + 1) cap E _ (by omega) (ents_all HE.out.1 H1.out.2)).mono ?_
      rintro e w2 ⟨rfl, hO2, k2⟩
      have H2 := hid (⟨hO2, H1.out.1.kp k2 trivial, H1.out.2.trans k2, H1.out.1.lt⟩ : OwnE w2 55 wr.heap.size (p + 1) (p + 1) E ∧ HeadIs w2 w.heap.size 33 ((p + 1) * 2) (entF (ag E)) ∧ Kp All w w2 ∧ w.heap.size < wr.heap.size)
      clear hO2 k2 H1
      go_wp2_with fail
      refine (node_new _ _ _ _).mono ?_
      rintro e w3 ⟨rfl, hN3, k3, _⟩
      have H3 := hid (⟨H2.out.1.kp k3 trivial, H2.out.2.1.kp k3 trivial, H2.out.2.2.1.trans k3, hN3⟩ : OwnE w3 55 wr.heap.size (p + 1) (p + 1) E ∧ HeadIs w3 w.heap.size 33 ((p + 1) * 2) (entF (ag E)) ∧ Kp All w w3 ∧ Node w3 w2.heap.size (.slice (some ⟨wr.heap.size, 0, none⟩) (p + 1) (p + 1)) (.slice none 0 0))
      clear hN3 k3
      go_wp2_with fail
      refine (rand_any a2 ns cs s _ hns (words_all HE.out.2 H3.out.2.2.1)).mono ?_
      rintro e w4 ⟨br, bs, lf, rfl, hr4, k4, _, lbs⟩
      have lbw : w.heap.size ≤ bs := Nat.le_trans H3.out.2.2.1.size lbs
      have H4 := hid (⟨⟨H3.out.2.2.2.kp k4 trivial, H3.out.1.kp k4 trivial, ⟨lf, hr4⟩, Kp.refl _ _⟩, H3.out.2.1.kp k4 trivial, H3.out.2.2.1.trans k4, Nat.ne_of_lt (Nat.lt_of_lt_of_le H3.out.2.1.lt lbs)⟩ : AskS w2.heap.size br bs wr.heap.size (.slice (some ⟨wr.heap.size, 0, none⟩) (p + 1) (p + 1)) (.slice none 0 0) (p + 1) (p + 1) E w4 w4 ∧ HeadIs w4 w.heap.size 33 ((p + 1) * 2) (entF (ag E)) ∧ Kp All w w4 ∧ w.heap.size ≠ bs)
      clear hr4 k4 H3 lbs
      go_wp2_with fail
      refine (zask_some _ br bs _ p (p + 1) v l E _ hp hl H4.out.1).mono ?_
      rintro e w5 ⟨i, π, S, g, c5, B, rfl, hold, hinj, hO5, hS5, hI5, hg, _⟩
      obtain ⟨sa, sc, rfl, hids⟩ := ids_of hI5
      generalize hMd : min l p = M at hO5 hids hS5 ⊢
      have hMl : M ≤ l := by omega
      have hMp : M ≤ p := by omega
      have hip := hold.1
      have H5 := hid (⟨hold, hinj, hO5.head, hS5.1, hS5.2.1.head, hids⟩ : Oldest (p + 1) (ag E) i ∧ Inj p π ∧ HeadIs w5 g 55 ((M + 1) * 2) (entF (reqF (fun j => delF (ag E) i (π j)) M v)) ∧ Node w5 w2.heap.size (.slice (some ⟨wr.heap.size, 0, none⟩) p (p + 1)) (.slice sa M sc) ∧ HeadIs w5 wr.heap.size 55 (p * 2) (entF (delF (ag E) i)) ∧ Ids w5 sa M (fun j => (delF (ag E) i (π j)).1))
      have H5b := hid (⟨H4.out.2.1.kp hS5.2.2.2 ⟨H4.out.2.2.2, by have := H2.out.2.2.2; have := H2.out.1.lt; omega, by have := H2.out.2.2.2; omega⟩, H4.out.2.2.1.then_ hS5.2.2.2 (fun q hq _ => ⟨by omega, by have := H2.out.2.2.1.size; omega, by have := H2.out.2.2.2; omega⟩)⟩ : HeadIs w5 w.heap.size 33 ((p + 1) * 2) (entF (ag E)) ∧ Kp All w w5)
      clear hold hinj hO5 hS5 hI5 hg hids hMd
      go_wp2_with fail
      refine (node_view _ _ _ _ H5.out.2.2.2.1).mono ?_
      rintro e w1 ⟨rfl, hw⟩
      rw [hw]
      clear hw w1
      go_wp2_with fail
      refine (from_some _ p (p + 1) (delF (ag E) i) _ (by omega) (Ents.of_head H5.out.2.2.2.2.1)).mono ?_
      rintro e w6 ⟨rfl, hP, k6⟩
      have H6 := hid (⟨hP, k6⟩ : HeadIs w6 w5.heap.size 33 (p * 2) (entF (delF (ag E) i)) ∧ Kp All w5 w6)
      clear hP k6
      go_wp2_with fail
      refine (from_some _ (M + 1) c5 (reqF (fun j => delF (ag E) i (π j)) M v) _ (by omega) (Ents.of_head (H5.out.2.2.1.kp H6.out.2 trivial))).mono ?_
      rintro e w7 ⟨rfl, hR, k7⟩
      have H7 : Hid (S5 w w.heap.size w5.heap.size w6.heap.size p M (ag E) (delF (ag E) i) (reqF (fun j => delF (ag E) i (π j)) M v) sa (fun j => (delF (ag E) i (π j)).1) w7) :=
        ⟨(H5b.out.1.kp H6.out.2 trivial).kp k7 trivial, H6.out.1.kp k7 trivial, hR, (H5.out.2.2.2.2.2.kp H6.out.2).kp k7, (H5b.out.2.trans H6.out.2).trans k7⟩
      have H7n := hid ((H5.out.2.2.2.1.kp H6.out.2 trivial).kp k7 trivial)
      clear hR k7
      go_wp2_with fail
      refine (node_sent _ _ _ _ H7n.out).mono ?_
      rintro e w1 ⟨rfl, hw⟩
      rw [hw]
      clear hw w1 H7n H4 H2
      have c0 := (H7.out.1.ent (show 0 < p + 1 by omega)).2
      have hpp : ((p : Int) != (p : Int) + 1 - 1) = false := by rw [bne_eq_false_iff_eq]; omega
      have HO := hid (⟨H5.out.1, H5.out.2.1⟩ : Oldest (p + 1) (ag E) i ∧ Inj p π)
      clear H5 H5b H6
      go_wp2_with fail
      go_loopw [20, 99] (fun mx k' wr => ∃ k : Nat, k ≤ p + 1 ∧ k' = .int .i64 k ∧ mx = .int .i64 (mxA (ag E) k) ∧ Hid (S5 w w.heap.size w5.heap.size w6.heap.size p M (ag E) (delF (ag E) i) (reqF (fun j => delF (ag E) i (π j)) M v) sa (fun j => (delF (ag E) i (π j)).1) wr)) (fun _ k' _ => p + 1 - (intOf k').toNat)
      case atStart => exact ⟨0, Nat.zero_le _, rfl, rfl, H7⟩
      case round =>
        clear c0 H7
        obtain ⟨k2, hk2, rfl, rfl, HS⟩ := hrel
        by_cases hlt2 : k2 < p + 1
        · have c1 := (HS.out.1.ent hlt2).1
          have c2 := (HS.out.1.ent hlt2).2
          go_wp2_with fail
          go_roundw
          case rel => exact ⟨k2 + 1, by omega, by go_num, rfl, HS.out.all ((Kp.refl _ _).alloc _)⟩
          case measure => simp [intOf]; omega
        · have hk2e : k2 = p + 1 := by omega
          have hmx : mxA (ag E) k2 = (ag E i).2 := by rw [hk2e]; exact mxA_oldest HO.out.1
          rw [hmx]
          clear hmx hk2e
          go_wp2_with fail
          go_loopw [23, 110] (fun f k' wr => ∃ t : Nat, t ≤ i ∧ k' = .int .i64 t ∧ f = .bool false ∧ Hid (S5 w w.heap.size w5.heap.size w6.heap.size p M (ag E) (delF (ag E) i) (reqF (fun j => delF (ag E) i (π j)) M v) sa (fun j => (delF (ag E) i (π j)).1) wr)) (fun _ k' _ => p + 1 - (intOf k').toNat)
          case atStart => exact ⟨0, Nat.zero_le _, rfl, rfl, HS⟩
          case round =>
            clear HS
            obtain ⟨t, ht, rfl, rfl, HT⟩ := hrel
            have c1 := (HT.out.1.ent (show t < p + 1 by omega)).1
            have c2 := (HT.out.1.ent (show t < p + 1 by omega)).2
            have htp1 : t ≤ p := by omega
            have htp2 : (t : Int) + 1 ≤ (p : Int) + 1 := by omega
            have hwr : IntKind.i64.wrap ((t : Int) + 1) = (t : Int) + 1 := by rw [IntKind.wrap_i64]; omega
            have hp2 : ((t : Int) + 1).toNat = t + 1 := by omega
            obtain ⟨X1, hX1, hE1⟩ : ∃ X1 : Addr, (if p = t then some (⟨w5.heap.size, 0, none⟩ : Addr) else some ⟨w5.heap.size, t * 2, none⟩) = some X1 ∧ Hid (∀ z : Nat, Ents (wr.drewN z) (some X1) (p - t) (fun j => delF (ag E) i (t + j))) := by
              by_cases hpt : p = t
              · exact ⟨⟨w5.heap.size, 0, none⟩, by simp [hpt], fun z => .inl (by omega)⟩
              · exact ⟨⟨w5.heap.size, t * 2, none⟩, by simp [hpt], fun z => ents_rest (HT.out.2.1.drewN z) (by omega)⟩
            obtain ⟨X2, hX2, hE2⟩ : ∃ X2 : Addr, (if p = t then some (⟨w.heap.size, 0, none⟩ : Addr) else some ⟨w.heap.size, (t + 1) * 2, none⟩) = some X2 ∧ Hid (∀ z : Nat, Ents (wr.drewN z) (some X2) (p - t) (fun j => ag E (t + 1 + j))) := by
              by_cases hpt : p = t
              · exact ⟨⟨w.heap.size, 0, none⟩, by simp [hpt], fun z => .inl (by omega)⟩
              · exact ⟨⟨w.heap.size, (t + 1) * 2, none⟩, by simp [hpt], fun z => ents_rest (HT.out.1.drewN z) (by omega)⟩
            have E1 := hid (fun z : Nat => (equal_B (some ⟨w5.heap.size, 0, none⟩) t p (some ⟨w.heap.size, 0, none⟩) (p + 1) (delF (ag E) i) (ag E) (wr.drewN z) (by omega) (Ents.of_head ((HT.out.2.1.less (show t * 2 ≤ p * 2 by omega)).drewN z)) (Ents.of_head ((HT.out.1.less (show t * 2 ≤ (p + 1) * 2 by omega)).drewN z))))
            have E2 := hid (fun z : Nat => (equal_B (some X1) (p - t) (p - t) (some X2) (p - t) (fun j => delF (ag E) i (t + j)) (fun j => ag E (t + 1 + j)) (wr.drewN z) (by omega) (hE1.out z) (hE2.out z)))
            have hat := at_oldest (ag E) p i t
            generalize hq3 : eqB t (delF (ag E) i) (ag E) = q3 at E1 hat
            generalize hq4 : eqB (p - t) (fun j => delF (ag E) i (t + j)) (fun j => ag E (t + 1 + j)) = q4 at E2 hat
            have HA := hid hat
            clear hat hE1 hE2 hq3 hq4
            by_cases q1 : ((ag E t).2 == (ag E i).2) = true
            · by_cases q2 : ((ag E t).1 == (ag E i).1) = true
              · cases q3 with
                | true =>
                  cases q4 with
                  | true =>
                    clear HA
                    go_wp2_with fail
                    go_quiet (first | (go_at_call_of 10 (Value.slice (some { block := w5.heap.size, off := 0 }) t p); exact Calls.quiet_of (E1.out _)) | (go_at_call 10; exact Calls.quiet_of (E2.out _)))
                    have H9 := hid (HT.out.all (kp_dN (k := nq)))
                    clear HT E1 E2 c1 c2 hX1 hX2
                    have r1 := (H9.out.2.2.1.ent (show M < M + 1 by omega)).1
                    have r2 := (H9.out.2.2.1.ent (show M < M + 1 by omega)).2
                    rw [reqF_last] at r1 r2
                    have hcnt : Hid (∀ y, cntE (reqF (fun j => delF (ag E) i (π j)) M v) y M ≤ cntE (delF (ag E) i) y p) := fun y => by
                      rw [cntE_congr (F := fun j => delF (ag E) i (π j)) (fun j hj => by unfold reqF; rw [if_pos hj]) y]
                      exact cntE_pick (delF (ag E) i) π p M HO.out.2 hMp y
                    go_wp2_with fail
                    refine (sub_any _ M (M + 1) _ p p (reqF (fun j => delF (ag E) i (π j)) M v) (delF (ag E) i) _ (by omega) (by omega) (Ents.of_head (H9.out.2.2.1.less (by omega))) (Ents.of_head H9.out.2.1) hcnt.out).mono ?_
                    rintro e w10 ⟨rfl, k10⟩
                    have H10 := hid (H9.out.all k10)
                    clear k10 r1 r2 hcnt H9
                    have hMM : ((M : Int) != (M : Int)) = false := bne_self_eq_false _
                    go_wp2_with fail
                    go_loopw [185] (fun k' wr => ∃ z : Nat, z ≤ M ∧ k' = .int .i64 z ∧ Hid (S5 w w.heap.size w5.heap.size w6.heap.size p M (ag E) (delF (ag E) i) (reqF (fun j => delF (ag E) i (π j)) M v) sa (fun j => (delF (ag E) i (π j)).1) wr)) (fun k' _ => M - (intOf k').toNat)
                    case atStart => exact ⟨0, Nat.zero_le _, rfl, H10⟩
                    case round =>
                      clear H10
                      obtain ⟨z, hz, rfl, HZ⟩ := hrel
                      by_cases hzl : z < M
                      · rcases HZ.out.2.2.2.1 with h0 | ⟨sb, so, hsa, hsb, hsc⟩
                        · omega
                        · subst hsa
                          have s1 := hsc z hzl
                          have s2 := (HZ.out.2.2.1.ent (show z < M + 1 by omega)).1
                          have s3 := (HZ.out.2.2.1.ent (show z < M + 1 by omega)).2
                          rw [show reqF (fun j => delF (ag E) i (π j)) M v z = delF (ag E) i (π z) from by unfold reqF; rw [if_pos hzl]] at s2 s3
                          have hne : ((delF (ag E) i (π z)).1 != (delF (ag E) i (π z)).1) = false := bne_self_eq_false _
                          have hsb2 : sb < wr.heap.size := hsb
                          clear hsc
                          go_wp2_with fail
                          go_quiet (fail)
                          go_wp2_with fail
                          go_roundw
                          case rel => exact ⟨z + 1, by omega, by go_num, (HZ.out.all ((Kp.refl _ _).alloc _)).all kp_dN⟩
                          case measure => simp [intOf]; omega
                      · go_wp2_with fail
                        go_ret
                        exact ⟨rfl, HZ.out.2.2.2.2.below (Nat.le_refl _) (fun _ _ => trivial)⟩
                  | false =>
                    have hti : t ≠ i := fun e => by have := (HA.out e).2.2.2; cases this
                    have hlt3 : t < i := by omega
                    obtain rfl : X1 = ⟨w5.heap.size, t * 2, none⟩ := by rw [if_neg (show ¬ p = t by omega)] at hX1; injection hX1 with h; exact h.symm
                    obtain rfl : X2 = ⟨w.heap.size, (t + 1) * 2, none⟩ := by rw [if_neg (show ¬ p = t by omega)] at hX2; injection hX2 with h; exact h.symm
                    clear HA hti hX1 hX2
                    go_wp2_with fail
                    go_quiet (first | (go_at_call_of 10 (Value.slice (some { block := w5.heap.size, off := 0 }) t p); exact Calls.quiet_of (E1.out _)) | (go_at_call 10; exact Calls.quiet_of (E2.out _)))
                    go_wp2_with fail
                    go_roundw
                    case rel => exact ⟨t + 1, by omega, by go_num, rfl, HT.out.all kp_dN⟩
                    case measure => simp [intOf]; omega
                | false =>
                  have hti : t ≠ i := fun e => by have := (HA.out e).2.2.1; cases this
                  have hlt3 : t < i := by omega
                  clear HA hti
                  go_wp2_with fail
                  go_quiet (first | (go_at_call_of 10 (Value.slice (some { block := w5.heap.size, off := 0 }) t p); exact Calls.quiet_of (E1.out _)) | (go_at_call 10; exact Calls.quiet_of (E2.out _)))
                  go_wp2_with fail
                  go_roundw
                  case rel => exact ⟨t + 1, by omega, by go_num, rfl, HT.out.all kp_dN⟩
                  case measure => simp [intOf]; omega
              · have hti : t ≠ i := fun e => q2 (HA.out e).2.1
                have hlt3 : t < i := by omega
                have q2' : ((ag E t).1 == (ag E i).1) = false := by simpa using q2
                clear HA hti q2
                go_wp2_with fail
                go_quiet (first | (go_at_call_of 10 (Value.slice (some { block := w5.heap.size, off := 0 }) t p); exact Calls.quiet_of (E1.out _)) | (go_at_call 10; exact Calls.quiet_of (E2.out _)))
                go_wp2_with fail
                go_roundw
                case rel => exact ⟨t + 1, by omega, by go_num, rfl, HT.out.all kp_dN⟩
                case measure => simp [intOf]; omega
            · have hti : t ≠ i := fun e => q1 (HA.out e).1
              have hlt3 : t < i := by omega
              have q1' : ((ag E t).2 == (ag E i).2) = false := by simpa using q1
              clear HA hti q1
              go_wp2_with fail
              go_quiet (first | (go_at_call_of 10 (Value.slice (some { block := w5.heap.size, off := 0 }) t p); exact Calls.quiet_of (E1.out _)) | (go_at_call 10; exact Calls.quiet_of (E2.out _)))
              go_wp2_with fail
              go_roundw
              case rel => exact ⟨t + 1, by omega, by go_num, rfl, HT.out.all kp_dN⟩
              case measure => simp [intOf]; omega


set_option maxRecDepth 100000 in
/-- The law's own guards. -/
theorem law5_out (v l : Int) (a1 : Option Addr) (n cap : Nat) (a2 : Option Addr) (ns cs : Nat) (w : World) (h : 4096 < n ∨ 65536 < ns ∨ n = 0 ∨ l < 1) (hn : n ≤ maxLen) (hs : ns ≤ maxLen) :
    Calls Try.prog 5 #[.int .i64 v, .int .i64 l, .slice a1 n cap, .slice a2 ns cs] w fun e w' => e = .returned (.bool true) ∧ Below w.heap.size w w' := by
  unfold maxLen at hn hs
  by_cases h1 : 4096 < n
  · clear h
    go_enter Try.func5, Try.ntmps5
    go_wp2
    go_ret
    exact ⟨rfl, Below.refl _ _⟩
  · by_cases h2 : 65536 < ns
    · clear h
      go_enter Try.func5, Try.ntmps5
      go_wp2
      go_ret
      exact ⟨rfl, Below.refl _ _⟩
    · by_cases h3 : n = 0
      · subst h3
        clear h
        go_enter Try.func5, Try.ntmps5
        go_wp2
        go_ret
        exact ⟨rfl, Below.refl _ _⟩
      · have h4 : l < 1 := by omega
        have h5 : 1 ≤ n := by omega
        clear h h3
        go_enter Try.func5, Try.ntmps5
        go_wp2
        go_ret
        exact ⟨rfl, Below.refl _ _⟩

end Go.Proofs.Qxb6003312a
