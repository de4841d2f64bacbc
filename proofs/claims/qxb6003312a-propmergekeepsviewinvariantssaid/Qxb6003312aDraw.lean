/-
  The walks of slices.Clone, draw, ZZDraw; places shuffled.
-/
import Derived.Test.Qxb6003312aEqual
import Derived.Outline
namespace Go.Proofs.Qxb6003312a
open Go.RowKit Go.Deep

theorem inf55 : (Try.prog.info? 55).map (fun i => (i.zero, i.size, i.bytes)) = some (some (.agg #[.int .i64 0, .int .i64 0]), 2, 16) := by kernel_rfl

/-- A row of entries in memory of the call's own: the first n of room for cap. -/
def OwnE (w : World) (t : TypeId) (g n cap : Nat) (E : Nat → Int × Int) : Prop :=
  ∃ cur : Array Value, w.heap[g]? = some (.cells cur t (0, 0)) ∧ n ≤ cap ∧ cap ≤ maxLen ∧ cur.size = cap * 2 ∧ ∀ i, i < n * 2 → cur[i]? = some (entF E i)

def entL (E : Nat → Int × Int) (n : Nat) : List Value := (List.range (n * 2)).map (entF E)

theorem entL_get (E : Nat → Int × Int) (n j : Nat) (u : Value) (h : (entL E n)[j]? = some u) : j < n * 2 ∧ u = entF E j := by
  unfold entL at h
  rw [List.getElem?_map] at h
  by_cases hj : j < n * 2
  · rw [List.getElem?_range hj] at h
    simp at h
    exact ⟨hj, h.symm⟩
  · rw [List.getElem?_eq_none (by simp; omega)] at h
    cases h
theorem entL_len (E : Nat → Int × Int) (n : Nat) : (entL E n).length = n * 2 := by simp [entL]
theorem entL_one (E : Nat → Int × Int) (n : Nat) : ∀ u ∈ entL E n, u.oneCell' = true := by
  intro u hu
  simp only [entL, List.mem_map] at hu
  obtain ⟨j, _, rfl⟩ := hu
  rfl

namespace OwnE
variable {w w' : World} {t : TypeId} {g n cap : Nat} {E F : Nat → Int × Int}
theorem head (h : OwnE w t g n cap E) : HeadIs w g t (n * 2) (entF E) := by
  obtain ⟨cur, hb, hn, hm, hs, hc⟩ := h
  exact ⟨cur, hb, by omega, hc⟩
theorem lt (h : OwnE w t g n cap E) : g < w.heap.size := h.head.lt
theorem of_block (h : OwnE w t g n cap E) (e : w'.heap[g]? = w.heap[g]?) : OwnE w' t g n cap E := by
  obtain ⟨cur, hb, r⟩ := h
  exact ⟨cur, e.trans hb, r⟩
theorem kp {p : Nat → Prop} (h : OwnE w t g n cap E) (k : Kp p w w') (hp : p g) : OwnE w' t g n cap E := h.of_block (k.block g h.lt hp)
theorem congr (h : OwnE w t g n cap E) (e : ∀ i, i < n → E i = F i) : OwnE w t g n cap F := by
  obtain ⟨cur, hb, hn, hm, hs, hc⟩ := h
  refine ⟨cur, hb, hn, hm, hs, fun i hi => ?_⟩
  rw [hc i hi]
  unfold entF
  rw [e (i / 2) (by omega)]
theorem less (h : OwnE w t g n cap E) {m : Nat} (hm : m ≤ n) : OwnE w t g m cap E := by
  obtain ⟨cur, hb, hn, hmm, hs, hc⟩ := h
  exact ⟨cur, hb, by omega, hmm, hs, fun i hi => hc i (by omega)⟩
theorem cap_le (h : OwnE w t g n cap E) : n ≤ cap ∧ cap ≤ maxLen := by
  obtain ⟨cur, hb, hn, hmm, _⟩ := h
  exact ⟨hn, hmm⟩
theorem set (h : OwnE w t g n cap E) (i : Nat) (x y : Int) :
    OwnE ((w.setCell ⟨g, i * 2, none⟩ (.int .i64 x)).setCell ⟨g, i * 2 + 1, none⟩ (.int .i64 y)) t g n cap (fun j => if j = i then (x, y) else E j) := by
  have hp := h.head.putEnt i x y
  obtain ⟨cur, hb, hn, hm, hs, hc⟩ := h
  obtain ⟨c2, hb2, hn2, hc2⟩ := hp
  refine ⟨c2, hb2, hn, hm, ?_, hc2⟩
  have : ((w.setCell ⟨g, i * 2, none⟩ (.int .i64 x)).setCell ⟨g, i * 2 + 1, none⟩ (.int .i64 y)).heap[g]? = some (.cells ((cur.setIfInBounds (i * 2) (.int .i64 x)).setIfInBounds (i * 2 + 1) (.int .i64 y)) t (0, 0)) := by
    simp [World.setCell, Array.getElem?_modify, hb]
  rw [this] at hb2
  simp at hb2
  rw [← hb2]
  simpa using hs
theorem alloc (h : OwnE w t g n cap E) (o : Obj) : OwnE (w.alloc o) t g n cap E := h.of_block (blk_alloc_lt _ _ _ h.lt)
theorem drewN (h : OwnE w t g n cap E) (k : Nat) : OwnE (w.drewN k) t g n cap E := h
theorem drew (h : OwnE w t g n cap E) : OwnE w.drew t g n cap E := h
theorem of_owns {base : Nat} {v : Value} (h : w.ownsRow base t 2 v n (entL E n)) (hv : v ≠ .slice none 0 0) : ∃ g cap, v = .slice (some ⟨g, 0, none⟩) n cap ∧ base ≤ g ∧ OwnE w t g n cap E := by
  obtain ⟨_, ⟨hn, _⟩ | ⟨g, cap, cur, hv', hb, hg, hnc, hcm, hcs, htake⟩⟩ := h
  · exact absurd hn hv
  · refine ⟨g, cap, hv', hb, cur, hg, hnc, hcm, hcs, fun i hi => ?_⟩
    have : (cur.toList.take (n * 2))[i]? = (entL E n)[i]? := by rw [htake]
    rw [List.getElem?_take, if_pos hi] at this
    unfold entL at this
    rw [List.getElem?_map, List.getElem?_range hi] at this
    simpa using this
theorem owns (h : OwnE w t g n cap E) {base : Nat} (hb : base ≤ g) : w.ownsRow base t 2 (.slice (some ⟨g, 0, none⟩) n cap) n (entL E n) := by
  obtain ⟨cur, hg, hn, hm, hs, hc⟩ := h
  refine ⟨entL_len E n, .inr ⟨g, cap, cur, rfl, hb, hg, hn, hm, hs, ?_⟩⟩
  apply List.ext_getElem?
  intro i
  rw [List.getElem?_take]
  by_cases hi : i < n * 2
  · rw [if_pos hi]
    have := hc i hi
    unfold entL
    rw [List.getElem?_map, List.getElem?_range hi]
    simpa using this
  · rw [if_neg hi, List.getElem?_eq_none (by rw [entL_len]; omega)]
end OwnE

theorem ents_news {w : World} {x : Addr} {n : Nat} {E : Nat → Int × Int} (h : Ents w (some x) n E) : ∀ j u, (entL E n)[j]? = some u → w.cell? (x.add j) = some u := by
  intro j u hu
  obtain ⟨hj, rfl⟩ := entL_get E n j u hu
  rcases h with rfl | ⟨b, off, hx, hb, hc⟩
  · omega
  · obtain rfl : x = ⟨b, off, none⟩ := by injection hx
    rw [Go.WideShapes.add_plain]
    have := hc (j / 2) (by omega)
    unfold entF
    by_cases h2 : j % 2 = 0
    · rw [if_pos h2, show off + j = off + j / 2 * 2 by omega]; exact this.1
    · rw [if_neg h2, show off + j = off + j / 2 * 2 + 1 by omega]; exact this.2

theorem clone_nil (w : World) : Calls Try.prog 33 #[.slice none 0 0] w fun e w' => e = .returned (.slice none 0 0) ∧ w' = w := by
  have hnil := fun w => Lib.run_eql_slice_nil (P := Try.prog) w 24 55 none 0 0 0 0 Try.underlying24
  go_enter Try.func33, Try.ntmps33
  go_wp2
  go_ret
  exact ⟨rfl, rfl⟩

set_option maxHeartbeats 1000000 in
theorem clone_some (x : Addr) (n cap : Nat) (E : Nat → Int × Int) (w : World) (hn : n ≤ 4096) (h : Ents w (some x) n E) :
    Calls Try.prog 33 #[.slice (some x) n cap] w fun e w' => ∃ g c, e = .returned (.slice (some ⟨g, 0, none⟩) n c) ∧ w.heap.size ≤ g ∧ OwnE w' 55 g n c E ∧ Kp All w w' := by
  have HE : Hid (Ents w (some x) n E) := h
  clear h
  have hnil := fun w => Lib.run_eql_slice_nil (P := Try.prog) w 24 55 (some x) n cap 0 0 Try.underlying24
  obtain ⟨i0, hi, hz0, hz1, hz2⟩ := info_parts inf55
  have hown : (w.alloc (.cells #[] 55)).ownsRow w.heap.size 55 2 (.slice (some ⟨w.heap.size, 0, none⟩) 0 0) 0 [] := World.ownsRow_made w #[] 0 (Nat.le_refl _) (by unfold maxLen; omega) rfl
  have hnews : ∀ j u, (entL E n)[j]? = some u → (w.alloc (.cells #[] 55)).cell? (x.add j) = some u := fun j u hu => by
    have hc := ents_news HE.out j u hu
    exact (World.cell?_of_block (w := w) (blk_alloc_lt _ _ _ (World.block_lt_of_cell? w _ hc))).trans hc
  have HO : Hid ((w.alloc (.cells #[] 55)).ownsRow w.heap.size 55 2 (.slice (some ⟨w.heap.size, 0, none⟩) 0 0) 0 []) := hown
  have HN : Hid (∀ j u, (entL E n)[j]? = some u → (w.alloc (.cells #[] 55)).cell? (x.add j) = some u) := hnews
  clear hown hnews
  go_enter Try.func33, Try.ntmps33
  go_wp2_with (at_builtin; refine wpList_append_own _ rfl _ _ 24 rfl w.heap.size 55 i0 _ 2 16 Try.underlying24 hi hz0 hz1 hz2 rfl (by decide) _ _ _ rfl HO.out x n cap (entL E n) rfl (entL_len E n) HN.out (entL_one E n) (by unfold maxLen; omega) (by omega) (by simp) ?_)
  intro v' w1 hown' hgrow hnil'
  obtain ⟨g, c, hv', hg, hE⟩ := OwnE.of_owns hown' hnil'
  have HF : Hid (w.heap.size ≤ g ∧ OwnE w1 55 g n c E ∧ Kp All w w1) := ⟨hg, hE, ((Kp.refl All w).alloc _).grown hgrow (fun k hk hlt => by simp [Value.ownBlock] at hk; omega)⟩
  rw [hv']
  clear hown' hgrow hnil' hv' hE hg
  go_wp2
  go_ret
  exact ⟨g, c, rfl, HF.out⟩

/-! ### Shuffled places -/
/-- A way to pick n places out of n, each once. -/
def Inj (n : Nat) (π : Nat → Nat) : Prop := (∀ j, j < n → π j < n) ∧ ∀ i j, i < n → j < n → π i = π j → i = j

def tau (i j k : Nat) : Nat := if k = i then j else if k = j then i else k
theorem tau_lt {n i j k : Nat} (hi : i < n) (hj : j < n) (hk : k < n) : tau i j k < n := by
  unfold tau; split
  · exact hj
  · split
    · exact hi
    · exact hk
theorem tau_inj (i j a b : Nat) (e : tau i j a = tau i j b) : a = b := by
  unfold tau at e
  by_cases a1 : a = i
  · rw [if_pos a1] at e
    by_cases b1 : b = i
    · omega
    · rw [if_neg b1] at e
      by_cases b2 : b = j
      · rw [if_pos b2] at e; omega
      · rw [if_neg b2] at e; omega
  · rw [if_neg a1] at e
    by_cases a2 : a = j
    · rw [if_pos a2] at e
      by_cases b1 : b = i
      · rw [if_pos b1] at e; omega
      · rw [if_neg b1] at e
        by_cases b2 : b = j
        · omega
        · rw [if_neg b2] at e; omega
    · rw [if_neg a2] at e
      by_cases b1 : b = i
      · rw [if_pos b1] at e; omega
      · rw [if_neg b1] at e
        by_cases b2 : b = j
        · rw [if_pos b2] at e; omega
        · rw [if_neg b2] at e; omega

theorem Inj.id (n : Nat) : Inj n (fun j => j) := ⟨fun _ h => h, fun _ _ _ _ h => h⟩
theorem Inj.tau {n : Nat} {π : Nat → Nat} (h : Inj n π) {i j : Nat} (hi : i < n) (hj : j < n) : Inj n (fun k => π (Qxb6003312a.tau i j k)) :=
  ⟨fun _ hk => h.1 _ (tau_lt hi hj hk), fun a b ha hb e => tau_inj i j a b (h.2 _ _ (tau_lt hi hj ha) (tau_lt hi hj hb) e)⟩

theorem swap_ents (E : Nat → Int × Int) (π : Nat → Nat) (i j : Nat) (k : Nat) :
    (if k = j then ((E (π i)).1, (E (π i)).2) else if k = i then ((E (π j)).1, (E (π j)).2) else E (π k)) = E (π (tau i j k)) := by
  unfold tau
  by_cases h1 : k = j
  · rw [if_pos h1]
    by_cases h2 : k = i
    · rw [if_pos h2]
      have : i = j := by omega
      rw [this]
    · rw [if_neg h2, if_pos h1]
  · rw [if_neg h1, if_neg h1]
    by_cases h2 : k = i
    · rw [if_pos h2, if_pos h2]
    · rw [if_neg h2, if_neg h2]

theorem Rng.set {w : World} {br bs l g m : Nat} {t : TypeId} {f : Nat → Value} (h : Rng w br bs l) (hg : HeadIs w g t m f) (ht : t ≠ 73 ∧ t ≠ 59 ∧ t ≠ 80) (i : Nat) (v : Value) : Rng (w.setCell ⟨g, i, none⟩ v) br bs l := by
  obtain ⟨bd, n, s, idx, h1, h2, h3, r⟩ := h
  exact ⟨bd, n, s, idx, h1.setOther (h1.ne hg ht.1.symm) v, h2.setOther (h2.ne hg ht.2.1.symm) v, h3.setOther (h3.ne hg ht.2.2.symm) v, r⟩

theorem Rng.setEnt {w : World} {br bs l g m : Nat} {t : TypeId} {E : Nat → Int × Int} (h : Rng w br bs l) (hg : HeadIs w g t m (entF E)) (ht : t ≠ 73 ∧ t ≠ 59 ∧ t ≠ 80) (i : Nat) (x y : Int) :
    Rng ((w.setCell ⟨g, i * 2, none⟩ (.int .i64 x)).setCell ⟨g, i * 2 + 1, none⟩ (.int .i64 y)) br bs l :=
  (h.set hg ht _ _).set (hg.set _ _) ht _ _

theorem swap_done {w w2 : World} {br bs l g n c t rn : Nat} {π : Nat → Nat} {E : Nat → Int × Int} (h : Inj n π ∧ OwnE w2 55 g n c (fun j => E (π j)) ∧ Rng w2 br bs l ∧ Kp (· ≠ bs) w w2) (ht : t < n) (hr : t + rn < n) (hw : w.heap.size ≤ g) :
    Inj n (fun j => π (tau t (t + rn) j)) ∧ OwnE ((((w2.setCell ⟨g, t * 2, none⟩ (.int .i64 (E (π (t + rn))).1)).setCell ⟨g, t * 2 + 1, none⟩ (.int .i64 (E (π (t + rn))).2)).setCell ⟨g, (t + rn) * 2, none⟩ (.int .i64 (E (π t)).1)).setCell ⟨g, (t + rn) * 2 + 1, none⟩ (.int .i64 (E (π t)).2)).drew 55 g n c (fun j => E (π (tau t (t + rn) j))) ∧
      Rng ((((w2.setCell ⟨g, t * 2, none⟩ (.int .i64 (E (π (t + rn))).1)).setCell ⟨g, t * 2 + 1, none⟩ (.int .i64 (E (π (t + rn))).2)).setCell ⟨g, (t + rn) * 2, none⟩ (.int .i64 (E (π t)).1)).setCell ⟨g, (t + rn) * 2 + 1, none⟩ (.int .i64 (E (π t)).2)).drew br bs l ∧
      Kp (· ≠ bs) w ((((w2.setCell ⟨g, t * 2, none⟩ (.int .i64 (E (π (t + rn))).1)).setCell ⟨g, t * 2 + 1, none⟩ (.int .i64 (E (π (t + rn))).2)).setCell ⟨g, (t + rn) * 2, none⟩ (.int .i64 (E (π t)).1)).setCell ⟨g, (t + rn) * 2 + 1, none⟩ (.int .i64 (E (π t)).2)).drew := by
  obtain ⟨h1, h2, h3, h4⟩ := h
  have hn : ∀ q : World, Kp (· ≠ bs) w q → ∀ (i : Nat) (v : Value), Kp (· ≠ bs) w (q.setCell ⟨g, i, none⟩ v) := fun q hq i v => hq.setCell (fun hlt => absurd hlt (by show ¬ g < _; omega)) v
  refine ⟨h1.tau ht hr, ?_, ?_, ?_⟩
  · exact (((h2.set t _ _).set (t + rn) _ _).congr (fun j _ => swap_ents E π t (t + rn) j)).drew
  · exact (h3.setEnt h2.head (by decide) t _ _).setEnt (h2.set t _ _).head (by decide) (t + rn) _ _
  · exact (hn _ (hn _ (hn _ (hn _ h4 _ _) _ _) _ _) _ _).drew

set_option maxHeartbeats 2000000 in
theorem draw_some (br bs left : Nat) (x : Addr) (n cap k : Nat) (E : Nat → Int × Int) (w : World) (hn : n ≤ 4096) (hk1 : k ≤ 9223372036854775807) (hr : Rng w br bs left) (h : Ents w (some x) n E) :
    Calls Try.prog 26 #[.pointer (some ⟨br, 0, none⟩), .slice (some x) n cap, .int .i64 (k : Int)] w fun e w' => ∃ g c π left', e = .returned (.slice (some ⟨g, 0, none⟩) (min k n) c) ∧ w.heap.size ≤ g ∧ Inj n π ∧ OwnE w' 55 g n c (fun j => E (π j)) ∧ Rng w' br bs left' ∧ Kp (· ≠ bs) w w' := by
  have HE : Hid (Ents w (some x) n E ∧ Rng w br bs left) := ⟨h, hr⟩
  clear h hr
  have hbs : bs < w.heap.size := by obtain ⟨_, _, _, _, _, h2, _⟩ := HE.out.2; exact h2.lt
  rcases Nat.lt_or_ge n k with hnk | hnk
  all_goals
    go_enter Try.func26, Try.ntmps26
    go_wp2_with fail
    refine (clone_some x n cap E _ hn HE.out.1).mono ?_
    rintro e w1 ⟨g, c, rfl, hg, hE, hK⟩
    have HR1 : Hid (Rng w1 br bs left) := HE.out.2.kp hK (fun _ _ _ => trivial)
    have HO : Hid (OwnE w1 55 g n c E ∧ Kp All w w1) := ⟨hE, hK⟩
    obtain ⟨hc1, hc2⟩ := hE.cap_le
    have hc3 : c ≤ 9223372036854775807 := hc2
    clear hE hK hc2
    go_wp2
    go_loopw [17] (fun i wr => ∃ (t : Nat) (π : Nat → Nat) (l : Nat), t ≤ k ∧ t ≤ n ∧ i = .int .i64 t ∧ Hid (Inj n π ∧ OwnE wr 55 g n c (fun j => E (π j)) ∧ Rng wr br bs l ∧ Kp (· ≠ bs) w wr)) (fun i _ => n - (intOf i).toNat)
    case atStart => exact ⟨0, fun j => j, left, Nat.zero_le _, Nat.zero_le _, rfl, Inj.id n, HO.out.1, HR1.out, HO.out.2.mono (fun _ _ _ => trivial)⟩
    case round =>
      obtain ⟨t, π, l, htk, htn, rfl, HR⟩ := hrel
      by_cases hlt : t < k ∧ t < n
      · obtain ⟨hlt1, hlt2⟩ := hlt
        go_wp2_with fail
        refine (intN_any _ br bs l _ (by omega) (by omega) HR.out.2.2.1).mono ?_
        rintro e w2 ⟨r, rfl, r0, r1, ⟨l2, hl2⟩, hk2, hsz2⟩
        obtain ⟨rn, rfl⟩ := Int.eq_ofNat_of_zero_le r0
        have hrn : t + rn < n := by omega
        have hgne : g ≠ bs := by omega
        have HR2 : Hid (Inj n π ∧ OwnE w2 55 g n c (fun j => E (π j)) ∧ Rng w2 br bs l2 ∧ Kp (· ≠ bs) w w2) := ⟨HR.out.1, HR.out.2.1.kp hk2 hgne, hl2, HR.out.2.2.2.trans hk2⟩
        clear hl2 hk2 hsz2 r0 r1
        have a1 := (HR2.out.2.1.head.ent hlt2).1
        have a2 := (HR2.out.2.1.head.ent hlt2).2
        have b1 := (HR2.out.2.1.head.ent hrn).1
        have b2 := (HR2.out.2.1.head.ent hrn).2
        have f1 := HR2.out.2.1.head.frozen (t * 2)
        have f2 := HR2.out.2.1.head.frozen (t * 2 + 1)
        have f3 := HR2.out.2.1.head.frozen ((t + rn) * 2)
        have f4 := HR2.out.2.1.head.frozen ((t + rn) * 2 + 1)
        by_cases hz : rn = 0
        · subst hz
          clear b1 b2 f3 f4
          go_wp2
          go_region
          go_wp2
          go_roundw
          case rel => exact ⟨t + 1, fun j => π (tau t (t + 0) j), l2, by omega, by omega, by go_num, swap_done (rn := 0) HR2.out hlt2 hrn hg⟩
          case measure => simp [intOf]; omega
        · go_wp2
          go_region
          go_wp2
          go_roundw
          case rel => exact ⟨t + 1, fun j => π (tau t (t + rn) j), l2, by omega, by omega, by go_num, swap_done HR2.out hlt2 hrn hg⟩
          case measure => simp [intOf]; omega
      · clear HO HR1
        first
          | (have hge : n ≤ t := by omega
             go_wp2
             go_ret
             rw [show min k n = n by omega]
             exact ⟨g, c, π, l, rfl, hg, HR.out⟩)
          | (have hge : k ≤ t := by omega
             go_wp2
             go_ret
             rw [show min k n = k by omega]
             exact ⟨g, c, π, l, rfl, hg, HR.out⟩)

theorem draw_nil (p : Option Addr) (k : Nat) (w : World) :
    Calls Try.prog 26 #[.pointer p, .slice none 0 0, .int .i64 (k : Int)] w fun e w' => e = .returned (.slice none 0 0) ∧ w' = w := by
  rcases Nat.eq_zero_or_pos k with rfl | hk
  all_goals
    go_enter Try.func26, Try.ntmps26
    go_wp2_with (go_at_call 33; refine (clone_nil _).mono ?_; rintro e w' ⟨rfl, rfl⟩)
    refine wp_loop_rounds 1 ?_
    rw [rounds_succ]
    go_wp2
    go_ret
    exact ⟨rfl, rfl⟩

theorem zdraw_nil (p : Option Addr) (k : Nat) (w : World) :
    Calls Try.prog 8 #[.pointer p, .slice none 0 0, .int .i64 (k : Int)] w fun e w' => e = .returned (.slice none 0 0) ∧ w' = w := by
  go_enter Try.func8, Try.ntmps8
  go_wp2_with (go_at_call 26; refine (draw_nil _ _ _).mono ?_; rintro e w' ⟨rfl, rfl⟩)
  go_ret
  exact ⟨rfl, rfl⟩

/-- What a draw of up to k of n entries leaves. -/
def DrawP (br bs n k : Nat) (E : Nat → Int × Int) (w : World) (e : Ending) (w' : World) : Prop :=
  ∃ g c π left', e = .returned (.slice (some ⟨g, 0, none⟩) (min k n) c) ∧ w.heap.size ≤ g ∧ Inj n π ∧ OwnE w' 55 g n c (fun j => E (π j)) ∧ Rng w' br bs left' ∧ Kp (· ≠ bs) w w'

theorem zdraw_some (br bs left : Nat) (x : Addr) (n cap k : Nat) (E : Nat → Int × Int) (w : World) (hn : n ≤ 4096) (hk1 : k ≤ 9223372036854775807) (hr : Rng w br bs left) (h : Ents w (some x) n E) :
    Calls Try.prog 8 #[.pointer (some ⟨br, 0, none⟩), .slice (some x) n cap, .int .i64 (k : Int)] w (DrawP br bs n k E w) := by
  have HE : Hid (Ents w (some x) n E ∧ Rng w br bs left) := ⟨h, hr⟩
  clear h hr
  go_enter Try.func8, Try.ntmps8
  go_wp2_with fail
  refine (draw_some br bs left x n cap k E _ hn hk1 HE.out.2 HE.out.1).mono ?_
  rintro e w1 ⟨g, c, π, l, rfl, hh⟩
  have HH : Hid (w.heap.size ≤ g ∧ Inj n π ∧ OwnE w1 55 g n c (fun j => E (π j)) ∧ Rng w1 br bs l ∧ Kp (· ≠ bs) w w1) := hh
  clear hh
  go_wp2
  go_ret
  exact ⟨g, c, π, l, rfl, HH.out⟩

end Go.Proofs.Qxb6003312a
