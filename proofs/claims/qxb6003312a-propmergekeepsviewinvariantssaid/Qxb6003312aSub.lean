/-
  The walk of zzSubMultiset.
-/
import Derived.Test.Qxb6003312aCount
import Derived.Outline
namespace Go.Proofs.Qxb6003312a
open Go.RowKit Go.Deep

theorem info4 : (Try.prog.info? 4).map (fun i => (i.zero, i.size, i.bytes)) = some (some (.bool false), 1, 1) := by kernel_rfl

theorem bool_upd (u : Nat → Bool) (i j : Nat) : (if j = i then Value.bool true else .bool (u j)) = .bool (if j = i then true else u j) := by
  split <;> rfl

theorem entF_zero (E : Nat → Int × Int) : entF E 0 = .int .i64 (E 0).1 := entF_even E 0
theorem entF_uno (E : Nat → Int × Int) : entF E 1 = .int .i64 (E 0).2 := entF_odd E 0
theorem one_ent {t : TypeId} (w : World) (x : Int × Int) : HeadIs (w.alloc (.cells #[.int .i64 x.1, .int .i64 x.2] t)) w.heap.size t 2 (entF (fun _ => x)) := by
  refine ⟨_, blk_alloc_new _ _, Nat.le_refl _, fun i hi => ?_⟩
  rcases (show i = 0 ∨ i = 1 by omega) with rfl | rfl <;> rfl

set_option maxHeartbeats 2000000 in
theorem sub_core (b1 o1 n c1 b2 o2 m c2 : Nat) (E F : Nat → Int × Int) (I : Nat → (Nat → Bool) → Prop) (w : World) (hn : n ≤ 4096) (hm : m ≤ 4096) (l1 : b1 < w.heap.size) (l2 : b2 < w.heap.size)
    (h1 : ∀ i, i < n → w.cell? ⟨b1, o1 + i * 2, none⟩ = some (.int .i64 (E i).1) ∧ w.cell? ⟨b1, o1 + i * 2 + 1, none⟩ = some (.int .i64 (E i).2))
    (h2 : ∀ i, i < m → w.cell? ⟨b2, o2 + i * 2, none⟩ = some (.int .i64 (F i).1) ∧ w.cell? ⟨b2, o2 + i * 2 + 1, none⟩ = some (.int .i64 (F i).2))
    (i0 : I 0 (fun _ => false)) (is : ∀ k u, k < n → I k u → (∃ j, j < m ∧ u j = false ∧ F j = E k) ∧ ∀ j, j < m → u j = false → F j = E k → I (k + 1) (fun i => if i = j then true else u i)) :
    Calls Try.prog 11 #[.slice (some ⟨b1, o1, none⟩) n c1, .slice (some ⟨b2, o2, none⟩) m c2] w fun e w' => e = .returned (.bool true) ∧ Kp All w w' := by
  have H1 : Hid (∀ i, i < n → w.cell? ⟨b1, o1 + i * 2, none⟩ = some (.int .i64 (E i).1) ∧ w.cell? ⟨b1, o1 + i * 2 + 1, none⟩ = some (.int .i64 (E i).2)) := h1
  have H2 : Hid (∀ i, i < m → w.cell? ⟨b2, o2 + i * 2, none⟩ = some (.int .i64 (F i).1) ∧ w.cell? ⟨b2, o2 + i * 2 + 1, none⟩ = some (.int .i64 (F i).2)) := h2
  have HI : Hid (I 0 (fun _ => false) ∧ ∀ k u, k < n → I k u → (∃ j, j < m ∧ u j = false ∧ F j = E k) ∧ ∀ j, j < m → u j = false → F j = E k → I (k + 1) (fun i => if i = j then true else u i)) := ⟨i0, is⟩
  clear h1 h2 i0 is
  have hmk := run_make_row' (P := Try.prog) 41 4 (.bool false) 1 Try.underlying41 info4 rfl .i64 .i64 m (by omega) (by omega)
  have q33 := eq33
  go_enter Try.func11, Try.ntmps11
  go_wp2
  go_loopw [16] (fun i wr => ∃ (k : Nat) (u : Nat → Bool), k ≤ n ∧ i = .int .i64 k ∧ Hid (HeadIs wr w.heap.size 4 m (fun j => .bool (u j)) ∧ I k u ∧ Kp All w wr)) (fun i _ => n - (intOf i).toNat)
  case atStart => exact ⟨0, fun _ => false, Nat.zero_le _, rfl, HeadIs.of_row (World.rowIs_made _ _ _ _), HI.out.1, (Kp.refl _ _).alloc _⟩
  case round =>
    obtain ⟨k, u, hk, rfl, HR⟩ := hrel
    clear hmk
    by_cases hlt : k < n
    · have c1 : wr.cell? ⟨b1, o1 + k * 2, none⟩ = some (.int .i64 (E k).1) := (HR.out.2.2.cell (by exact l1) trivial).trans (H1.out k hlt).1
      have c2 : wr.cell? ⟨b1, o1 + k * 2 + 1, none⟩ = some (.int .i64 (E k).2) := (HR.out.2.2.cell (by exact l1) trivial).trans (H1.out k hlt).2
      go_wp2
      have HX : Hid (HeadIs (wr.alloc (.cells #[.int .i64 (E k).1, .int .i64 (E k).2] 33)) wr.heap.size 33 2 (entF (fun _ => E k))) := one_ent wr (E k)
      have hXU : wr.heap.size ≠ w.heap.size := Nat.ne_of_gt HR.out.1.lt
      go_loopw [8, 22] (fun h j wi => ∃ t : Nat, t ≤ m ∧ j = .int .i64 t ∧ h = .bool false ∧ Hid (HeadIs wi w.heap.size 4 m (fun j => .bool (u j)) ∧ HeadIs wi wr.heap.size 33 2 (entF (fun _ => E k)) ∧ Kp All w wi ∧ ∀ i, i < t → ¬ (u i = false ∧ F i = E k))) (fun _ j _ => m - (intOf j).toNat)
      case atStart => exact ⟨0, Nat.zero_le _, rfl, rfl, HR.out.1.alloc _, HX.out, HR.out.2.2.alloc _, fun i hi => by omega⟩
      case round =>
        obtain ⟨t, ht, rfl, rfl, HQ⟩ := hrel
        clear HX c1 c2
        by_cases htl : t < m
        · have d1 : wr.cell? ⟨b2, o2 + t * 2, none⟩ = some (.int .i64 (F t).1) := (HQ.out.2.2.1.cell (by exact l2) trivial).trans (H2.out t htl).1
          have d2 : wr.cell? ⟨b2, o2 + t * 2 + 1, none⟩ = some (.int .i64 (F t).2) := (HQ.out.2.2.1.cell (by exact l2) trivial).trans (H2.out t htl).2
          have x1 := HQ.out.2.1.cell (i := 0) (by omega)
          have x2 := HQ.out.2.1.cell (i := 1) (by omega)
          rw [entF_zero] at x1
          rw [entF_uno] at x2
          have us := HQ.out.1.cell htl
          have lU := HQ.out.1.lt
          have lX := HQ.out.2.1.lt
          have uf := HQ.out.1.frozen t
          cases hu : u t with
          | true =>
            rw [hu] at us
            have HU : Hid (u t = true) := hu
            clear hu
            go_wp2
            go_roundw
            case rel =>
              refine ⟨t + 1, by omega, by go_num, rfl, HQ.out.1.alloc _, HQ.out.2.1.alloc _, HQ.out.2.2.1.alloc _, fun i hi => ?_⟩
              by_cases e : i = t
              · subst e; rw [HU.out]; simp
              · exact HQ.out.2.2.2 i (by omega)
            case measure => simp [intOf]; omega
          | false =>
            rw [hu] at us
            have HU : Hid (u t = false) := hu
            clear hu
            by_cases t1 : ((F t).1 == (E k).1) = true
            · by_cases t2 : ((F t).2 == (E k).2) = true
              · have HF : Hid (F t = E k) := Prod.ext (by simpa using t1) (by simpa using t2)
                go_wp2
                go_roundw
                case rel => exact ⟨k + 1, fun i => if i = t then true else u i, by omega, by go_num, (HQ.out.1.set t _).alloc _ |>.congr (fun j _ => bool_upd u t j), (HI.out.2 k u hlt HR.out.2.1).2 t htl HU.out HF.out, (HQ.out.2.2.1.setCell (fun h => absurd h (Nat.lt_irrefl _)) _).alloc _⟩
                case measure => simp [intOf]; omega
              · have t2' : ((F t).2 == (E k).2) = false := by simpa using t2
                have HF : Hid (F t ≠ E k) := fun e => t2 (by rw [e]; simp)
                clear t2
                go_wp2
                go_roundw
                case rel =>
                  refine ⟨t + 1, by omega, by go_num, rfl, HQ.out.1.alloc _, HQ.out.2.1.alloc _, HQ.out.2.2.1.alloc _, fun i hi => ?_⟩
                  by_cases e : i = t
                  · subst e; exact fun h => HF.out h.2
                  · exact HQ.out.2.2.2 i (by omega)
                case measure => simp [intOf]; omega
            · have t1' : ((F t).1 == (E k).1) = false := by simpa using t1
              have HF : Hid (F t ≠ E k) := fun e => t1 (by rw [e]; simp)
              clear t1
              go_wp2
              go_roundw
              case rel =>
                refine ⟨t + 1, by omega, by go_num, rfl, HQ.out.1.alloc _, HQ.out.2.1.alloc _, HQ.out.2.2.1.alloc _, fun i hi => ?_⟩
                by_cases e : i = t
                · subst e; exact fun h => HF.out h.2
                · exact HQ.out.2.2.2 i (by omega)
              case measure => simp [intOf]; omega
        · exfalso
          obtain ⟨j, hj, hj1, hj2⟩ := (HI.out.2 k u hlt HR.out.2.1).1
          exact HQ.out.2.2.2 j (by omega) ⟨hj1, hj2⟩
    · go_wp2
      go_ret
      exact ⟨rfl, HR.out.2.2⟩

/-- zzSubMultiset answers true where of no value there is more in the first list. -/
theorem sub_any (a1 : Option Addr) (n c1 : Nat) (a2 : Option Addr) (m c2 : Nat) (E F : Nat → Int × Int) (w : World) (hn : n ≤ 4096) (hm : m ≤ 4096) (h1 : Ents w a1 n E) (h2 : Ents w a2 m F) (hc : ∀ x, cntE E x n ≤ cntE F x m) :
    Calls Try.prog 11 #[.slice a1 n c1, .slice a2 m c2] w fun e w' => e = .returned (.bool true) ∧ Kp All w w' := by
  by_cases h0 : n = 0
  · subst h0
    clear h1 h2 hc
    have hmk := run_make_row' (P := Try.prog) 41 4 (.bool false) 1 Try.underlying41 info4 rfl .i64 .i64 m (by omega) (by omega)
    go_enter Try.func11, Try.ntmps11
    go_wp2
    refine wp_loop_rounds 1 ?_
    rw [rounds_succ]
    go_wp2
    go_ret
    exact ⟨rfl, (Kp.refl _ _).alloc _⟩
  · rcases h1 with h | ⟨b1, o1, rfl, l1, h1⟩
    · exact absurd h h0
    · rcases h2 with rfl | ⟨b2, o2, rfl, l2, h2⟩
      · exfalso
        obtain ⟨j, hj, _⟩ := (used_step E F n 0 hc 0 (fun _ => false) (by omega) (used_zero E F 0)).1
        omega
      · exact sub_core b1 o1 n c1 b2 o2 m c2 E F (Used E F m) w hn hm l1 l2 h1 h2 (used_zero E F m) (used_step E F n m hc)

end Go.Proofs.Qxb6003312a
