/-
  Nodes in memory; the walks of ZZNewNode, ZZNodeView, ZZNodeSent, oldest.
-/
import Derived.Test.Qxb6003312aSub
import Derived.Outline
namespace Go.Proofs.Qxb6003312a
open Go.RowKit Go.Deep

/-- A node in memory: its view and its sent. -/
def Node (w : World) (nd : Nat) (V S : Value) : Prop := ∃ F : Nat → Value, HeadIs w nd 63 7 F ∧ F 0 = V ∧ F 3 = S

namespace Node
variable {w w' : World} {nd : Nat} {V S : Value}
theorem lt (h : Node w nd V S) : nd < w.heap.size := by obtain ⟨F, h, _⟩ := h; exact h.lt
theorem view (h : Node w nd V S) : w.cell? ⟨nd, 0, none⟩ = some V := by obtain ⟨F, h, e, _⟩ := h; rw [h.cell (by omega), e]
theorem sent (h : Node w nd V S) : w.cell? ⟨nd, 3, none⟩ = some S := by obtain ⟨F, h, _, e⟩ := h; rw [h.cell (by omega), e]
theorem frozen (h : Node w nd V S) (i : Nat) : w.frozen? ⟨nd, i, none⟩ = false := by obtain ⟨F, h, _⟩ := h; exact h.frozen i
theorem kp {p : Nat → Prop} (h : Node w nd V S) (k : Kp p w w') (hp : p nd) : Node w' nd V S := by obtain ⟨F, h, e⟩ := h; exact ⟨F, h.kp k hp, e⟩
theorem setView (h : Node w nd V S) (V' : Value) : Node (w.setCell ⟨nd, 0, none⟩ V') nd V' S := by
  obtain ⟨F, h, e0, e3⟩ := h
  exact ⟨_, h.set 0 V', rfl, by simpa using e3⟩
theorem setSent (h : Node w nd V S) (S' : Value) : Node (w.setCell ⟨nd, 3, none⟩ S') nd V S' := by
  obtain ⟨F, h, e0, e3⟩ := h
  exact ⟨_, h.set 3 S', by simpa using e0, rfl⟩
theorem ne (h : Node w nd V S) {b n : Nat} {t : TypeId} {f : Nat → Value} (hb : HeadIs w b t n f) (ht : t ≠ 63) : b ≠ nd := by
  obtain ⟨F, h, _⟩ := h
  exact hb.ne h ht
theorem alloc (h : Node w nd V S) (o : Obj) : Node (w.alloc o) nd V S := by obtain ⟨F, h, e⟩ := h; exact ⟨F, h.alloc o, e⟩
theorem drew (h : Node w nd V S) : Node w.drew nd V S := h
theorem drewN (h : Node w nd V S) (k : Nat) : Node (w.drewN k) nd V S := h
theorem setOther (h : Node w nd V S) {a : Addr} (ha : nd ≠ a.block) (v : Value) : Node (w.setCell a v) nd V S := by obtain ⟨F, h, e⟩ := h; exact ⟨F, h.setOther ha v, e⟩
end Node

theorem build63 (a : Option Addr) (n c : Nat) (w : World) : (Instr.build 63 #[(0, .slice a n c)]).run Try.prog w = .ok (.agg #[.slice a n c, .int .i64 0, .int .i64 0, .slice none 0 0, .slice none 0 0, .slice none 0 0, .bool false]) w := run_build w 63 _ _ (by kernel_rfl)

theorem node_new (a : Option Addr) (n c : Nat) (w : World) :
    Calls Try.prog 18 #[.slice a n c] w fun e w' => e = .returned (.pointer (some ⟨w.heap.size, 0, none⟩)) ∧ Node w' w.heap.size (.slice a n c) (.slice none 0 0) ∧ Kp All w w' ∧ w'.heap.size = w.heap.size + 1 := by
  have hb := build63 a n c
  go_enter Try.func18, Try.ntmps18
  go_wp2
  go_ret
  refine ⟨rfl, ⟨fun j => (#[.slice a n c, .int .i64 0, .int .i64 0, .slice none 0 0, .slice none 0 0, .slice none 0 0, .bool false] : Array Value)[j]!, ⟨_, blk_alloc_new _ _, Nat.le_refl _, fun i hi => ?_⟩, rfl, rfl⟩, (Kp.refl _ _).alloc _, nblk_alloc _ _⟩
  rcases (show i = 0 ∨ i = 1 ∨ i = 2 ∨ i = 3 ∨ i = 4 ∨ i = 5 ∨ i = 6 by omega) with rfl | rfl | rfl | rfl | rfl | rfl | rfl <;> rfl

theorem node_view (nd : Nat) (V S : Value) (w : World) (h : Node w nd V S) : Calls Try.prog 23 #[.pointer (some ⟨nd, 0, none⟩)] w fun e w' => e = .returned V ∧ w' = w := by
  have c := h.view
  clear h
  go_enter Try.func23, Try.ntmps23
  go_wp2
  go_ret
  exact ⟨rfl, rfl⟩
theorem node_sent (nd : Nat) (V S : Value) (w : World) (h : Node w nd V S) : Calls Try.prog 20 #[.pointer (some ⟨nd, 0, none⟩)] w fun e w' => e = .returned S ∧ w' = w := by
  have c := h.sent
  clear h
  go_enter Try.func20, Try.ntmps20
  go_wp2
  go_ret
  exact ⟨rfl, rfl⟩

/-- The place of one of the greatest ages. -/
def Oldest (n : Nat) (E : Nat → Int × Int) (i : Nat) : Prop := i < n ∧ ∀ j, j < n → (E j).2 ≤ (E i).2

/-- What oldest leaves. -/
def OldP (br bs n : Nat) (E : Nat → Int × Int) (w : World) (e : Ending) (w' : World) : Prop :=
  ∃ i l, e = .returned (.int .i64 (i : Nat)) ∧ Oldest n E i ∧ Rng w' br bs l ∧ Kp (· ≠ bs) w w' ∧ w'.heap.size = w.heap.size

set_option maxHeartbeats 2000000 in
theorem oldest_any (nd br bs left A n c : Nat) (S : Value) (E : Nat → Int × Int) (w : World) (h1 : 1 ≤ n) (hn : n ≤ 4096) (hN : Node w nd (.slice (some ⟨A, 0, none⟩) n c) S) (hE : HeadIs w A 55 (n * 2) (entF E)) (hr : Rng w br bs left) :
    Calls Try.prog 35 #[.pointer (some ⟨nd, 0, none⟩), .pointer (some ⟨br, 0, none⟩)] w (OldP br bs n E w) := by
  have H : Hid (Node w nd (.slice (some ⟨A, 0, none⟩) n c) S ∧ HeadIs w A 55 (n * 2) (entF E) ∧ Rng w br bs left) := ⟨hN, hE, hr⟩
  have hbs : nd ≠ bs ∧ A ≠ bs := by
    obtain ⟨bd, m, s, idx, _, r2, _⟩ := hr
    exact ⟨fun e => hN.ne r2 (by decide) e.symm, hE.ne r2 (by decide)⟩
  obtain ⟨n1, n2⟩ := hbs
  clear hN hE hr
  go_enter Try.func35, Try.ntmps35
  go_wp2
  go_loopw [5, 6, 7] (fun at_ ti i wr => ∃ (a t k l : Nat), a < k ∧ 1 ≤ t ∧ t ≤ k ∧ 1 ≤ k ∧ k ≤ n ∧ at_ = .int .i64 a ∧ ti = .int .i64 t ∧ i = .int .i64 k ∧ Hid ((∀ j, j < k → (E j).2 ≤ (E a).2) ∧ Rng wr br bs l ∧ Kp (· ≠ bs) w wr ∧ wr.heap.size = w.heap.size)) (fun _ _ i _ => n - (intOf i).toNat)
  case atStart => exact ⟨0, 1, 1, left, by omega, by omega, by omega, by omega, h1, rfl, rfl, rfl, fun j hj => by rw [show j = 0 by omega]; exact Int.le_refl _, H.out.2.2, Kp.refl _ _, rfl⟩
  case round =>
    obtain ⟨a, t, k, l, b1, b2, b3, b4, b5, rfl, rfl, rfl, HR⟩ := hrel
    have cv := (H.out.1.kp HR.out.2.2.1 n1).view
    by_cases hlt : k < n
    · have hA := H.out.2.1.kp HR.out.2.2.1 n2
      have ck := (hA.ent hlt).2
      have ca := (hA.ent (show a < n by omega)).2
      clear hA
      rcases Int.lt_trichotomy (E a).2 (E k).2 with hc | hc | hc
      · go_wp2
        go_roundw
        case rel =>
          refine ⟨k, 1, k + 1, l, by omega, by omega, by omega, by omega, by omega, rfl, rfl, by go_num, fun j hj => ?_, HR.out.2⟩
          by_cases e : j = k
          · subst e; exact Int.le_refl _
          · have := HR.out.1 j (by omega); omega
        case measure => simp [intOf]; omega
      · have q1 : ((E k).2 == (E a).2) = true := by rw [beq_iff_eq]; exact hc.symm
        have q2 : ¬ (E a).2 < (E k).2 := by omega
        have HC : Hid ((E a).2 = (E k).2) := hc
        clear hc
        go_wp2_with fail
        refine (intN_any _ br bs l _ (by omega) (by omega) HR.out.2.1).mono ?_
        rintro e w2 ⟨r, rfl, r0, r1, ⟨l2, hl2⟩, hk2, hsz2⟩
        have HR2 : Hid (Rng w2 br bs l2 ∧ Kp (· ≠ bs) w w2 ∧ w2.heap.size = w.heap.size) := ⟨hl2, HR.out.2.2.1.trans hk2, hsz2.trans HR.out.2.2.2⟩
        clear hl2 hk2 hsz2
        by_cases hr0 : (r == 0) = true
        · go_wp2
          go_roundw
          case rel =>
            refine ⟨k, t + 1, k + 1, l2, by omega, by omega, by omega, by omega, by omega, rfl, by go_num, by go_num, fun j hj => ?_, HR2.out⟩
            by_cases e : j = k
            · subst e; exact Int.le_refl _
            · have := HR.out.1 j (by omega); have := HC.out; omega
          case measure => simp [intOf]; omega
        · have hr0' : (r == 0) = false := by simpa using hr0
          clear hr0
          go_wp2
          go_roundw
          case rel =>
            refine ⟨a, t + 1, k + 1, l2, by omega, by omega, by omega, by omega, by omega, rfl, by go_num, by go_num, fun j hj => ?_, HR2.out⟩
            by_cases e : j = k
            · subst e; have := HC.out; omega
            · exact HR.out.1 j (by omega)
          case measure => simp [intOf]; omega
      · have q1 : ((E k).2 == (E a).2) = false := by rw [beq_eq_false_iff_ne]; omega
        have q2 : ¬ (E a).2 < (E k).2 := by omega
        go_wp2
        go_roundw
        case rel =>
          refine ⟨a, t, k + 1, l, by omega, by omega, by omega, by omega, by omega, rfl, rfl, by go_num, fun j hj => ?_, HR.out.2⟩
          by_cases e : j = k
          · subst e; omega
          · exact HR.out.1 j (by omega)
        case measure => simp [intOf]; omega
    · go_wp2
      go_ret
      exact ⟨a, l, rfl, ⟨by omega, fun j hj => HR.out.1 j (by omega)⟩, HR.out.2⟩

end Go.Proofs.Qxb6003312a
