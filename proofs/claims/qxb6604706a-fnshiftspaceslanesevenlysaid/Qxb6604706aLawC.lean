/-
  The walk of FnShiftIsCentreOfLaneStrip.
-/
import Derived.Test.Qxb6604706aShift
import Derived.OpenShut
import Derived.LoopTactic
import Derived.Below
namespace Go.Proofs.Qxb6604706a.Sh
open Go.RowKit Go.Deep Go.ChangeShapes Go.WideShapes

/-- The greatest of 0 and the first k lanes. -/
def tp (z : Nat → Int) : Nat → Int
  | 0 => 0
  | k + 1 => if tp z k < z k then z k else tp z k

theorem tp_mx (z : Nat → Int) : ∀ k, mx z k = tp z k + 1
  | 0 => rfl
  | k + 1 => by
    have := tp_mx z k
    simp only [mx, tp]
    split <;> omega

/-- What the walk is told of a slice of integers that came in. -/
def IsRow (k : IntKind) (w : World) (a : Option Addr) (len cap : Nat) (zs : List Int) : Prop :=
  (a = none ∧ len = 0 ∧ cap = 0 ∧ zs = []) ∨
  ∃ x, a = some x ∧ len ≤ cap ∧ cap ≤ maxLen ∧ zs.length = cap ∧ (∀ i, i < zs.length → w.cell? (x.add i) = some (.int k (zs.getD i 0))) ∧ ∀ n ∈ zs, (Lit.int k n).wf = true

/-- The early ways out: the law's own guards. -/
theorem centre_out (a : Option Addr) (len cap : Nat) (i : Int) (w : World) (h : 65536 < len ∨ i < 0 ∨ (len : Int) ≤ i) (hm : len ≤ maxLen) :
    Calls Try.prog 4 #[.slice a len cap, .int .i64 i] w fun e w' => e = .returned (.bool true) ∧ Below w.heap.size w w' := by
  unfold maxLen at hm
  by_cases h1 : 1048576 < len
  · go_enter Try.func4, Try.ntmps4
    go_wp2_with (go_at_call 15; refine (bytes15_no _ _ _ _ _ h1).mono ?_; rintro e w' ⟨rfl, rfl⟩)
    go_ret
    exact ⟨rfl, Below.refl _ _⟩
  · have h1' : len ≤ 1048576 := by omega
    by_cases h2 : 65536 < len
    · clear h1 h
      go_enter Try.func4, Try.ntmps4
      go_wp2_with (go_at_call 15; refine (bytes15_yes _ _ _ _ _ h1').mono ?_; rintro e w' ⟨rfl, rfl⟩)
      go_ret
      exact ⟨rfl, Below.refl _ _⟩
    · by_cases h3 : i < 0
      · clear h1 h
        go_enter Try.func4, Try.ntmps4
        go_wp2_with (go_at_call 15; refine (bytes15_yes _ _ _ _ _ h1').mono ?_; rintro e w' ⟨rfl, rfl⟩)
        go_ret
        exact ⟨rfl, Below.refl _ _⟩
      · have h4 : (len : Int) ≤ i := by omega
        clear h1 h
        go_enter Try.func4, Try.ntmps4
        go_wp2_with (go_at_call 15; refine (bytes15_yes _ _ _ _ _ h1').mono ?_; rintro e w' ⟨rfl, rfl⟩)
        go_ret
        exact ⟨rfl, Below.refl _ _⟩

/-- What is known of the row that came in. -/
def Cells (w : World) (b off len : Nat) (z : Nat → Int) : Prop := b < w.heap.size ∧ ∀ i, i < len → w.cell? ⟨b, off + i, none⟩ = some (.int .i64 (z i))

theorem ret_b {b : Bool} (h : b = true) : Ending.returned (.bool b) = .returned (.bool true) := by rw [h]

theorem centre_eq (x t : Int) : (2 * (2 * x - t) + 2 * (t + 1)) * (t + 1) = (2 * x + 1) * (2 * (t + 1)) := by
  have e : 2 * (2 * x - t) + 2 * (t + 1) = (2 * x + 1) * 2 := by omega
  rw [e, Int.mul_assoc]

set_option maxHeartbeats 1000000 in
theorem centre_in (b off len cap : Nat) (z : Nat → Int) (i : Nat) (w : World) (hi : i < len) (hlen : len ≤ 65536) (hc : Cells w b off len z) :
    Calls Try.prog 4 #[.slice (some ⟨b, off, none⟩) len cap, .int .i64 (i : Int)] w fun e w' => e = .returned (.bool true) ∧ Below w.heap.size w w' := by
  have HC : Hid (Cells w b off len z) := hc
  clear hc
  go_enter Try.func4, Try.ntmps4
  go_wp2_with (go_at_call 15; refine (bytes15_yes _ _ _ _ _ (by omega)).mono ?_; rintro e w' ⟨rfl, rfl⟩)
  go_loop [5, 6] (fun t j => ∃ k : Nat, k ≤ len ∧ j = .int .i64 k ∧ t = .int .i64 (tp z k) ∧ ∀ l, l < k → 0 ≤ z l ∧ z l ≤ 1073741822) (fun _ j => len - (intOf j).toNat)
  case atStart => exact ⟨0, Nat.zero_le _, rfl, rfl, fun l hl => by omega⟩
  case round =>
    obtain ⟨k, hk, rfl, rfl, hz⟩ := hrel
    by_cases hlt : k < len
    · have hcx := HC.out.2 k hlt
      have HZ : Hid (∀ l, l < k → 0 ≤ z l ∧ z l ≤ 1073741822) := hz
      clear hz
      by_cases h1 : z k < 0
      · go_wp2
        go_ret
        exact ⟨rfl, Below.refl _ _⟩
      · by_cases h2 : 1073741822 < z k
        · go_wp2
          go_ret
          exact ⟨rfl, Below.refl _ _⟩
        · have hnew : Hid (∀ l, l < k + 1 → 0 ≤ z l ∧ z l ≤ 1073741822) := fun l hl => by
            by_cases e : l = k
            · subst e; omega
            · exact HZ.out l (by omega)
          by_cases h3 : tp z k < z k
          · go_wp2
            go_round
            case rel => exact ⟨k + 1, by omega, by go_num, ret_i (by simp only [tp]; rw [if_pos h3]), hnew.out⟩
            case measure => simp [intOf]; omega
          · go_wp2
            go_round
            case rel => exact ⟨k + 1, by omega, by go_num, ret_i (by simp only [tp]; rw [if_neg (by omega)]), hnew.out⟩
            case measure => simp [intOf]; omega
    · have e : k = len := by omega
      subst e
      have HZ : Hid (∀ l, l < k → 0 ≤ z l ∧ z l ≤ 1073741822) := hz
      have hm := mx_bd z k hz k (Nat.le_refl _)
      have ht := tp_mx z k
      have hm' : 0 ≤ tp z k ∧ tp z k ≤ 1073741822 := by omega
      obtain ⟨t1, t2⟩ := hm'
      obtain ⟨z1, z2⟩ := hz i hi
      clear hm hz
      have HT : Hid (mx z k = tp z k + 1) := ht
      clear ht
      go_wp2_with fail
      refine (clone_any b off k cap z _ (by omega) HC.out.1 HC.out.2).mono ?_
      rintro e w1 ⟨rfl, hrow, hbel⟩
      have HR : Hid (w1.rowIs w'.heap.size 3 k (fun i => .int .i64 (z i))) := hrow
      clear hrow
      go_wp2_with fail
      refine (inks_any w'.heap.size k k z w1 (by omega) HR.out.lt (fun i hi => HR.out.cell hi)).mono ?_
      rintro e w2 ⟨rfl, hrow2, hbel2⟩
      have HR2 : Hid (w2.rowIs w1.heap.size 51 (k * 6) (inkF z k)) := hrow2
      clear hrow2
      go_wp2_with fail
      refine (shift_any w1.heap.size k z i w2 hi (by omega) HZ.out HR2.out.lt HR2.out).mono ?_
      rintro e w3 ⟨rfl, hbel3⟩
      rw [HT.out]
      have s1 : w'.heap.size < w1.heap.size := HR.out.lt
      have s2 : w1.heap.size ≤ w2.heap.size := hbel2.size
      have hci : w3.cell? ⟨w'.heap.size, i, none⟩ = some (.int .i64 (z i)) := (hbel3.cell (by show w'.heap.size < _; omega)).trans ((hbel2.cell s1).trans (HR.out.cell hi))
      have HB : Hid (Below w'.heap.size w' w3) := hbel.trans ((hbel2.mono (by omega)).trans (hbel3.mono (by omega)))
      clear hbel hbel2 hbel3
      go_wp2
      go_ret
      exact ⟨ret_b (by rw [centre_eq]; exact beq_self_eq_true _), HB.out⟩

theorem cells_of {w : World} {x : Addr} {len cap : Nat} {zs : List Int} (h0 : 0 < len) (hl : len ≤ cap) (hz : zs.length = cap) (hc : ∀ i, i < zs.length → w.cell? (x.add i) = some (.int .i64 (zs.getD i 0))) :
    ∃ b off, x = ⟨b, off, none⟩ ∧ Cells w b off len (fun i => zs.getD i 0) := by
  obtain ⟨b, off, rfl, h⟩ := ints_at hc (by omega)
  refine ⟨b, off, rfl, ?_, fun i hi => h i (by omega)⟩
  have := h 0 (by omega)
  by_cases hb : b < w.heap.size
  · exact hb
  · have hn : w.heap[b]? = none := Array.getElem?_eq_none (by omega)
    simp [World.cell?, hn] at this

theorem centre_walk (a0 : Option Addr) (len0 cap0 : Nat) (z0 : List Int) (a1 : Int) (w : World) (w0 : IsRow .i64 w a0 len0 cap0 z0) :
    Calls Try.prog 4 #[.slice a0 len0 cap0, .int .i64 a1] w fun e w' => e = .returned (.bool true) ∧ Below w.heap.size w w' := by
  have hm : len0 ≤ maxLen := by
    rcases w0 with ⟨_, rfl, _⟩ | ⟨x, _, h1, h2, _⟩
    · exact Nat.zero_le _
    · exact Nat.le_trans h1 h2
  by_cases h : 65536 < len0 ∨ a1 < 0 ∨ (len0 : Int) ≤ a1
  · exact centre_out a0 len0 cap0 a1 w h hm
  · obtain ⟨i, rfl⟩ := Int.eq_ofNat_of_zero_le (show 0 ≤ a1 by omega)
    have hi : i < len0 := by omega
    rcases w0 with ⟨_, rfl, _⟩ | ⟨x, rfl, hl, _, hz, hc, _⟩
    · omega
    · obtain ⟨b, off, rfl, hcells⟩ := cells_of (by omega) hl hz hc
      exact centre_in b off len0 cap0 _ i w hi (by omega) hcells

end Go.Proofs.Qxb6604706a.Sh
