/-
  The walk of FnShiftSpacesLanesEvenly.
-/
import Derived.Test.Qxb6604706aLawC
import Derived.Deep.QuietTactic
import Derived.BigQuiet
namespace Go.Proofs.Qxb6604706a.Sh
open Go.RowKit Go.Deep Go.ChangeShapes Go.WideShapes

theorem bytes19_yes (a : Option Addr) (len cap : Nat) (i : Int) (w : World) (h : len ≤ 1048576) :
    Calls Try.prog 19 #[.slice a len cap, .int .i64 i] w fun e w' => e = .returned (.bool true) ∧ w' = w := by
  go_enter Try.func19, Try.ntmps19
  go_wp2
  go_ret
  exact ⟨rfl, rfl⟩
theorem bytes19_no (a : Option Addr) (len cap : Nat) (i : Int) (w : World) (h : 1048576 < len) :
    Calls Try.prog 19 #[.slice a len cap, .int .i64 i] w fun e w' => e = .returned (.bool false) ∧ w' = w := by
  go_enter Try.func19, Try.ntmps19
  go_wp2
  go_ret
  exact ⟨rfl, rfl⟩

theorem even_eq (x y t : Int) : (wrap64 ((2 * x - t - (2 * y - t)) * (t + 1)) != wrap64 ((x - y) * (2 * (t + 1)))) = false := by
  have e : 2 * x - t - (2 * y - t) = (x - y) * 2 := by omega
  rw [e, Int.mul_assoc]
  exact bne_self_eq_false _

theorem tp_le (z : Nat → Int) : ∀ k l, l < k → z l ≤ tp z k
  | k + 1, l, h => by
    simp only [tp]
    by_cases e : l = k
    · subst e; split <;> omega
    · have := tp_le z k l (by omega)
      split <;> omega

/-- The early ways out: the law's own guards. -/
theorem even_out (a : Option Addr) (len cap : Nat) (i : Int) (w : World) (h : 1024 < len ∨ i < 0 ∨ (len : Int) ≤ i) (hm : len ≤ maxLen) :
    Calls Try.prog 5 #[.slice a len cap, .int .i64 i] w fun e w' => e = .returned (.bool true) ∧ Below w.heap.size w w' := by
  unfold maxLen at hm
  by_cases h1 : 1048576 < len
  · go_enter Try.func5, Try.ntmps5
    go_wp2_with (go_at_call 19; refine (bytes19_no _ _ _ _ _ h1).mono ?_; rintro e w' ⟨rfl, rfl⟩)
    go_ret
    exact ⟨rfl, Below.refl _ _⟩
  · have h1' : len ≤ 1048576 := by omega
    by_cases h2 : 1024 < len
    · clear h1 h
      go_enter Try.func5, Try.ntmps5
      go_wp2_with (go_at_call 19; refine (bytes19_yes _ _ _ _ _ h1').mono ?_; rintro e w' ⟨rfl, rfl⟩)
      go_ret
      exact ⟨rfl, Below.refl _ _⟩
    · by_cases h3 : i < 0
      · clear h1 h
        go_enter Try.func5, Try.ntmps5
        go_wp2_with (go_at_call 19; refine (bytes19_yes _ _ _ _ _ h1').mono ?_; rintro e w' ⟨rfl, rfl⟩)
        go_ret
        exact ⟨rfl, Below.refl _ _⟩
      · have h4 : (len : Int) ≤ i := by omega
        clear h1 h
        go_enter Try.func5, Try.ntmps5
        go_wp2_with (go_at_call 19; refine (bytes19_yes _ _ _ _ _ h1').mono ?_; rintro e w' ⟨rfl, rfl⟩)
        go_ret
        exact ⟨rfl, Below.refl _ _⟩

set_option maxHeartbeats 1000000 in
theorem even_in (b off len cap : Nat) (z : Nat → Int) (i : Nat) (w : World) (hi : i < len) (hlen : len ≤ 1024) (hc : Cells w b off len z) :
    Calls Try.prog 5 #[.slice (some ⟨b, off, none⟩) len cap, .int .i64 (i : Int)] w fun e w' => e = .returned (.bool true) ∧ Below w.heap.size w w' := by
  have HC : Hid (Cells w b off len z) := hc
  clear hc
  go_enter Try.func5, Try.ntmps5
  go_wp2_with (go_at_call 19; refine (bytes19_yes _ _ _ _ _ (by omega)).mono ?_; rintro e w' ⟨rfl, rfl⟩)
  go_loop [5, 6] (fun t j => ∃ k : Nat, k ≤ len ∧ j = .int .i64 k ∧ t = .int .i64 (tp z k) ∧ ∀ l, l < k → 0 ≤ z l ∧ z l ≤ 1073741822) (fun _ j => len - (intOf j).toNat)
  case atStart => exact ⟨0, Nat.zero_le _, rfl, rfl, fun l hl => by omega⟩
  case round =>
    obtain ⟨k, hk, rfl, rfl, hz⟩ := hrel
    by_cases hlt : k < len
    · have hcx := HC.out.2 k hlt
      have HZ : Hid (∀ l, l < k → 0 ≤ z l ∧ z l ≤ 1073741822) := hz
      clear hz
      by_cases h1 : z k < 0
      · go_wp2
        go_ret
        exact ⟨rfl, Below.refl _ _⟩
      · by_cases h2 : 1073741822 < z k
        · go_wp2
          go_ret
          exact ⟨rfl, Below.refl _ _⟩
        · have hnew : Hid (∀ l, l < k + 1 → 0 ≤ z l ∧ z l ≤ 1073741822) := fun l hl => by
            by_cases e : l = k
            · subst e; omega
            · exact HZ.out l (by omega)
          by_cases h3 : tp z k < z k
          · go_wp2
            go_round
            case rel => exact ⟨k + 1, by omega, by go_num, ret_i (by simp only [tp]; rw [if_pos h3]), hnew.out⟩
            case measure => simp [intOf]; omega
          · go_wp2
            go_round
            case rel => exact ⟨k + 1, by omega, by go_num, ret_i (by simp only [tp]; rw [if_neg (by omega)]), hnew.out⟩
            case measure => simp [intOf]; omega
    · have e : k = len := by omega
      subst e
      have HZ : Hid (∀ l, l < k → 0 ≤ z l ∧ z l ≤ 1073741822) := hz
      have hm := mx_bd z k hz k (Nat.le_refl _)
      have ht := tp_mx z k
      have hm' : 0 ≤ tp z k ∧ tp z k ≤ 1073741822 := by omega
      obtain ⟨t1, t2⟩ := hm'
      obtain ⟨z1, z2⟩ := hz i hi
      clear hm hz
      have HT : Hid (mx z k = tp z k + 1) := ht
      clear ht
      go_wp2_with fail
      refine (clone_any b off k cap z _ (by omega) HC.out.1 HC.out.2).mono ?_
      rintro e w1 ⟨rfl, hrow, hbel⟩
      have HR : Hid (w1.rowIs w'.heap.size 3 k (fun i => .int .i64 (z i))) := hrow
      clear hrow
      go_wp2_with fail
      refine (inks_any w'.heap.size k k z w1 (by omega) HR.out.lt (fun i hi => HR.out.cell hi)).mono ?_
      rintro e w2 ⟨rfl, hrow2, hbel2⟩
      have HR2 : Hid (w2.rowIs w1.heap.size 51 (k * 6) (inkF z k)) := hrow2
      clear hrow2
      go_wp2_with fail
      refine (shift_any w1.heap.size k z i w2 hi (by omega) HZ.out HR2.out.lt HR2.out).mono ?_
      rintro e w3 ⟨rfl, hbel3⟩
      rw [HT.out]
      have s1 : w'.heap.size < w1.heap.size := HR.out.lt
      have s2 : w1.heap.size < w2.heap.size := HR2.out.lt
      have HB0 : Hid (Below w'.heap.size w' w2) := hbel.trans (hbel2.mono (by omega))
      have HB2 : Hid (Below w1.heap.size w1 w2) := hbel2
      clear hbel hbel2
      have HTP : Hid (∀ l, l < k → z l ≤ tp z k) := fun l hl => tp_le z k l hl
      go_wp2
      go_loopw [11] (fun j wr => ∃ m : Nat, m ≤ k ∧ j = .int .i64 m ∧ Below w2.heap.size w2 wr) (fun j _ => k - (intOf j).toNat)
      case atStart => exact ⟨0, Nat.zero_le _, rfl, hbel3⟩
      case round =>
        clear hbel3
        obtain ⟨m, hm, rfl, hbl⟩ := hrel
        by_cases hmlt : m < k
        · obtain ⟨y1, y2⟩ := HZ.out m hmlt
          have y3 := HTP.out m hmlt
          have HBL : Hid (Below w2.heap.size w2 wr) := hbl
          clear hbl
          go_wp2_with fail
          refine (shift_any w1.heap.size k z m wr hmlt (by omega) HZ.out (by have := HBL.out.size; omega) (HR2.out.of_block (HBL.out.block _ s2))).mono ?_
          rintro e w4 ⟨rfl, hb4⟩
          rw [HT.out]
          have HB4 : Hid (Below w2.heap.size w2 w4) := HBL.out.trans (hb4.mono (by exact HBL.out.size))
          clear hb4
          have lane : ∀ q, q < k → w4.cell? ⟨w'.heap.size, q, none⟩ = some (.int .i64 (z q)) := fun q hq => (HB4.out.cell (by show w'.heap.size < _; omega)).trans ((HB2.out.cell s1).trans (HR.out.cell hq))
          have l1 := lane m hmlt
          have l2 := lane i hi
          clear lane
          have htest := even_eq (z m) (z i) (tp z k)
          by_cases hneg : 2 * z m - tp z k < 0
          · go_wp2
            go_quiet (fail)
            go_wp2
            go_roundw
            case rel => exact ⟨m + 1, by omega, by go_num, below_drewN HB4.out _⟩
            case measure => simp [intOf]; omega
          · go_wp2
            go_quiet (fail)
            go_wp2
            go_roundw
            case rel => exact ⟨m + 1, by omega, by go_num, below_drewN HB4.out _⟩
            case measure => simp [intOf]; omega
        · go_wp2
          go_ret
          exact ⟨rfl, HB0.out.trans (hbl.mono (by omega))⟩

theorem even_walk (a0 : Option Addr) (len0 cap0 : Nat) (z0 : List Int) (a1 : Int) (w : World) (w0 : IsRow .i64 w a0 len0 cap0 z0) :
    Calls Try.prog 5 #[.slice a0 len0 cap0, .int .i64 a1] w fun e w' => e = .returned (.bool true) ∧ Below w.heap.size w w' := by
  have hm : len0 ≤ maxLen := by
    rcases w0 with ⟨_, rfl, _⟩ | ⟨x, _, h1, h2, _⟩
    · exact Nat.zero_le _
    · exact Nat.le_trans h1 h2
  by_cases h : 1024 < len0 ∨ a1 < 0 ∨ (len0 : Int) ≤ a1
  · exact even_out a0 len0 cap0 a1 w h hm
  · obtain ⟨i, rfl⟩ := Int.eq_ofNat_of_zero_le (show 0 ≤ a1 by omega)
    have hi : i < len0 := by omega
    rcases w0 with ⟨_, rfl, _⟩ | ⟨x, rfl, hl, _, hz, hc, _⟩
    · omega
    · obtain ⟨b, off, rfl, hcells⟩ := cells_of (by omega) hl hz hc
      exact even_in b off len0 cap0 _ i w hi (by omega) hcells

end Go.Proofs.Qxb6604706a.Sh
