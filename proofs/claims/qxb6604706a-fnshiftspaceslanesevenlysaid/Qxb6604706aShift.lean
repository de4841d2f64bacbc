/-
  The walks of zzCloneInts, ZZinksOfLanes, Lanes, Shift.
-/
import Derived.Test.Qxb6604706aRows
import Derived.WalkKit
import Derived.WalkSpells
import Derived.WalkLawsBesides
import Derived.Deep.OwnRows
import Derived.Outline
import Derived.Laws.EntriesVeiled
namespace Go.Proofs.Qxb6604706a.Sh
open Go.RowKit Go.Deep

theorem info3 : (Try.prog.info? 3).map (fun i => (i.zero, i.size, i.bytes)) = some (some (.int .i64 0), 1, 8) := by kernel_rfl
theorem upd_lt (f g : Nat → Value) (k j : Nat) : (if j = k then g k else if j < k then g j else f j) = if j < k + 1 then g j else f j := by
  by_cases h1 : j = k
  · subst h1; simp
  · by_cases h2 : j < k
    · rw [if_neg h1, if_pos h2, if_pos (by omega)]
    · rw [if_neg h1, if_neg h2, if_neg (by omega)]

theorem bytes15_yes (a : Option Addr) (len cap : Nat) (i : Int) (w : World) (h : len ≤ 1048576) :
    Calls Try.prog 15 #[.slice a len cap, .int .i64 i] w fun e w' => e = .returned (.bool true) ∧ w' = w := by
  go_enter Try.func15, Try.ntmps15
  go_wp2
  go_ret
  exact ⟨rfl, rfl⟩
theorem bytes15_no (a : Option Addr) (len cap : Nat) (i : Int) (w : World) (h : 1048576 < len) :
    Calls Try.prog 15 #[.slice a len cap, .int .i64 i] w fun e w' => e = .returned (.bool false) ∧ w' = w := by
  go_enter Try.func15, Try.ntmps15
  go_wp2
  go_ret
  exact ⟨rfl, rfl⟩

set_option maxHeartbeats 400000 in
theorem clone_any (b off len cap : Nat) (z : Nat → Int) (w : World) (hlen : len ≤ 1048576) (hb : b < w.heap.size) (hc : ∀ i, i < len → w.cell? ⟨b, off + i, none⟩ = some (.int .i64 (z i))) :
    Calls Try.prog 16 #[.slice (some ⟨b, off, none⟩) len cap] w fun e w' => e = .returned (.slice (some ⟨w.heap.size, 0, none⟩) len len) ∧ w'.rowIs w.heap.size 3 len (fun i => .int .i64 (z i)) ∧ Below w.heap.size w w' := by
  have hmk := run_make_row' (P := Try.prog) 30 3 (.int .i64 0) 8 Try.underlying30 info3 rfl .i64 .i64 len (by omega) (by omega)
  have hnil := fun w => Lib.run_eql_slice_nil (P := Try.prog) w 30 3 (some ⟨b, off, none⟩) len cap 0 0 Try.underlying30
  go_enter Try.func16, Try.ntmps16
  go_wp2
  go_loopw [4] (fun i wr => ∃ k : Nat, k ≤ len ∧ i = .int .i64 k ∧ wr.rowIs w.heap.size 3 len (fun j => if j < k then .int .i64 (z j) else .int .i64 0) ∧ Below w.heap.size w wr) (fun i _ => len - (intOf i).toNat)
  case atStart => exact ⟨0, Nat.zero_le _, rfl, (World.rowIs_made _ _ _ _).congr (by intro i hi; simp), (Below.refl _ _).alloc (Nat.le_refl _) _⟩
  case round =>
    obtain ⟨k, hk, rfl, hrow, hbel⟩ := hrel
    by_cases hlt : k < len
    · have hcx : wr.cell? ⟨b, off + k, none⟩ = some (.int .i64 (z k)) := (hbel.cell (by exact hb)).trans (hc k hlt)
      have hcy := hrow.cell hlt
      have hfy := hrow.frozen k
      have HR : Hid (wr.rowIs w.heap.size 3 len (fun j => if j < k then .int .i64 (z j) else .int .i64 0)) := hrow
      clear hrow hc hmk hnil
      go_wp2
      go_roundw
      case rel => exact ⟨k + 1, by omega, by go_num, (HR.out.set k _).congr (fun j _ => upd_lt (fun _ => .int .i64 0) (fun j => .int .i64 (z j)) k j), hbel.setCell (by simp) _⟩
      case measure => simp [intOf]; omega
    · go_wp2
      go_ret
      exact ⟨rfl, hrow.congr (by intro j hj; simp; omega), hbel⟩

/-! ### The inks -/
def zero51 : Value := .agg #[.string ByteArray.empty, .string ByteArray.empty, .nilFunc, .bool false, .int .i64 0, .bool false]
def zc51 : Array Value := #[.string ByteArray.empty, .string ByteArray.empty, .nilFunc, .bool false, .int .i64 0, .bool false]
theorem info51' : (Try.prog.info? 51).map (fun i => (i.zero, i.size, i.bytes)) = some (some zero51, 6, 64) := by kernel_rfl
/-- The cells of a row of inks of which the first k bear their lane. -/
def inkF (z : Nat → Int) (k j : Nat) : Value :=
  if j % 6 = 4 then .int .i64 (if j / 6 < k then z (j / 6) else 0) else if j % 6 = 2 then .nilFunc else if j % 6 ≤ 1 then .string ByteArray.empty else .bool false

theorem run_make_inks (n : Nat) (h : n ≤ 1048576) (w : World) :
    (Instr.makeSlice 35 (.int .i64 (n : Int)) (.int .i64 (n : Int))).run Try.prog w = .ok (.slice (some ⟨w.heap.size, 0, none⟩) n n) (w.alloc (.cells (madeCells zc51 (n * 6)) 51)) := by
  obtain ⟨i, hi, hzz⟩ := Option.map_eq_some_iff.1 info51'
  simp only [Prod.mk.injEq] at hzz
  obtain ⟨hz, hs, hb⟩ := hzz
  have hr := run_make (P := Try.prog) w 35 51 i zero51 Try.underlying35 hi hz .i64 .i64 n n (by omega) (Int.le_refl _) (by rw [hb]; omega) (by omega)
  rw [hs, show zero51.cells = zc51 from rfl] at hr
  simpa using hr

theorem made_inks (z : Nat → Int) (w : World) (n : Nat) : (w.alloc (.cells (madeCells zc51 (n * 6)) 51)).rowIs w.heap.size 51 (n * 6) (inkF z 0) := by
  refine ⟨_, blk_alloc_new _ _, size_madeCells _ _, fun i hi => ?_⟩
  have hm : i % 6 < 6 := Nat.mod_lt _ (by omega)
  have e : zc51 = #[.string ByteArray.empty, .string ByteArray.empty, .nilFunc, .bool false, .int .i64 0, .bool false] := rfl
  rw [e]
  have hs : (#[Value.string ByteArray.empty, .string ByteArray.empty, .nilFunc, .bool false, .int .i64 0, .bool false] : Array Value).size = 6 := rfl
  simp only [madeCells, hs, Array.getElem?_map, Array.getElem?_range, hi, if_true, Option.map_some, inkF]
  rcases (show i % 6 = 0 ∨ i % 6 = 1 ∨ i % 6 = 2 ∨ i % 6 = 3 ∨ i % 6 = 4 ∨ i % 6 = 5 by omega) with h | h | h | h | h | h <;> simp [h]

theorem ink_upd (z : Nat → Int) (k j : Nat) : (if j = k * 6 + 4 then .int .i64 (z k) else inkF z k j) = inkF z (k + 1) j := by
  unfold inkF
  by_cases h1 : j = k * 6 + 4
  · subst h1
    rw [if_pos rfl, if_pos (by omega), if_pos (by omega)]
    congr 2
    omega
  · rw [if_neg h1]
    by_cases h4 : j % 6 = 4
    · rw [if_pos h4, if_pos h4]
      congr 1
      by_cases h2 : j / 6 < k
      · rw [if_pos h2, if_pos (by omega)]
      · rw [if_neg h2, if_neg (by omega)]
    · rw [if_neg h4, if_neg h4]

theorem ink_lane (z : Nat → Int) (n k : Nat) (h : k < n) : inkF z n (k * 6 + 4) = .int .i64 (z k) := by
  unfold inkF
  rw [if_pos (by omega)]
  have e : (k * 6 + 4) / 6 = k := by omega
  rw [e, if_pos h]

set_option maxHeartbeats 400000 in
theorem inks_any (b len cap : Nat) (z : Nat → Int) (w : World) (hlen : len ≤ 1048576) (hb : b < w.heap.size) (hc : ∀ i, i < len → w.cell? ⟨b, i, none⟩ = some (.int .i64 (z i))) :
    Calls Try.prog 18 #[.slice (some ⟨b, 0, none⟩) len cap] w fun e w' => e = .returned (.slice (some ⟨w.heap.size, 0, none⟩) len len) ∧ w'.rowIs w.heap.size 51 (len * 6) (inkF z len) ∧ Below w.heap.size w w' := by
  have hmk := run_make_inks len hlen
  go_enter Try.func18, Try.ntmps18
  go_wp2
  go_loopw [10] (fun i wr => ∃ k : Nat, k ≤ len ∧ i = .int .i64 k ∧ wr.rowIs w.heap.size 51 (len * 6) (inkF z k) ∧ Below w.heap.size w wr) (fun i _ => len - (intOf i).toNat)
  case atStart => exact ⟨0, Nat.zero_le _, rfl, made_inks z w len, (Below.refl _ _).alloc (Nat.le_refl _) _⟩
  case round =>
    obtain ⟨k, hk, rfl, hrow, hbel⟩ := hrel
    by_cases hlt : k < len
    · have hcx : wr.cell? ⟨b, k, none⟩ = some (.int .i64 (z k)) := (hbel.cell (by exact hb)).trans (hc k hlt)
      have hcy := hrow.cell (i := k * 6 + 4) (by omega)
      have hfy := hrow.frozen (k * 6 + 4)
      have HR : Hid (wr.rowIs w.heap.size 51 (len * 6) (inkF z k)) := hrow
      clear hrow hc hmk
      go_wp2
      go_roundw
      case rel => exact ⟨k + 1, by omega, by go_num, (HR.out.set (k * 6 + 4) _).congr (fun j _ => ink_upd z k j), hbel.setCell (by simp) _⟩
      case measure => simp [intOf]; omega
    · go_wp2
      go_ret
      have e : k = len := by omega
      subst e
      exact ⟨rfl, hrow, hbel⟩


theorem ret_i {k : IntKind} {a b : Int} (h : a = b) : Value.int k a = .int k b := by rw [h]

/-- 1 + the greatest of 0 and the first k lanes. -/
def mx (z : Nat → Int) : Nat → Int
  | 0 => 1
  | k + 1 => max (mx z k) (z k + 1)

theorem mx_bd (z : Nat → Int) (n : Nat) (h : ∀ i, i < n → 0 ≤ z i ∧ z i ≤ 1073741822) : ∀ k, k ≤ n → 1 ≤ mx z k ∧ mx z k ≤ 1073741823
  | 0, _ => by simp [mx]
  | k + 1, hk => by
    have := mx_bd z n h k (by omega)
    have := h k (by omega)
    simp only [mx]
    omega

theorem ink_at (z : Nat → Int) (n k : Nat) (h : k < n) (w : World) (G : Nat) (hr : w.rowIs G 51 (n * 6) (inkF z n)) :
    w.cell? ⟨G, k * 6, none⟩ = some (.string ByteArray.empty) ∧ w.cell? ⟨G, k * 6 + 1, none⟩ = some (.string ByteArray.empty) ∧ w.cell? ⟨G, k * 6 + 2, none⟩ = some .nilFunc ∧
    w.cell? ⟨G, k * 6 + 3, none⟩ = some (.bool false) ∧ w.cell? ⟨G, k * 6 + 4, none⟩ = some (.int .i64 (z k)) ∧ w.cell? ⟨G, k * 6 + 5, none⟩ = some (.bool false) := by
  have e : ∀ d, d < 6 → w.cell? ⟨G, k * 6 + d, none⟩ = some (inkF z n (k * 6 + d)) := fun d hd => hr.cell (by omega)
  have m : ∀ d, d < 6 → (k * 6 + d) % 6 = d := fun d hd => by omega
  refine ⟨?_, ?_, ?_, ?_, ?_, ?_⟩
  · have := e 0 (by omega); rw [Nat.add_zero] at this; rw [this]; unfold inkF; have := m 0 (by omega); simp at this; simp
  · rw [e 1 (by omega)]; unfold inkF; simp
  · rw [e 2 (by omega)]; unfold inkF; simp
  · rw [e 3 (by omega)]; unfold inkF; simp
  · rw [e 4 (by omega), ink_lane z n k h]
  · rw [e 5 (by omega)]; unfold inkF; simp

set_option maxHeartbeats 400000 in
theorem lanes_any (G len : Nat) (z : Nat → Int) (w : World) (hlen : len ≤ 1048576) (hz : ∀ i, i < len → 0 ≤ z i ∧ z i ≤ 1073741822) (hb : G < w.heap.size) (hr : w.rowIs G 51 (len * 6) (inkF z len)) :
    Calls Try.prog 25 #[.slice (some ⟨G, 0, none⟩) len len] w fun e w' => e = .returned (.int .i64 (mx z len)) ∧ Below w.heap.size w w' := by
  have HR : Hid (w.rowIs G 51 (len * 6) (inkF z len)) := hr
  have HZ : Hid (∀ i, i < len → 0 ≤ z i ∧ z i ≤ 1073741822) := hz
  clear hr hz
  go_enter Try.func25, Try.ntmps25
  go_wp2
  go_loopw [3, 8] (fun l i wr => ∃ k : Nat, k ≤ len ∧ i = .int .i64 k ∧ l = .int .i64 (mx z k) ∧ Below w.heap.size w wr) (fun _ i _ => len - (intOf i).toNat)
  case atStart => exact ⟨0, Nat.zero_le _, rfl, rfl, Below.refl _ _⟩
  case round =>
    obtain ⟨k, hk, rfl, rfl, hbel⟩ := hrel
    by_cases hlt : k < len
    · obtain ⟨z1, z2⟩ := HZ.out k hlt
      obtain ⟨m1, m2⟩ := mx_bd z len HZ.out k hk
      obtain ⟨c0, c1, c2, c3, c4, c5⟩ := ink_at z len k hlt wr G (HR.out.of_block (hbel.block G hb))
      go_wp2
      go_roundw
      case rel => exact ⟨k + 1, by omega, by go_num, ret_i (by simp only [mx]; split <;> omega), hbel.alloc (by have := hbel.size; omega) _⟩
      case measure => simp [intOf]; omega
    · have e : k = len := by omega
      subst e
      go_wp2
      go_ret
      exact ⟨rfl, hbel⟩

set_option maxHeartbeats 400000 in
theorem shift_any (G len : Nat) (z : Nat → Int) (i : Nat) (w : World) (hi : i < len) (hlen : len ≤ 1048576) (hz : ∀ i, i < len → 0 ≤ z i ∧ z i ≤ 1073741822) (hb : G < w.heap.size) (hr : w.rowIs G 51 (len * 6) (inkF z len)) :
    Calls Try.prog 17 #[.slice (some ⟨G, 0, none⟩) len len, .int .i64 (i : Int)] w fun e w' => e = .returned (.tuple #[.int .i64 (2 * z i - (mx z len - 1)), .int .i64 (2 * mx z len)]) ∧ Below w.heap.size w w' := by
  have HL : Hid (∀ w : World, G < w.heap.size → w.rowIs G 51 (len * 6) (inkF z len) → Calls Try.prog 25 #[.slice (some ⟨G, 0, none⟩) len len] w fun e w' => e = .returned (.int .i64 (mx z len)) ∧ Below w.heap.size w w') := fun w hb hr => lanes_any G len z w hlen hz hb hr
  obtain ⟨z1, z2⟩ := hz i hi
  obtain ⟨m1, m2⟩ := mx_bd z len hz len (Nat.le_refl _)
  have HR : Hid (w.rowIs G 51 (len * 6) (inkF z len)) := hr
  clear hr hz
  go_enter Try.func17, Try.ntmps17
  go_wp2_with fail
  refine (HL.out _ hb HR.out).mono ?_
  rintro e w1 ⟨rfl, hbel⟩
  obtain ⟨c0, c1, c2, c3, c4, c5⟩ := ink_at z len i hi w1 G (HR.out.of_block (hbel.block G hb))
  clear c0 c1 c2 c3 c5
  go_wp2
  go_ret2
  exact ⟨rfl, hbel⟩

end Go.Proofs.Qxb6604706a.Sh
