/-
  The walks of ZZToEntries, zzOut, ZZFromEntries.
-/
import Derived.Test.Qxb6003312aRand
import Derived.Outline
namespace Go.Proofs.Qxb6003312a
open Go.RowKit Go.Deep

theorem info55 : (Try.prog.info? 55).map (fun i => (i.zero, i.size, i.bytes)) = some (some (.agg #[.int .i64 0, .int .i64 0]), 2, 16) := by kernel_rfl
theorem info33 : (Try.prog.info? 33).map (fun i => (i.zero, i.size, i.bytes)) = some (some (.agg #[.int .i64 0, .int .i64 0]), 2, 16) := by kernel_rfl

def zc2 : Array Value := #[.int .i64 0, .int .i64 0]

theorem run_make_pairs (t e : TypeId) (ht : Try.prog.underlying t = some (.slice e)) (he : (Try.prog.info? e).map (fun i => (i.zero, i.size, i.bytes)) = some (some (.agg #[.int .i64 0, .int .i64 0]), 2, 16)) (n : Nat) (h : n ≤ 1048576) (w : World) :
    (Instr.makeSlice t (.int .i64 (n : Int)) (.int .i64 (n : Int))).run Try.prog w = .ok (.slice (some ⟨w.heap.size, 0, none⟩) n n) (w.alloc (.cells (madeCells zc2 (n * 2)) e)) := by
  obtain ⟨i, hi, hzz⟩ := Option.map_eq_some_iff.1 he
  simp only [Prod.mk.injEq] at hzz
  obtain ⟨hz, hs, hb⟩ := hzz
  have hr := run_make (P := Try.prog) w t e i _ ht hi hz .i64 .i64 n n (by omega) (Int.le_refl _) (by rw [hb]; omega) (by omega)
  rw [hs, show (Value.agg #[.int .i64 0, .int .i64 0]).cells = zc2 from rfl] at hr
  simpa using hr

theorem made_pairs (E : Nat → Int × Int) (w : World) (n : Nat) (t : TypeId) : HeadIs (w.alloc (.cells (madeCells zc2 (n * 2)) t)) w.heap.size t (n * 2) (entF (fun j => if j < 0 then E j else (0, 0))) := by
  refine ⟨_, blk_alloc_new _ _, Nat.le_of_eq (size_madeCells _ _).symm, fun i hi => ?_⟩
  have e : zc2 = #[.int .i64 0, .int .i64 0] := rfl
  have hs : (#[Value.int .i64 0, .int .i64 0] : Array Value).size = 2 := rfl
  rw [e]
  simp only [madeCells, hs, Array.getElem?_map, Array.getElem?_range, hi, if_true, Option.map_some, entF]
  rcases (show i % 2 = 0 ∨ i % 2 = 1 by omega) with h | h <;> simp [h]

theorem ent_upd (E : Nat → Int × Int) (k : Nat) : (fun j => if j = k then ((E k).1, (E k).2) else if j < k then E j else (0, 0)) = fun j => if j < k + 1 then E j else (0, 0) := by
  funext j
  by_cases h1 : j = k
  · subst h1; rw [if_pos rfl, if_pos (by omega)]
  · rw [if_neg h1]
    by_cases h2 : j < k
    · rw [if_pos h2, if_pos (by omega)]
    · rw [if_neg h2, if_neg (by omega)]

theorem to_nil (w : World) : Calls Try.prog 6 #[.slice none 0 0] w fun e w' => e = .returned (.slice none 0 0) ∧ w' = w := by
  have hnil := fun w => Lib.run_eql_slice_nil (P := Try.prog) w 22 33 none 0 0 0 0 Try.underlying22
  go_enter Try.func6, Try.ntmps6
  go_wp2
  go_ret
  exact ⟨rfl, rfl⟩

set_option maxHeartbeats 1000000 in
theorem to_some (x : Addr) (n cap : Nat) (E : Nat → Int × Int) (w : World) (hn : n ≤ 4096) (h : Ents w (some x) n E) :
    Calls Try.prog 6 #[.slice (some x) n cap] w fun e w' => e = .returned (.slice (some ⟨w.heap.size, 0, none⟩) n n) ∧ HeadIs w' w.heap.size 55 (n * 2) (entF E) ∧ Kp All w w' := by
  have HE : Hid (Ents w (some x) n E) := h
  clear h
  have hmk := run_make_pairs 24 55 Try.underlying24 info55 n (by omega)
  have hnil := fun w => Lib.run_eql_slice_nil (P := Try.prog) w 22 33 (some x) n cap 0 0 Try.underlying22
  go_enter Try.func6, Try.ntmps6
  go_wp2
  go_loopw [13] (fun i wr => ∃ k : Nat, k ≤ n ∧ i = .int .i64 k ∧ Hid (HeadIs wr w.heap.size 55 (n * 2) (entF (fun j => if j < k then E j else (0, 0))) ∧ Kp All w wr)) (fun i _ => n - (intOf i).toNat)
  case atStart => exact ⟨0, Nat.zero_le _, rfl, made_pairs E w n 55, (Kp.refl _ _).alloc _⟩
  case round =>
    obtain ⟨k, hk, rfl, HR⟩ := hrel
    clear hmk hnil
    by_cases hlt : k < n
    · rcases HE.out with h0 | ⟨b, off, hx, hb, hc⟩
      · omega
      · obtain rfl : x = ⟨b, off, none⟩ := by injection hx
        clear hx
        obtain ⟨e1, e2⟩ := hc k hlt
        have c1 : wr.cell? ⟨b, off + k * 2, none⟩ = some (.int .i64 (E k).1) := (HR.out.2.cell (by exact hb) trivial).trans e1
        have c2 : wr.cell? ⟨b, off + k * 2 + 1, none⟩ = some (.int .i64 (E k).2) := (HR.out.2.cell (by exact hb) trivial).trans e2
        have hlt2 : w.heap.size < wr.heap.size := HR.out.1.lt
        have d1 := (HR.out.1.ent hlt).1
        have d2 := (HR.out.1.ent hlt).2
        have f1 := HR.out.1.frozen (k * 2)
        have f2 := HR.out.1.frozen (k * 2 + 1)
        clear e1 e2 hc
        go_wp2
        go_roundw
        case rel => exact ⟨k + 1, by omega, by go_num, ((HR.out.1.putEnt k _ _).congr (fun j _ => by rw [ent_upd])).alloc _, ((HR.out.2.setCell (fun h => absurd h (Nat.lt_irrefl _)) _).setCell (fun h => absurd h (Nat.lt_irrefl _)) _).alloc _⟩
        case measure => simp [intOf]; omega
    · go_wp2
      go_ret
      exact ⟨rfl, HR.out.1.congr (fun i hi => by unfold entF; dsimp only; rw [if_pos (show i / 2 < k by omega)]), HR.out.2⟩

theorem out_nil (w : World) : Calls Try.prog 25 #[.slice none 0 0] w fun e w' => e = .returned (.slice none 0 0) ∧ w' = w := by
  have hnil := fun w => Lib.run_eql_slice_nil (P := Try.prog) w 24 55 none 0 0 0 0 Try.underlying24
  go_enter Try.func25, Try.ntmps25
  go_wp2
  go_ret
  exact ⟨rfl, rfl⟩

set_option maxHeartbeats 1000000 in
theorem out_some (x : Addr) (n cap : Nat) (E : Nat → Int × Int) (w : World) (hn : n ≤ 4096) (h : Ents w (some x) n E) :
    Calls Try.prog 25 #[.slice (some x) n cap] w fun e w' => e = .returned (.slice (some ⟨w.heap.size, 0, none⟩) n n) ∧ HeadIs w' w.heap.size 33 (n * 2) (entF E) ∧ Kp All w w' := by
  have HE : Hid (Ents w (some x) n E) := h
  clear h
  have hmk := run_make_pairs 22 33 Try.underlying22 info33 n (by omega)
  have hnil := fun w => Lib.run_eql_slice_nil (P := Try.prog) w 24 55 (some x) n cap 0 0 Try.underlying24
  go_enter Try.func25, Try.ntmps25
  go_wp2
  go_loopw [13] (fun i wr => ∃ k : Nat, k ≤ n ∧ i = .int .i64 k ∧ Hid (HeadIs wr w.heap.size 33 (n * 2) (entF (fun j => if j < k then E j else (0, 0))) ∧ Kp All w wr)) (fun i _ => n - (intOf i).toNat)
  case atStart => exact ⟨0, Nat.zero_le _, rfl, made_pairs E w n 33, (Kp.refl _ _).alloc _⟩
  case round =>
    obtain ⟨k, hk, rfl, HR⟩ := hrel
    clear hmk hnil
    by_cases hlt : k < n
    · rcases HE.out with h0 | ⟨b, off, hx, hb, hc⟩
      · omega
      · obtain rfl : x = ⟨b, off, none⟩ := by injection hx
        clear hx
        obtain ⟨e1, e2⟩ := hc k hlt
        have c1 : wr.cell? ⟨b, off + k * 2, none⟩ = some (.int .i64 (E k).1) := (HR.out.2.cell (by exact hb) trivial).trans e1
        have c2 : wr.cell? ⟨b, off + k * 2 + 1, none⟩ = some (.int .i64 (E k).2) := (HR.out.2.cell (by exact hb) trivial).trans e2
        have hlt2 : w.heap.size < wr.heap.size := HR.out.1.lt
        have d1 := (HR.out.1.ent hlt).1
        have d2 := (HR.out.1.ent hlt).2
        have f1 := HR.out.1.frozen (k * 2)
        have f2 := HR.out.1.frozen (k * 2 + 1)
        clear e1 e2 hc
        go_wp2
        go_roundw
        case rel => exact ⟨k + 1, by omega, by go_num, ((HR.out.1.putEnt k _ _).congr (fun j _ => by rw [ent_upd])).alloc _, ((HR.out.2.setCell (fun h => absurd h (Nat.lt_irrefl _)) _).setCell (fun h => absurd h (Nat.lt_irrefl _)) _).alloc _⟩
        case measure => simp [intOf]; omega
    · go_wp2
      go_ret
      exact ⟨rfl, HR.out.1.congr (fun i hi => by unfold entF; dsimp only; rw [if_pos (show i / 2 < k by omega)]), HR.out.2⟩

theorem from_nil (w : World) : Calls Try.prog 7 #[.slice none 0 0] w fun e w' => e = .returned (.slice none 0 0) ∧ w' = w := by
  go_enter Try.func7, Try.ntmps7
  go_wp2_with (go_at_call 25; refine (out_nil _).mono ?_; rintro e w' ⟨rfl, rfl⟩)
  go_ret
  exact ⟨rfl, rfl⟩

theorem from_some (x : Addr) (n cap : Nat) (E : Nat → Int × Int) (w : World) (hn : n ≤ 4096) (h : Ents w (some x) n E) :
    Calls Try.prog 7 #[.slice (some x) n cap] w fun e w' => e = .returned (.slice (some ⟨w.heap.size, 0, none⟩) n n) ∧ HeadIs w' w.heap.size 33 (n * 2) (entF E) ∧ Kp All w w' := by
  have HE : Hid (Ents w (some x) n E) := h
  clear h
  go_enter Try.func7, Try.ntmps7
  go_wp2_with fail
  refine (out_some x n cap E _ hn HE.out).mono ?_
  rintro e w1 ⟨rfl, hh⟩
  have HH : Hid (HeadIs w1 w.heap.size 33 (n * 2) (entF E) ∧ Kp All w w1) := hh
  clear hh
  go_wp2
  go_ret
  exact ⟨rfl, HH.out⟩

end Go.Proofs.Qxb6003312a
