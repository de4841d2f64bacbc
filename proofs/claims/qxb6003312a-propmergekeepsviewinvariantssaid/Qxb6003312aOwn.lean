/-
  ZZToEntries once more: the new row, its room with it. The nodes' ids that were sent.
-/
import Derived.Test.Qxb6003312aAsk
namespace Go.Proofs.Qxb6003312a
open Go.RowKit Go.Deep

theorem made_own (E : Nat → Int × Int) (w : World) (n : Nat) (t : TypeId) (hn : n ≤ maxLen) : OwnE (w.alloc (.cells (madeCells zc2 (n * 2)) t)) t w.heap.size n n (fun j => if j < 0 then E j else (0, 0)) := by
  obtain ⟨c, hb, _, hc⟩ := made_pairs E w n t
  have hb' : (w.alloc (.cells (madeCells zc2 (n * 2)) t)).heap[w.heap.size]? = some (.cells (madeCells zc2 (n * 2)) t (0, 0)) := blk_alloc_new _ _
  rw [hb'] at hb
  simp at hb
  exact ⟨_, hb', Nat.le_refl _, hn, size_madeCells _ _, fun i hi => by rw [hb]; exact hc i hi⟩

set_option maxHeartbeats 1000000 in
theorem to_own (x : Addr) (n cap : Nat) (E : Nat → Int × Int) (w : World) (hn : n ≤ 4096) (h : Ents w (some x) n E) :
    Calls Try.prog 6 #[.slice (some x) n cap] w fun e w' => e = .returned (.slice (some ⟨w.heap.size, 0, none⟩) n n) ∧ OwnE w' 55 w.heap.size n n E ∧ Kp All w w' := by
  have HE : Hid (Ents w (some x) n E) := h
  clear h
  have hmk := run_make_pairs 24 55 Try.underlying24 info55 n (by omega)
  have hnil := fun w => Lib.run_eql_slice_nil (P := Try.prog) w 22 33 (some x) n cap 0 0 Try.underlying22
  go_enter Try.func6, Try.ntmps6
  go_wp2
  go_loopw [13] (fun i wr => ∃ k : Nat, k ≤ n ∧ i = .int .i64 k ∧ Hid (OwnE wr 55 w.heap.size n n (fun j => if j < k then E j else (0, 0)) ∧ Kp All w wr)) (fun i _ => n - (intOf i).toNat)
  case atStart => exact ⟨0, Nat.zero_le _, rfl, made_own E w n 55 (by unfold maxLen; omega), (Kp.refl _ _).alloc _⟩
  case round =>
    obtain ⟨k, hk, rfl, HR⟩ := hrel
    clear hmk hnil
    by_cases hlt : k < n
    · rcases HE.out with h0 | ⟨b, off, hx, hb, hc⟩
      · omega
      · obtain rfl : x = ⟨b, off, none⟩ := by injection hx
        clear hx
        obtain ⟨e1, e2⟩ := hc k hlt
        have c1 : wr.cell? ⟨b, off + k * 2, none⟩ = some (.int .i64 (E k).1) := (HR.out.2.cell (by exact hb) trivial).trans e1
        have c2 : wr.cell? ⟨b, off + k * 2 + 1, none⟩ = some (.int .i64 (E k).2) := (HR.out.2.cell (by exact hb) trivial).trans e2
        have hlt2 : w.heap.size < wr.heap.size := HR.out.1.lt
        have d1 := (HR.out.1.head.ent hlt).1
        have d2 := (HR.out.1.head.ent hlt).2
        have f1 := HR.out.1.head.frozen (k * 2)
        have f2 := HR.out.1.head.frozen (k * 2 + 1)
        clear e1 e2 hc
        go_wp2
        go_roundw
        case rel => exact ⟨k + 1, by omega, by go_num, ((HR.out.1.set k _ _).congr (fun j _ => congrFun (ent_upd E k) j)).alloc _, ((HR.out.2.setCell (fun h => absurd h (Nat.lt_irrefl _)) _).setCell (fun h => absurd h (Nat.lt_irrefl _)) _).alloc _⟩
        case measure => simp [intOf]; omega
    · go_wp2
      go_ret
      exact ⟨rfl, HR.out.1.congr (fun i hi => by rw [if_pos (by omega)]), HR.out.2⟩


/-- A slice's elements, read as ids. -/
def Ids (w : World) (a : Option Addr) (n : Nat) (f : Nat → Int) : Prop := n = 0 ∨ ∃ b off, a = some ⟨b, off, none⟩ ∧ b < w.heap.size ∧ ∀ i, i < n → w.cell? ⟨b, off + i, none⟩ = some (.int .i64 (f i))

theorem Ids.kp {w w' : World} {a : Option Addr} {n : Nat} {f : Nat → Int} (h : Ids w a n f) (k : Kp All w w') : Ids w' a n f := by
  rcases h with h | ⟨b, off, rfl, hb, hc⟩
  · exact .inl h
  · exact .inr ⟨b, off, rfl, Nat.lt_of_lt_of_le hb k.size, fun i hi => (k.cell (by exact hb) trivial).trans (hc i hi)⟩

theorem ids_of {w : World} {B n : Nat} {S : Value} {D : Nat → Int × Int} (h : w.ownsRow B 2 1 S n (idL D n)) : ∃ a c, S = .slice a n c ∧ Ids w a n (fun j => (D j).1) := by
  have h0 := h
  obtain ⟨_, ⟨rfl, rfl⟩ | ⟨g, cap, cur, rfl, hb, hg, hnc, hcm, hcs, htake⟩⟩ := h
  · exact ⟨none, 0, rfl, .inl rfl⟩
  · refine ⟨some ⟨g, 0, none⟩, cap, rfl, .inr ⟨g, 0, rfl, (Array.getElem?_eq_some_iff.1 hg).1, fun i hi => ?_⟩⟩
    have hu : (idL D n)[i]? = some (.int .i64 (D i).1) := by
      unfold idL
      rw [List.getElem?_map, List.getElem?_range hi]
      rfl
    have := h0.cells (g := g) rfl i _ hu
    rw [Go.WideShapes.add_plain] at this
    exact this

end Go.Proofs.Qxb6003312a
