/-
  The walks of rand.New and of zzRand.
-/
import Derived.Test.Qxb6003312aRng
import Derived.Laws.CopyRow
namespace Go.Proofs.Qxb6003312a
open Go.RowKit Go.Deep

theorem info80 : (Try.prog.info? 80).map (fun i => (i.zero, i.size, i.bytes)) = some (some (.int .u64 0), 1, 8) := by kernel_rfl
theorem size80 : (Try.prog.info? 80).map (·.size) = some 1 := by kernel_rfl
theorem build59 (a : Option Addr) (n c : Nat) (w : World) : (Instr.build 59 #[(0, .slice a n c)]).run Try.prog w = .ok (.agg #[.slice a n c, .int .i64 0]) w := run_build w 59 _ _ (by kernel_rfl)
theorem build73 (a : Option Addr) (w : World) : (Instr.build 73 #[(0, .iface 57 (.pointer a))]).run Try.prog w = .ok (.agg #[.iface 57 (.pointer a)]) w := run_build w 73 _ _ (by kernel_rfl)

/-- The words of a script that came in. -/
def Words (w : World) (a : Option Addr) (n cap : Nat) (s : Nat → Int) : Prop :=
  (∀ j : Nat, 0 ≤ s j ∧ s j ≤ 18446744073709551615) ∧ (a = none → cap = 0) ∧ (n = 0 ∨ ∃ b off, a = some ⟨b, off, none⟩ ∧ b < w.heap.size ∧ ∀ i, i < n → w.cell? ⟨b, off + i, none⟩ = some (.int .u64 (s i)))

theorem setRow_blk (w : World) (g k : Nat) (cs : Array Value) (h : k ≠ g) : (w.setRow g cs).heap[k]? = w.heap[k]? := by
  simp only [World.setRow, Array.getElem?_modify]
  rw [if_neg (fun e => h e.symm)]

theorem copy_words (w : World) (a : Option Addr) (n cap : Nat) (s : Nat → Int) (h : Words w a n cap s) :
    ∃ w2, (∀ ty, (Builtin.copy_ #[23, 23] ty #[.slice (some ⟨w.heap.size, 0, none⟩) n n, .slice a n cap]).run Try.prog (w.alloc (.cells (madeCells #[.int .u64 0] n) 80)) = .ok (.int .i64 (n : Int)) w2) ∧
      HeadIs w2 w.heap.size 80 n (fun j => .int .u64 (s j)) ∧ Kp All w w2 ∧ w2.heap.size = w.heap.size + 1 := by
  obtain ⟨_, hcap, hw⟩ := h
  by_cases hn0 : n = 0 ∧ a = none
  · obtain ⟨rfl, rfl⟩ := hn0
    obtain rfl := hcap rfl
    refine ⟨_, fun ty => run_copy_nil (P := Try.prog) (w := _) 23 23 ty 80 ⟨w.heap.size, 0, none⟩ 0 0 Try.underlying23 (by rw [size80]; rfl), HeadIs.of_row (World.rowIs_made w (.int .u64 0) 0 80) |>.congr (fun i hi => by omega), (Kp.refl _ _).alloc _, nblk_alloc _ _⟩
  · obtain ⟨x, hx, hcell⟩ : ∃ x : Addr, a = some x ∧ ∀ i, i < n → w.cell? (x.add i) = some (.int .u64 (s i)) := by
      rcases hw with rfl | ⟨b, off, rfl, hb, hc⟩
      · cases a with
        | none => exact absurd ⟨rfl, rfl⟩ hn0
        | some x => exact ⟨x, rfl, fun i hi => by omega⟩
      · exact ⟨_, rfl, fun i hi => by rw [Go.WideShapes.add_plain]; exact hc i hi⟩
    subst hx
    have hblk : (w.alloc (.cells (madeCells #[.int .u64 0] n) 80)).heap[w.heap.size]? = some (.cells (madeCells #[.int .u64 0] n) 80 (0, 0)) := blk_alloc_new _ _
    have hlen : ((List.range n).map fun j => Value.int .u64 (s j)).length = Nat.min n n := by simp
    have hget : ∀ j v, ((List.range n).map fun j => Value.int .u64 (s j))[j]? = some v → j < n ∧ v = .int .u64 (s j) := by
      intro j v hv
      rw [List.getElem?_map] at hv
      by_cases hj : j < n
      · rw [List.getElem?_range hj] at hv
        simp at hv
        exact ⟨hj, hv.symm⟩
      · rw [List.getElem?_eq_none (by simp; omega)] at hv
        cases hv
    have hr := fun ty => run_copy_row (P := Try.prog) (w.alloc (.cells (madeCells #[.int .u64 0] n) 80)) 23 23 ty 80 w.heap.size 0 n n x n cap (madeCells #[.int .u64 0] n) 80 ((List.range n).map fun j => Value.int .u64 (s j)) Try.underlying23 size80 hblk hlen
      (fun j v hv => by
        obtain ⟨hj, rfl⟩ := hget j v hv
        have := hcell j hj
        have hlt := World.block_lt_of_cell? w _ this
        rw [World.cell?_of_block (w := w) (blk_alloc_lt _ _ _ hlt)]
        exact this)
      (by simp [size_madeCells]) (by intro v hv; simp at hv; obtain ⟨j, _, rfl⟩ := hv; rfl)
    have ecs : ((madeCells #[.int .u64 0] n).toList.take 0 ++ ((List.range n).map fun j => Value.int .u64 (s j)) ++ (madeCells #[.int .u64 0] n).toList.drop (0 + ((List.range n).map fun j => Value.int .u64 (s j)).length)).toArray = ((List.range n).map fun j => Value.int .u64 (s j)).toArray := by
      have hl : (madeCells #[Value.int .u64 0] n).toList.length = n := by simp [size_madeCells]
      rw [List.take_zero, List.nil_append, Nat.zero_add, List.length_map, List.length_range, List.drop_of_length_le (by omega), List.append_nil]
    rw [ecs] at hr
    refine ⟨_, fun ty => by rw [hr ty, List.length_map, List.length_range]; rfl, ?_, ?_, ?_⟩
    · exact ⟨((List.range n).map fun j => Value.int .u64 (s j)).toArray, setRow_heap _ _ _ _ _ _ hblk, by simp, fun i hi => by simp [hi]⟩
    · refine ⟨rfl, rfl, rfl, ?_, fun k hk _ => ?_⟩
      · show _ ≤ (World.setRow _ _ _).heap.size
        simp [World.setRow]
      · rw [setRow_blk _ _ _ _ (by omega)]
        exact blk_alloc_lt _ _ _ hk
    · simp [World.setRow]

set_option maxHeartbeats 400000 in
theorem new_any (a : Option Addr) (w : World) :
    Calls Try.prog 27 #[.iface 57 (.pointer a)] w fun e w' => e = .returned (.pointer (some ⟨w.heap.size, 0, none⟩)) ∧ w' = w.alloc (.cells #[.iface 57 (.pointer a)] 73) := by
  have hb := build73 a
  go_enter Try.func27, Try.ntmps27
  go_wp2
  go_ret
  exact ⟨rfl, rfl⟩

theorem rng_made {w2 : World} {B n : Nat} {s : Nat → Int} (h : HeadIs w2 B 80 n (fun j => .int .u64 (s j))) (hs : ∀ j : Nat, 0 ≤ s j ∧ s j ≤ 18446744073709551615) (hsz : w2.heap.size = B + 1) (hn : n ≤ 65536) :
    Rng ((w2.alloc (.cells #[.slice (some ⟨B, 0, none⟩) n n, .int .i64 0] 59)).alloc (.cells #[.iface 57 (.pointer (some ⟨B + 1, 0, none⟩))] 73))
      (B + 1 + 1) (B + 1) (n - 0) := by
  have hsz2 : B + 1 + 1 = (w2.alloc (.cells #[.slice (some ⟨B, 0, none⟩) n n, .int .i64 0] 59)).heap.size := by rw [nblk_alloc, hsz]
  refine ⟨B, n, s, 0, ?_, ?_, (h.alloc _).alloc _, hs, Nat.zero_le _, hn, rfl⟩
  · refine ⟨#[.iface 57 (.pointer (some ⟨B + 1, 0, none⟩))], by rw [hsz2]; exact blk_alloc_new _ _, Nat.le_refl _, fun i hi => ?_⟩
    match i, hi with
    | 0, _ => rfl
  · refine ⟨#[.slice (some ⟨B, 0, none⟩) n n, .int .i64 0], ?_, Nat.le_refl _, fun i hi => ?_⟩
    · rw [blk_alloc_lt _ _ _ (by rw [nblk_alloc]; omega), ← hsz]
      exact blk_alloc_new _ _
    · rcases (show i = 0 ∨ i = 1 by omega) with rfl | rfl <;> rfl

set_option maxHeartbeats 400000 in
theorem rand_any (a : Option Addr) (n cap : Nat) (s : Nat → Int) (w : World) (hn : n ≤ 65536) (h : Words w a n cap s) :
    Calls Try.prog 9 #[.slice a n cap] w fun e w' => ∃ br bs left, e = .returned (.pointer (some ⟨br, 0, none⟩)) ∧ Rng w' br bs left ∧ Kp All w w' ∧ w.heap.size ≤ br ∧ w.heap.size ≤ bs := by
  have hs := h.1
  obtain ⟨w2, hcp, hrow, hk, hsz⟩ := copy_words w a n cap s h
  have hmk := run_make_row' (P := Try.prog) 23 80 (.int .u64 0) 8 Try.underlying23 info80 rfl .i64 .i64 n (by omega) (by omega)
  have hb := build59 (some ⟨w.heap.size, 0, none⟩) n n
  have HR : Hid (HeadIs w2 w.heap.size 80 n (fun j => .int .u64 (s j)) ∧ Kp All w w2 ∧ (∀ j : Nat, 0 ≤ s j ∧ s j ≤ 18446744073709551615)) := ⟨hrow, hk, hs⟩
  clear hrow hk h hs
  go_enter Try.func9, Try.ntmps9
  go_wp2_with fail
  refine (new_any _ _).mono ?_
  rintro e w' ⟨rfl, rfl⟩
  go_wp2
  go_ret
  refine ⟨_, w.heap.size + 1, n - 0, rfl, rng_made HR.out.1 HR.out.2.2 hsz hn, (HR.out.2.1.alloc _).alloc _, by omega, by omega⟩

end Go.Proofs.Qxb6003312a
