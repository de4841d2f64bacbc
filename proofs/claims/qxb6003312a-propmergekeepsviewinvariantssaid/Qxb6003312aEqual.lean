/-
  The walk of zzEqualEntries.
-/
import Derived.Test.Qxb6003312aEnts
import Derived.Laws.StructEq
import Derived.Outline
namespace Go.Proofs.Qxb6003312a
open Go.RowKit Go.Deep

theorem eq33 (a b c d : Int) (w : World) : (Op.equalIn 10000 33 (.agg #[.int .i64 a, .int .i64 b]) (.agg #[.int .i64 c, .int .i64 d])).run Try.prog w = .ok (a == c && b == d) w := by
  have u2 := Try.underlying2
  have a2 := Try.isAgg2
  have z2 := Try.sizeOf2
  have u3 := Try.underlying3
  have a3 := Try.isAgg3
  have z3 := Try.sizeOf3
  have hS : Try.prog.underlying 33 = some (.struct (Try.prog.fieldsOf 33)) := by kernel_rfl
  have hp : Try.prog.stoodInHeld 33 = false := by kernel_rfl
  rw [show (10000 : Nat) = 9999 + 1 from rfl, run_equalIn_agg w 9999 33 _ _ hS hp]
  simp only [Program.fieldsOf, Try.underlying33]
  go_simp
  by_cases h1 : a = c <;> by_cases h2 : b = d <;> simp [h1, h2]

theorem dd (w : World) (a b : Nat) : (w.drewN a).drewN b = w.drewN (a + b) := by simp [World.drewN, Nat.add_assoc]

/-- What zzEqualEntries leaves. -/
def EqP (n : Nat) (E F : Nat → Int × Int) (w : World) (e : Ending) (w' : World) : Prop := ∃ b : Bool, e = .returned (.bool b) ∧ (b = true ↔ ∀ i, i < n → E i = F i) ∧ ∃ k, w' = w.drewN k

set_option maxHeartbeats 1000000 in
theorem equal_core (b1 o1 n c1 b2 o2 c2 : Nat) (E F : Nat → Int × Int) (w : World) (hn : n ≤ 4096) (h1 : ∀ i, i < n → w.cell? ⟨b1, o1 + i * 2, none⟩ = some (.int .i64 (E i).1) ∧ w.cell? ⟨b1, o1 + i * 2 + 1, none⟩ = some (.int .i64 (E i).2))
    (h2 : ∀ i, i < n → w.cell? ⟨b2, o2 + i * 2, none⟩ = some (.int .i64 (F i).1) ∧ w.cell? ⟨b2, o2 + i * 2 + 1, none⟩ = some (.int .i64 (F i).2)) :
    Calls Try.prog 10 #[.slice (some ⟨b1, o1, none⟩) n c1, .slice (some ⟨b2, o2, none⟩) n c2] w (EqP n E F w) := by
  have H1 : Hid (∀ i, i < n → w.cell? ⟨b1, o1 + i * 2, none⟩ = some (.int .i64 (E i).1) ∧ w.cell? ⟨b1, o1 + i * 2 + 1, none⟩ = some (.int .i64 (E i).2)) := h1
  have H2 : Hid (∀ i, i < n → w.cell? ⟨b2, o2 + i * 2, none⟩ = some (.int .i64 (F i).1) ∧ w.cell? ⟨b2, o2 + i * 2 + 1, none⟩ = some (.int .i64 (F i).2)) := h2
  clear h1 h2
  have q33 := eq33
  go_enter Try.func10, Try.ntmps10
  go_wp2
  go_loopw [13] (fun i wr => ∃ k q : Nat, k ≤ n ∧ i = .int .i64 k ∧ Hid (wr = w.drewN q) ∧ Hid (∀ i, i < k → E i = F i)) (fun i _ => n - (intOf i).toNat)
  case atStart => exact ⟨0, 0, Nat.zero_le _, rfl, rfl, fun i hi => by omega⟩
  case round =>
    obtain ⟨k, q, hk, rfl, HW, HE⟩ := hrel
    have hw := HW.out
    subst hw
    by_cases hlt : k < n
    · have e1 := (H1.out k hlt).1
      have e2 := (H1.out k hlt).2
      have e3 := (H2.out k hlt).1
      have e4 := (H2.out k hlt).2
      by_cases t1 : ((E k).1 == (F k).1) = true
      · by_cases t2 : ((E k).2 == (F k).2) = true
        · have HQ : Hid (E k = F k) := Prod.ext (by simpa using t1) (by simpa using t2)
          go_wp2
          go_quiet (fail)
          go_wp2
          go_roundw
          case rel =>
            refine ⟨k + 1, _, by omega, by go_num, rfl, fun i hi => ?_⟩
            by_cases e : i = k
            · subst e; exact HQ.out
            · exact HE.out i (by omega)
          case measure => simp [intOf]; omega
        · have t2' : ((E k).2 == (F k).2) = false := by simpa using t2
          have HQ : Hid (E k ≠ F k) := fun e => t2 (by rw [e]; simp)
          clear t2
          go_wp2
          go_quiet (fail)
          go_wp2
          go_ret
          exact ⟨false, rfl, ⟨fun h => Bool.noConfusion h, fun h => absurd (h k hlt) HQ.out⟩, _, dd _ _ _⟩
      · have t1' : ((E k).1 == (F k).1) = false := by simpa using t1
        have HQ : Hid (E k ≠ F k) := fun e => t1 (by rw [e]; simp)
        clear t1
        go_wp2
        go_quiet (fail)
        go_wp2
        go_ret
        exact ⟨false, rfl, ⟨fun h => Bool.noConfusion h, fun h => absurd (h k hlt) HQ.out⟩, _, dd _ _ _⟩
    · go_wp2
      go_ret
      exact ⟨true, rfl, ⟨fun _ i hi => HE.out i (by omega), fun _ => rfl⟩, _, rfl⟩

/-- zzEqualEntries, lists of one length. -/
theorem equal_any (a1 : Option Addr) (n c1 : Nat) (a2 : Option Addr) (c2 : Nat) (E F : Nat → Int × Int) (w : World) (hn : n ≤ 4096) (h1 : Ents w a1 n E) (h2 : Ents w a2 n F) :
    Calls Try.prog 10 #[.slice a1 n c1, .slice a2 n c2] w (EqP n E F w) := by
  by_cases h0 : n = 0
  · subst h0
    clear h1 h2
    go_enter Try.func10, Try.ntmps10
    go_wp2
    refine wp_loop_rounds 1 ?_
    rw [rounds_succ]
    go_wp2
    go_ret
    exact ⟨true, rfl, ⟨fun _ i hi => by omega, fun _ => rfl⟩, 0, rfl⟩
  · rcases h1 with h | ⟨b1, o1, rfl, _, h1⟩
    · exact absurd h h0
    · rcases h2 with h | ⟨b2, o2, rfl, _, h2⟩
      · exact absurd h h0
      · exact equal_core b1 o1 n c1 b2 o2 c2 E F w hn h1 h2

/-- zzEqualEntries, lists of different lengths. -/
theorem equal_no (a1 : Option Addr) (n c1 : Nat) (a2 : Option Addr) (m c2 : Nat) (w : World) (h : ((n : Int) != (m : Int)) = true) :
    Calls Try.prog 10 #[.slice a1 n c1, .slice a2 m c2] w fun e w' => e = .returned (.bool false) ∧ w' = w := by
  go_enter Try.func10, Try.ntmps10
  go_wp2
  go_ret
  exact ⟨rfl, rfl⟩

end Go.Proofs.Qxb6003312a
