import Derived.Test.Qxb6003312aAsks
import Derived.Outline
/-! The walks of the fresh id, of IndexFunc and ContainsFunc on the program's closures, and of the node's holds. -/
namespace Go.Proofs.Qxb6003312a
open Go.RowKit Go.Deep

theorem ents_kept {w w' : World} {a : Option Addr} {n : Nat} {E : Nat → Int × Int} (h : Ents w a n E) (k : Kp All w w') : Ents w' a n E := by
  rcases h with h | ⟨b, off, rfl, hb, hc⟩
  · exact .inl h
  · exact .inr ⟨b, off, rfl, Nat.lt_of_lt_of_le hb k.size, fun i hi => ⟨(k.cell (by exact hb) trivial).trans (hc i hi).1, (k.cell (by exact hb) trivial).trans (hc i hi).2⟩⟩
theorem words_kept {w w' : World} {a : Option Addr} {n cap : Nat} {s : Nat → Int} (h : Words w a n cap s) (k : Kp All w w') : Words w' a n cap s := by
  obtain ⟨h1, h2, h3⟩ := h
  refine ⟨h1, h2, ?_⟩
  rcases h3 with h | ⟨b, off, rfl, hb, hc⟩
  · exact .inl h
  · exact .inr ⟨b, off, rfl, Nat.lt_of_lt_of_le hb k.size, fun i hi => (k.cell (by exact hb) trivial).trans (hc i hi)⟩

/-- A fresh id from x on. -/
def Fresh (n : Nat) (E : Nat → Int × Int) (v x y : Int) : Prop := x ≤ y ∧ y ≤ x + n + 1 ∧ y ≠ v ∧ ∀ j, j < n → (E j).1 ≠ y
def FreshP (n : Nat) (E : Nat → Int × Int) (v x : Int) (w : World) (e : Ending) (w' : World) : Prop := ∃ y : Int, e = .returned (.int .i64 y) ∧ Fresh n E v x y ∧ Kp All w w'

set_option maxHeartbeats 1000000 in
theorem fresh_any (a : Option Addr) (n c : Nat) (E : Nat → Int × Int) (v x : Int) (w : World) (hn : n ≤ 256) (hx0 : 0 ≤ x) (hx1 : x ≤ 10000) (h : Ents w a n E) :
    Calls Try.prog 21 #[.slice a n c, .int .i64 v, .int .i64 x] w (FreshP n E v x w) := by
  have H := hid h
  clear h
  go_enter Try.func21, Try.ntmps21
  go_wp2
  go_loopw [7, 8] (fun y i wr => ∃ k : Nat, k ≤ n + 2 ∧ i = .int .i64 k ∧ y = .int .i64 (x + (k : Int)) ∧ Hid ((∀ t, t < k → x + (t : Int) = v ∨ ∃ j, j < n ∧ (E j).1 = x + (t : Int)) ∧ Kp All w wr)) (fun _ i _ => n + 2 - (intOf i).toNat)
  case atStart => exact ⟨0, Nat.zero_le _, rfl, by simp, fun j hj => by omega, Kp.refl _ _⟩
  case round =>
    obtain ⟨k, hk, rfl, rfl, HR⟩ := hrel
    by_cases hlt : k ≤ n + 1
    · by_cases q : ((x + (k : Int)) != v) = true
      · go_wp2_with fail
        refine (names_any a n c E _ _ (by omega) (ents_kept H.out HR.out.2)).mono ?_
        rintro e w1 ⟨b, rfl, hb, k1⟩
        have K1 := hid (HR.out.2.trans k1)
        clear k1
        cases b with
        | true =>
          have HB := hid (hb.1 rfl)
          clear hb
          go_wp2_with fail
          go_roundw
          case rel =>
            refine ⟨k + 1, by omega, by go_num, by go_num, fun t ht => ?_, K1.out⟩
            by_cases e : t = k
            · subst e; exact .inr HB.out
            · exact HR.out.1 t (by omega)
          case measure => simp [intOf]; omega
        | false =>
          have Q := hid q
          have HB : Hid (∀ j, j < n → (E j).1 ≠ x + (k : Int)) := fun j hj e => Bool.noConfusion (hb.2 ⟨j, hj, e⟩)
          clear hb
          go_wp2_with fail
          go_ret
          exact ⟨_, rfl, ⟨by omega, by omega, by have := Q.out; simpa using this, HB.out⟩, K1.out⟩
      · have q' : ((x + (k : Int)) != v) = false := by simpa using q
        have Q := hid q'
        clear q
        go_wp2_with fail
        go_roundw
        case rel =>
          refine ⟨k + 1, by omega, by go_num, by go_num, fun t ht => ?_, HR.out.2⟩
          by_cases e : t = k
          · subst e; exact .inl (by have := Q.out; simpa using this)
          · exact HR.out.1 t (by omega)
        case measure => simp [intOf]; omega
    · exfalso
      obtain ⟨i, hi, h1, h2⟩ := fresh_exists n E v x
      rcases HR.out.1 i (by omega) with h | ⟨j, hj, h⟩
      · exact h1 h
      · exact h2 j hj h

theorem run_mkFunc (P : Program) (fn : Fn) (first cap : Array Value) (w : World) : (Instr.makeFunc fn first cap).run P w = .ok (.func fn first cap) w := rfl

/-- What the two closures answer. -/
theorem clos38 (x y u : Int) (ub : Nat) (w : World) (h : w.cell? ⟨ub, 0, none⟩ = some (.int .i64 u)) (hb : ub < w.heap.size) :
    Calls Try.prog 38 #[.agg #[.int .i64 x, .int .i64 y], .pointer (some ⟨ub, 0, none⟩)] w fun e w' => e = .returned (.bool (x == u)) ∧ Kp All w w' := by
  go_enter Try.func38, Try.ntmps38
  go_wp2
  go_ret
  exact ⟨rfl, (Kp.refl _ _).alloc _⟩
theorem clos40 (x y u : Int) (ub : Nat) (w : World) (h : w.cell? ⟨ub, 0, none⟩ = some (.int .i64 u)) (hb : ub < w.heap.size) :
    Calls Try.prog 40 #[.agg #[.int .i64 x, .int .i64 y], .pointer (some ⟨ub, 0, none⟩)] w fun e w' => e = .returned (.bool (x == u)) ∧ Kp All w w' := by
  go_enter Try.func40, Try.ntmps40
  go_wp2
  go_ret
  exact ⟨rfl, (Kp.refl _ _).alloc _⟩

/-- The place as IndexFunc tells it. -/
def idxI (n : Nat) (E : Nat → Int × Int) (u : Int) : Int := match firstIdx n E u with | some i => (i : Int) | none => -1
theorem idxI_some {n : Nat} {E : Nat → Int × Int} {u : Int} {i : Nat} (h : firstIdx n E u = some i) : idxI n E u = (i : Int) := by unfold idxI; rw [h]
theorem idxI_none {n : Nat} {E : Nat → Int × Int} {u : Int} (h : firstIdx n E u = none) : idxI n E u = -1 := by unfold idxI; rw [h]

theorem ret_int {k : IntKind} {a b : Int} (h : a = b) : Ending.returned (.int k a) = .returned (.int k b) := by rw [h]

set_option maxHeartbeats 1000000 in
theorem index38 (a : Option Addr) (n c ub : Nat) (E : Nat → Int × Int) (u : Int) (w : World) (hn : n ≤ 4096) (h : Ents w a n E) (hu : w.cell? ⟨ub, 0, none⟩ = some (.int .i64 u)) (hub : ub < w.heap.size) :
    Calls Try.prog 37 #[.slice a n c, .func (.func 38) #[] #[.pointer (some ⟨ub, 0, none⟩)]] w fun e w' => e = .returned (.int .i64 (idxI n E u)) ∧ Kp All w w' := by
  have H := hid h
  have HU := hid hu
  clear h hu
  go_enter Try.func37, Try.ntmps37
  go_wp2
  go_loopw [8] (fun i wr => ∃ k : Nat, k ≤ n ∧ i = .int .i64 k ∧ Hid ((∀ j, j < k → (E j).1 ≠ u) ∧ Kp All w wr)) (fun i _ => n - (intOf i).toNat)
  case atStart => exact ⟨0, Nat.zero_le _, rfl, fun j hj => by omega, Kp.refl _ _⟩
  case round =>
    obtain ⟨k, hk, rfl, HR⟩ := hrel
    by_cases hlt : k < n
    · obtain ⟨b, off, rfl, hb, hc⟩ := ents_cells H.out (by omega)
      have c1 := (HR.out.2.cell (a := ⟨b, off + k * 2, none⟩) hb trivial).trans (hc k hlt).1
      have c2 := (HR.out.2.cell (a := ⟨b, off + k * 2 + 1, none⟩) hb trivial).trans (hc k hlt).2
      clear hc
      go_wp2_with fail
      refine (clos38 _ _ u ub _ ((HR.out.2.cell (by exact hub) trivial).trans HU.out) (Nat.lt_of_lt_of_le hub HR.out.2.size)).mono ?_
      rintro e w1 ⟨rfl, k1⟩
      have K1 := hid (HR.out.2.trans k1)
      clear k1
      by_cases q : ((E k).1 == u) = true
      · have Q := hid q
        go_wp2_with fail
        go_ret
        exact ⟨ret_int (idxI_some (firstIdx_mk hlt (by simpa using Q.out) HR.out.1)).symm, K1.out⟩
      · have q' : ((E k).1 == u) = false := by simpa using q
        have Q := hid q'
        clear q
        go_wp2_with fail
        go_roundw
        case rel =>
          refine ⟨k + 1, by omega, by go_num, fun j hj => ?_, K1.out⟩
          by_cases e : j = k
          · subst e; simpa using Q.out
          · exact HR.out.1 j (by omega)
        case measure => simp [intOf]; omega
    · go_wp2_with fail
      go_ret
      exact ⟨ret_int (idxI_none (firstIdx_none (fun j hj => HR.out.1 j (by omega)))).symm, HR.out.2⟩

set_option maxHeartbeats 1000000 in
theorem index40 (a : Option Addr) (n c ub : Nat) (E : Nat → Int × Int) (u : Int) (w : World) (hn : n ≤ 4096) (h : Ents w a n E) (hu : w.cell? ⟨ub, 0, none⟩ = some (.int .i64 u)) (hub : ub < w.heap.size) :
    Calls Try.prog 37 #[.slice a n c, .func (.func 40) #[] #[.pointer (some ⟨ub, 0, none⟩)]] w fun e w' => e = .returned (.int .i64 (idxI n E u)) ∧ Kp All w w' := by
  have H := hid h
  have HU := hid hu
  clear h hu
  go_enter Try.func37, Try.ntmps37
  go_wp2
  go_loopw [8] (fun i wr => ∃ k : Nat, k ≤ n ∧ i = .int .i64 k ∧ Hid ((∀ j, j < k → (E j).1 ≠ u) ∧ Kp All w wr)) (fun i _ => n - (intOf i).toNat)
  case atStart => exact ⟨0, Nat.zero_le _, rfl, fun j hj => by omega, Kp.refl _ _⟩
  case round =>
    obtain ⟨k, hk, rfl, HR⟩ := hrel
    by_cases hlt : k < n
    · obtain ⟨b, off, rfl, hb, hc⟩ := ents_cells H.out (by omega)
      have c1 := (HR.out.2.cell (a := ⟨b, off + k * 2, none⟩) hb trivial).trans (hc k hlt).1
      have c2 := (HR.out.2.cell (a := ⟨b, off + k * 2 + 1, none⟩) hb trivial).trans (hc k hlt).2
      clear hc
      go_wp2_with fail
      refine (clos40 _ _ u ub _ ((HR.out.2.cell (by exact hub) trivial).trans HU.out) (Nat.lt_of_lt_of_le hub HR.out.2.size)).mono ?_
      rintro e w1 ⟨rfl, k1⟩
      have K1 := hid (HR.out.2.trans k1)
      clear k1
      by_cases q : ((E k).1 == u) = true
      · have Q := hid q
        go_wp2_with fail
        go_ret
        exact ⟨ret_int (idxI_some (firstIdx_mk hlt (by simpa using Q.out) HR.out.1)).symm, K1.out⟩
      · have q' : ((E k).1 == u) = false := by simpa using q
        have Q := hid q'
        clear q
        go_wp2_with fail
        go_roundw
        case rel =>
          refine ⟨k + 1, by omega, by go_num, fun j hj => ?_, K1.out⟩
          by_cases e : j = k
          · subst e; simpa using Q.out
          · exact HR.out.1 j (by omega)
        case measure => simp [intOf]; omega
    · go_wp2_with fail
      go_ret
      exact ⟨ret_int (idxI_none (firstIdx_none (fun j hj => HR.out.1 j (by omega)))).symm, HR.out.2⟩

theorem contains_any (a : Option Addr) (n c ub : Nat) (E : Nat → Int × Int) (u : Int) (w : World) (hn : n ≤ 4096) (h : Ents w a n E) (hu : w.cell? ⟨ub, 0, none⟩ = some (.int .i64 u)) (hub : ub < w.heap.size) :
    Calls Try.prog 39 #[.slice a n c, .func (.func 40) #[] #[.pointer (some ⟨ub, 0, none⟩)]] w fun e w' => e = .returned (.bool (firstIdx n E u).isSome) ∧ Kp All w w' := by
  have H := hid h
  have HU := hid hu
  clear h hu
  cases hf : firstIdx n E u with
  | some i =>
    have hI := idxI_some hf
    have HI := hid hI
    clear hI hf
    go_enter Try.func39, Try.ntmps39
    go_wp2_with fail
    refine (index40 a n c ub E u _ hn H.out HU.out hub).mono ?_
    rintro e w1 ⟨rfl, k1⟩
    have K1 := hid k1
    clear k1
    rw [HI.out]
    go_wp2_with fail
    go_ret
    exact ⟨rfl, K1.out⟩
  | none =>
    have hI := idxI_none hf
    have HI := hid hI
    clear hI hf
    go_enter Try.func39, Try.ntmps39
    go_wp2_with fail
    refine (index40 a n c ub E u _ hn H.out HU.out hub).mono ?_
    rintro e w1 ⟨rfl, k1⟩
    have K1 := hid k1
    clear k1
    rw [HI.out]
    go_wp2_with fail
    go_ret
    exact ⟨rfl, K1.out⟩

theorem holds_any (nd : Nat) (a : Option Addr) (n c : Nat) (S : Value) (E : Nat → Int × Int) (u : Int) (w : World) (hn : n ≤ 4096) (hN : Node w nd (.slice a n c) S) (h : Ents w a n E) :
    Calls Try.prog 32 #[.pointer (some ⟨nd, 0, none⟩), .int .i64 u] w fun e w' => e = .returned (.bool (firstIdx n E u).isSome) ∧ Kp All w w' := by
  have H := hid h
  have cv := hN.view
  have lnd := hN.lt
  have K0 := hid (((Kp.refl All w).alloc (.cells #[.int .i64 u] 2)))
  have hu : (w.alloc (.cells #[.int .i64 u] 2)).cell? ⟨w.heap.size, 0, none⟩ = some (.int .i64 u) := by
    have hb := blk_alloc_new w (.cells #[.int .i64 u] 2)
    unfold World.cell?
    dsimp only
    rw [hb]
    rfl
  have HU := hid hu
  have hmf := run_mkFunc Try.prog
  clear h hN hu
  go_enter Try.func32, Try.ntmps32
  go_wp2_with fail
  refine (contains_any a n c w.heap.size E u _ hn (ents_kept H.out K0.out) HU.out (by rw [nblk_alloc]; omega)).mono ?_
  rintro e w1 ⟨rfl, k1⟩
  have K1 := hid (K0.out.trans k1)
  clear k1
  go_wp2_with fail
  go_ret
  exact ⟨rfl, K1.out⟩

theorem zholds_any (nd : Nat) (a : Option Addr) (n c : Nat) (S : Value) (E : Nat → Int × Int) (u : Int) (w : World) (hn : n ≤ 4096) (hN : Node w nd (.slice a n c) S) (h : Ents w a n E) :
    Calls Try.prog 24 #[.pointer (some ⟨nd, 0, none⟩), .int .i64 u] w fun e w' => e = .returned (.bool (firstIdx n E u).isSome) ∧ Kp All w w' := by
  have H := hid (⟨hN, h⟩ : Node w nd (.slice a n c) S ∧ Ents w a n E)
  clear h hN
  go_enter Try.func24, Try.ntmps24
  go_wp2_with fail
  refine (holds_any nd a n c S E u _ hn H.out.1 H.out.2).mono ?_
  rintro e w1 ⟨rfl, k1⟩
  have K1 := hid k1
  clear k1
  go_wp2_with fail
  go_ret
  exact ⟨rfl, K1.out⟩

end Go.Proofs.Qxb6003312a
