/-
  The walks of zzNames, zzContainsEntry, zzContainsID, zzIDsRepeat, zzViewRepeat.
-/
import Derived.Test.Qxb6003312aOwn
import Derived.Test.Qxb6003312aMergePlain
import Derived.Outline
namespace Go.Proofs.Qxb6003312a
open Go.RowKit Go.Deep


/-- A bool that says whether p holds; what was there is kept. -/
def Says (p : Prop) (w : World) (e : Ending) (w' : World) : Prop := ∃ b : Bool, e = .returned (.bool b) ∧ (b = true ↔ p) ∧ Kp All w w'

theorem ents_cells {w : World} {a : Option Addr} {n : Nat} {E : Nat → Int × Int} (h : Ents w a n E) (h0 : n ≠ 0) : ∃ b off, a = some ⟨b, off, none⟩ ∧ b < w.heap.size ∧ ∀ i, i < n → w.cell? ⟨b, off + i * 2, none⟩ = some (.int .i64 (E i).1) ∧ w.cell? ⟨b, off + i * 2 + 1, none⟩ = some (.int .i64 (E i).2) := by
  rcases h with h | h
  · exact absurd h h0
  · exact h

set_option maxHeartbeats 1000000 in
/-- zzNames. -/
theorem names_any (a : Option Addr) (n c : Nat) (E : Nat → Int × Int) (x : Int) (w : World) (hn : n ≤ 4096) (h : Ents w a n E) :
    Calls Try.prog 30 #[.slice a n c, .int .i64 x] w (Says (∃ i, i < n ∧ (E i).1 = x) w) := by
  have H := hid h
  clear h
  go_enter Try.func30, Try.ntmps30
  go_wp2
  go_loopw [9] (fun i wr => ∃ k : Nat, k ≤ n ∧ i = .int .i64 k ∧ Hid ((∀ j, j < k → (E j).1 ≠ x) ∧ Kp All w wr)) (fun i _ => n - (intOf i).toNat)
  case atStart => exact ⟨0, Nat.zero_le _, rfl, fun j hj => by omega, Kp.refl _ _⟩
  case round =>
    obtain ⟨k, hk, rfl, HR⟩ := hrel
    by_cases hlt : k < n
    · obtain ⟨b, off, rfl, hb, hc⟩ := ents_cells H.out (by omega)
      have c1 := (HR.out.2.cell (a := ⟨b, off + k * 2, none⟩) hb trivial).trans (hc k hlt).1
      have c2 := (HR.out.2.cell (a := ⟨b, off + k * 2 + 1, none⟩) hb trivial).trans (hc k hlt).2
      clear hc
      by_cases q : ((E k).1 == x) = true
      · have Q := hid q
        go_wp2
        go_ret
        exact ⟨true, rfl, ⟨fun _ => ⟨k, hlt, by simpa using Q.out⟩, fun _ => rfl⟩, HR.out.2.alloc _⟩
      · have q' : ((E k).1 == x) = false := by simpa using q
        have Q := hid q'
        clear q
        go_wp2
        go_roundw
        case rel =>
          refine ⟨k + 1, by omega, by go_num, fun j hj => ?_, HR.out.2.alloc _⟩
          by_cases e : j = k
          · subst e; simpa using Q.out
          · exact HR.out.1 j (by omega)
        case measure => simp [intOf]; omega
    · go_wp2
      go_ret
      exact ⟨false, rfl, ⟨fun h => Bool.noConfusion h, fun ⟨j, hj, e⟩ => absurd e (HR.out.1 j (by omega))⟩, HR.out.2⟩

set_option maxHeartbeats 1000000 in
/-- zzContainsEntry. -/
theorem hasEntry_any (a : Option Addr) (n c : Nat) (E : Nat → Int × Int) (x y : Int) (w : World) (hn : n ≤ 4096) (h : Ents w a n E) :
    Calls Try.prog 15 #[.slice a n c, .agg #[.int .i64 x, .int .i64 y]] w (Says (∃ i, i < n ∧ E i = (x, y)) w) := by
  have H := hid h
  clear h
  have q33 := eq33
  have hX := one_ent (t := 33) w (x, y)
  have HX := hid hX
  clear hX
  go_enter Try.func15, Try.ntmps15
  go_wp2
  go_loopw [9] (fun i wr => ∃ k : Nat, k ≤ n ∧ i = .int .i64 k ∧ Hid ((∀ j, j < k → E j ≠ (x, y)) ∧ Kp All w wr ∧ HeadIs wr w.heap.size 33 2 (entF (fun _ => (x, y))))) (fun i _ => n - (intOf i).toNat)
  case atStart => exact ⟨0, Nat.zero_le _, rfl, fun j hj => by omega, (Kp.refl _ _).alloc _, HX.out⟩
  case round =>
    obtain ⟨k, hk, rfl, HR⟩ := hrel
    clear HX
    by_cases hlt : k < n
    · obtain ⟨b, off, rfl, hb, hc⟩ := ents_cells H.out (by omega)
      have c1 := (HR.out.2.1.cell (a := ⟨b, off + k * 2, none⟩) hb trivial).trans (hc k hlt).1
      have c2 := (HR.out.2.1.cell (a := ⟨b, off + k * 2 + 1, none⟩) hb trivial).trans (hc k hlt).2
      have x1 := HR.out.2.2.cell (i := 0) (by omega)
      have x2 := HR.out.2.2.cell (i := 1) (by omega)
      rw [entF_zero] at x1
      rw [entF_uno] at x2
      have lX := HR.out.2.2.lt
      clear hc
      by_cases t1 : ((E k).1 == x) = true
      · by_cases t2 : ((E k).2 == y) = true
        · have Q := hid (Prod.ext (by simpa using t1) (by simpa using t2) : E k = (x, y))
          go_wp2
          go_ret
          exact ⟨true, rfl, ⟨fun _ => ⟨k, hlt, Q.out⟩, fun _ => rfl⟩, HR.out.2.1.alloc _⟩
        · have t2' : ((E k).2 == y) = false := by simpa using t2
          have Q := hid (fun e => t2 (by rw [e]; simp) : E k ≠ (x, y))
          clear t2
          go_wp2
          go_roundw
          case rel =>
            refine ⟨k + 1, by omega, by go_num, fun j hj => ?_, HR.out.2.1.alloc _, HR.out.2.2.alloc _⟩
            by_cases e : j = k
            · subst e; exact Q.out
            · exact HR.out.1 j (by omega)
          case measure => simp [intOf]; omega
      · have t1' : ((E k).1 == x) = false := by simpa using t1
        have Q := hid (fun e => t1 (by rw [e]; simp) : E k ≠ (x, y))
        clear t1
        go_wp2
        go_roundw
        case rel =>
          refine ⟨k + 1, by omega, by go_num, fun j hj => ?_, HR.out.2.1.alloc _, HR.out.2.2.alloc _⟩
          by_cases e : j = k
          · subst e; exact Q.out
          · exact HR.out.1 j (by omega)
        case measure => simp [intOf]; omega
    · go_wp2
      go_ret
      exact ⟨false, rfl, ⟨fun h => Bool.noConfusion h, fun ⟨j, hj, e⟩ => absurd e (HR.out.1 j (by omega))⟩, HR.out.2.1⟩

theorem ids_cells {w : World} {a : Option Addr} {n : Nat} {f : Nat → Int} (h : Ids w a n f) (h0 : n ≠ 0) : ∃ b off, a = some ⟨b, off, none⟩ ∧ b < w.heap.size ∧ ∀ i, i < n → w.cell? ⟨b, off + i, none⟩ = some (.int .i64 (f i)) := by
  rcases h with h | h
  · exact absurd h h0
  · exact h

set_option maxHeartbeats 1000000 in
/-- zzContainsID. -/
theorem hasID_any (a : Option Addr) (n c : Nat) (f : Nat → Int) (x : Int) (w : World) (hn : n ≤ 4096) (h : Ids w a n f) :
    Calls Try.prog 17 #[.slice a n c, .int .i64 x] w (Says (∃ i, i < n ∧ f i = x) w) := by
  have H := hid h
  clear h
  go_enter Try.func17, Try.ntmps17
  go_wp2
  go_loop [9] (fun i => ∃ k : Nat, k ≤ n ∧ i = .int .i64 k ∧ Hid (∀ j, j < k → f j ≠ x)) (fun i => n - (intOf i).toNat)
  case atStart => exact ⟨0, Nat.zero_le _, rfl, fun j hj => by omega⟩
  case round =>
    obtain ⟨k, hk, rfl, HR⟩ := hrel
    by_cases hlt : k < n
    · obtain ⟨b, off, rfl, hb, hc⟩ := ids_cells H.out (by omega)
      have c1 := hc k hlt
      clear hc
      by_cases q : (f k == x) = true
      · have Q := hid q
        go_wp2
        go_ret
        exact ⟨true, rfl, ⟨fun _ => ⟨k, hlt, by simpa using Q.out⟩, fun _ => rfl⟩, Kp.refl _ _⟩
      · have q' : (f k == x) = false := by simpa using q
        have Q := hid q'
        clear q
        go_wp2
        go_round
        case rel =>
          refine ⟨k + 1, by omega, by go_num, fun j hj => ?_⟩
          by_cases e : j = k
          · subst e; simpa using Q.out
          · exact HR.out j (by omega)
        case measure => simp [intOf]; omega
    · go_wp2
      go_ret
      exact ⟨false, rfl, ⟨fun h => Bool.noConfusion h, fun ⟨j, hj, e⟩ => absurd e (HR.out j (by omega))⟩, Kp.refl _ _⟩

set_option maxHeartbeats 2000000 in
/-- zzIDsRepeat. -/
theorem idsRep_any (a : Option Addr) (n c : Nat) (f : Nat → Int) (w : World) (hn : n ≤ 4096) (hc : n ≤ c) (hc2 : c ≤ maxLen) (h : Ids w a n f) :
    Calls Try.prog 16 #[.slice a n c] w (Says (∃ i, i < n ∧ ∃ j, j < i ∧ f i = f j) w) := by
  have H := hid h
  clear h
  unfold maxLen at hc2
  go_enter Try.func16, Try.ntmps16
  go_wp2
  go_loop [9] (fun i => ∃ k : Nat, k ≤ n ∧ i = .int .i64 k ∧ Hid (∀ i, i < k → ∀ j, j < i → f i ≠ f j)) (fun i => n - (intOf i).toNat)
  case atStart => exact ⟨0, Nat.zero_le _, rfl, fun j hj => by omega⟩
  case round =>
    obtain ⟨k, hk, rfl, HR⟩ := hrel
    by_cases hlt : k < n
    · obtain ⟨b, off, rfl, hb, hcl⟩ := ids_cells H.out (by omega)
      have c1 := hcl k hlt
      have HC := hid hcl
      clear hcl
      have hkc : k ≤ c := by omega
      go_wp2
      go_loop [18] (fun i => ∃ t : Nat, t ≤ k ∧ i = .int .i64 t ∧ Hid (∀ j, j < t → f k ≠ f j)) (fun i => k - (intOf i).toNat)
      case atStart => exact ⟨0, Nat.zero_le _, rfl, fun j hj => by omega⟩
      case round =>
        obtain ⟨t, ht, rfl, HT⟩ := hrel
        clear c1
        by_cases htl : t < k
        · have c2 := HC.out t (by omega)
          by_cases q : (f k == f t) = true
          · have Q := hid q
            go_wp2
            go_ret
            exact ⟨true, rfl, ⟨fun _ => ⟨k, hlt, t, htl, by simpa using Q.out⟩, fun _ => rfl⟩, Kp.refl _ _⟩
          · have q' : (f k == f t) = false := by simpa using q
            have Q := hid q'
            clear q
            go_wp2
            go_round
            case rel =>
              refine ⟨t + 1, by omega, by go_num, fun j hj => ?_⟩
              by_cases e : j = t
              · subst e; simpa using Q.out
              · exact HT.out j (by omega)
            case measure => simp [intOf]; omega
        · go_wp2
          go_round
          case rel =>
            refine ⟨k + 1, by omega, by go_num, fun i hi j hj => ?_⟩
            by_cases e : i = k
            · subst e; exact HT.out j (by omega)
            · exact HR.out i (by omega) j hj
          case measure => simp [intOf]; omega
    · go_wp2
      go_ret
      exact ⟨false, rfl, ⟨fun h => Bool.noConfusion h, fun ⟨i, hi, j, hj, e⟩ => absurd e (HR.out i (by omega) j hj)⟩, Kp.refl _ _⟩

set_option maxHeartbeats 2000000 in
/-- zzViewRepeat. -/
theorem viewRep_any (a : Option Addr) (n c : Nat) (E : Nat → Int × Int) (w : World) (hn : n ≤ 4096) (hc : n ≤ c) (hc2 : c ≤ maxLen) (h : Ents w a n E) :
    Calls Try.prog 13 #[.slice a n c] w (Says (¬ NoRep n E) w) := by
  have H := hid h
  clear h
  unfold maxLen at hc2
  go_enter Try.func13, Try.ntmps13
  go_wp2
  go_loopw [9] (fun i wr => ∃ k : Nat, k ≤ n ∧ i = .int .i64 k ∧ Hid ((∀ i, i < k → ∀ j, j < i → (E i).1 ≠ (E j).1) ∧ Kp All w wr)) (fun i _ => n - (intOf i).toNat)
  case atStart => exact ⟨0, Nat.zero_le _, rfl, fun j hj => by omega, Kp.refl _ _⟩
  case round =>
    obtain ⟨k, hk, rfl, HR⟩ := hrel
    by_cases hlt : k < n
    · obtain ⟨b, off, rfl, hb, hcl⟩ := ents_cells H.out (by omega)
      have c1 := (HR.out.2.cell (a := ⟨b, off + k * 2, none⟩) hb trivial).trans (hcl k hlt).1
      have c2 := (HR.out.2.cell (a := ⟨b, off + k * 2 + 1, none⟩) hb trivial).trans (hcl k hlt).2
      have HC := hid hcl
      clear hcl
      have hkc : k ≤ c := by omega
      have HX := hid (one_ent (t := 33) wr (E k))
      go_wp2
      go_loopw [18] (fun i wi => ∃ t : Nat, t ≤ k ∧ i = .int .i64 t ∧ Hid ((∀ j, j < t → (E k).1 ≠ (E j).1) ∧ Kp All w wi ∧ HeadIs wi wr.heap.size 33 2 (entF (fun _ => E k)))) (fun i _ => k - (intOf i).toNat)
      case atStart => exact ⟨0, Nat.zero_le _, rfl, fun j hj => by omega, HR.out.2.alloc _, HX.out⟩
      case round =>
        obtain ⟨t, ht, rfl, HT⟩ := hrel
        clear c1 c2 HX
        by_cases htl : t < k
        · have d1 := (HT.out.2.1.cell (a := ⟨b, off + t * 2, none⟩) hb trivial).trans (HC.out t (by omega)).1
          have d2 := (HT.out.2.1.cell (a := ⟨b, off + t * 2 + 1, none⟩) hb trivial).trans (HC.out t (by omega)).2
          have x1 := HT.out.2.2.cell (i := 0) (by omega)
          rw [entF_zero] at x1
          have lX := HT.out.2.2.lt
          by_cases q : ((E k).1 == (E t).1) = true
          · have Q := hid q
            go_wp2
            go_ret
            exact ⟨true, rfl, ⟨fun _ hr => hr k hlt t htl (by simpa using Q.out), fun _ => rfl⟩, HT.out.2.1.alloc _⟩
          · have q' : ((E k).1 == (E t).1) = false := by simpa using q
            have Q := hid q'
            clear q
            go_wp2
            go_roundw
            case rel =>
              refine ⟨t + 1, by omega, by go_num, fun j hj => ?_, HT.out.2.1.alloc _, HT.out.2.2.alloc _⟩
              by_cases e : j = t
              · subst e; simpa using Q.out
              · exact HT.out.1 j (by omega)
            case measure => simp [intOf]; omega
        · go_wp2
          go_roundw
          case rel =>
            refine ⟨k + 1, by omega, by go_num, fun i hi j hj => ?_, HT.out.2.1⟩
            by_cases e : i = k
            · subst e; exact HT.out.1 j (by omega)
            · exact HR.out.1 i (by omega) j hj
          case measure => simp [intOf]; omega
    · go_wp2
      go_ret
      exact ⟨false, rfl, ⟨fun h => Bool.noConfusion h, fun hr => absurd (fun i hi j hj => HR.out.1 i (by omega) j hj) hr⟩, HR.out.2⟩

end Go.Proofs.Qxb6003312a
