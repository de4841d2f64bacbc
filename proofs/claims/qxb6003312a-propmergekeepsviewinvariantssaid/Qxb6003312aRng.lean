/-
  The walks of the random source: the script, Rand.Uint64, bits.Mul64, uint64n, IntN.
-/
import Derived.Test.Qxb6003312aRows
import Derived.Test.Qxb6003312aBase
import Derived.WalkKit
import Derived.WalkSpells
import Derived.WalkLawsBesides
import Derived.Deep.QuietTactic
import Derived.BigQuiet
import Derived.Outline
import Derived.Shelf.Bits.Mul64
import Derived.Deep.RegionWith
import Derived.Deep.LoopGhost
namespace Go.Proofs.Qxb6003312a
open Go.RowKit Go.Deep

/-- The random source in memory: a Rand at block br over the script at block bs; 'left' words of it are to come. -/
def Rng (w : World) (br bs left : Nat) : Prop := ∃ (bd n : Nat) (s : Nat → Int) (idx : Nat), HeadIs w br 73 1 (fun _ => .iface 57 (.pointer (some ⟨bs, 0, none⟩))) ∧
  HeadIs w bs 59 2 (fun j => if j = 0 then .slice (some ⟨bd, 0, none⟩) n n else .int .i64 (idx : Nat)) ∧ HeadIs w bd 80 n (fun j => .int .u64 (s j)) ∧
  (∀ j : Nat, 0 ≤ s j ∧ s j ≤ 18446744073709551615) ∧ idx ≤ n ∧ n ≤ 65536 ∧ left = n - idx

theorem rng_step {w : World} {br bs bd n idx : Nat} {s : Nat → Int} (h1 : HeadIs w br 73 1 (fun _ => .iface 57 (.pointer (some ⟨bs, 0, none⟩))))
    (h2 : HeadIs w bs 59 2 (fun j => if j = 0 then .slice (some ⟨bd, 0, none⟩) n n else .int .i64 (idx : Nat))) (h3 : HeadIs w bd 80 n (fun j => .int .u64 (s j)))
    (hs : ∀ j : Nat, 0 ≤ s j ∧ s j ≤ 18446744073709551615) (hlt : idx < n) (hn : n ≤ 65536) (k : Nat) :
    Rng ((w.drewN k).setCell ⟨bs, 1, none⟩ (.int .i64 ((idx : Int) + 1))) br bs (n - (idx + 1)) := by
  have n1 : br ≠ bs := h1.ne h2 (by decide)
  have n3 : bd ≠ bs := h3.ne h2 (by decide)
  refine ⟨bd, n, s, idx + 1, (h1.drewN k).setOther n1 _, ((h2.drewN k).set 1 _).congr ?_, (h3.drewN k).setOther n3 _, hs, hlt, hn, rfl⟩
  intro j hj
  rcases (show j = 0 ∨ j = 1 by omega) with rfl | rfl <;> simp

theorem rng_drewN {w : World} {br bs left : Nat} (h : Rng w br bs left) (k : Nat) : Rng (w.drewN k) br bs left := h
theorem Rng.kp {w w' : World} {br bs left : Nat} {p : Nat → Prop} (h : Rng w br bs left) (k : Kp p w w') (hp : ∀ i, i < w.heap.size → (∃ t n f, (t = 73 ∨ t = 59 ∨ t = 80) ∧ HeadIs w i t n f) → p i) : Rng w' br bs left := by
  obtain ⟨bd, n, s, idx, h1, h2, h3, r⟩ := h
  exact ⟨bd, n, s, idx, h1.kp k (hp _ h1.lt ⟨_, _, _, .inl rfl, h1⟩), h2.kp k (hp _ h2.lt ⟨_, _, _, .inr (.inl rfl), h2⟩), h3.kp k (hp _ h3.lt ⟨_, _, _, .inr (.inr rfl), h3⟩), r⟩

set_option maxHeartbeats 400000 in
theorem script_any (br bs left : Nat) (w : World) (h : Rng w br bs left) :
    Calls Try.prog 63 #[.pointer (some ⟨bs, 0, none⟩)] w fun e w' => ∃ x : Int, e = .returned (.int .u64 x) ∧ 0 ≤ x ∧ x ≤ 18446744073709551615 ∧ (∃ left', Rng w' br bs left' ∧ (left' < left ∨ (left' = left ∧ x = 18446744073709551615))) ∧ Kp (· ≠ bs) w w' ∧ w'.heap.size = w.heap.size := by
  have HW : Hid (Rng w br bs left) := h
  obtain ⟨bd, n, s, idx, h1, h2, h3, hs, hi, hn, rfl⟩ := h
  have c0 := h2.cell (i := 0) (by omega)
  have c1 := h2.cell (i := 1) (by omega)
  have f1 := h2.frozen 1
  rw [if_pos rfl] at c0
  rw [if_neg (by omega)] at c1
  have H1 : Hid (HeadIs w br 73 1 (fun _ => .iface 57 (.pointer (some ⟨bs, 0, none⟩)))) := h1
  have H2 : Hid (HeadIs w bs 59 2 (fun j => if j = 0 then .slice (some ⟨bd, 0, none⟩) n n else .int .i64 (idx : Nat))) := h2
  have H3 : Hid (HeadIs w bd 80 n (fun j => .int .u64 (s j))) := h3
  clear h1 h2 h3
  by_cases hlt : idx < n
  · have c2 := H3.out.cell hlt
    obtain ⟨s1, s2⟩ := hs idx
    have HS : Hid (∀ j : Nat, 0 ≤ s j ∧ s j ≤ 18446744073709551615) := hs
    clear hs
    go_enter Try.func63, Try.ntmps63
    go_wp2
    go_quiet (fail)
    go_wp2
    go_quiet (fail)
    go_wp2
    go_ret
    exact ⟨s idx, rfl, s1, s2, ⟨_, rng_step H1.out H2.out H3.out HS.out hlt hn _, .inl (by omega)⟩, ((Kp.refl _ _).drewN _).setCell (fun _ h => h rfl) _, by rw [nblk_setCell]; rfl⟩
  · clear hs
    go_enter Try.func63, Try.ntmps63
    go_wp2
    go_quiet (fail)
    go_wp2
    go_ret
    exact ⟨18446744073709551615, rfl, by decide, by decide, ⟨_, rng_drewN HW.out _, .inr ⟨rfl, rfl⟩⟩, (Kp.refl _ _).drewN _, rfl⟩

theorem method_script (a : Addr) (w : World) : (method 211 57 (.pointer (some a)) "Uint64").run Try.prog w = .ok (63, .pointer (some a)) w := by kernel_rfl

set_option maxHeartbeats 400000 in
theorem uint64_any (br bs left : Nat) (w : World) (h : Rng w br bs left) :
    Calls Try.prog 43 #[.pointer (some ⟨br, 0, none⟩)] w fun e w' => ∃ x : Int, e = .returned (.int .u64 x) ∧ 0 ≤ x ∧ x ≤ 18446744073709551615 ∧ (∃ left', Rng w' br bs left' ∧ (left' < left ∨ (left' = left ∧ x = 18446744073709551615))) ∧ Kp (· ≠ bs) w w' ∧ w'.heap.size = w.heap.size := by
  have H : Hid (Rng w br bs left) := h
  obtain ⟨bd, n, s, idx, h1, h2, h3, hs, hi, hn, rfl⟩ := h
  have c0 := h1.cell (i := 0) (by omega)
  clear h1 h2 h3 hs hi hn
  have hm := method_script ⟨bs, 0, none⟩
  go_enter Try.func43, Try.ntmps43
  go_wp2_with (go_at_call 63; refine (script_any br bs (n - idx) _ H.out).mono ?_; rintro e w' ⟨x, rfl, hx⟩)
  go_ret
  exact ⟨x, rfl, hx⟩

set_option maxHeartbeats 1000000 in
theorem mul64_any (x y : Nat) (hx : x < 18446744073709551616) (hy : y < 18446744073709551616) (w : World) :
    Calls Try.prog 44 #[.int .u64 x, .int .u64 y] w fun e w' => e = .returned (.tuple #[.int .u64 ((x * y / 18446744073709551616 : Nat) : Int), .int .u64 ((x * y % 18446744073709551616 : Nat) : Int)]) ∧ w' = w := by
  obtain ⟨bd, bt, bw, hhi⟩ := Lib.mul64_hi x y hx hy
  have ba := Lib.half_mul_le (a := x / 4294967296) (b := y / 4294967296) (by omega) (by omega)
  have bb := Lib.half_mul_le (a := x / 4294967296) (b := y % 4294967296) (by omega) (by omega)
  have bc := Lib.half_mul_le (a := x % 4294967296) (b := y / 4294967296) (by omega) (by omega)
  have ba' : x / 4294967296 * (y / 4294967296) < 18446744073709551616 := by omega
  have bb' : x / 4294967296 * (y % 4294967296) < 18446744073709551616 := by omega
  have bc' : x % 4294967296 * (y / 4294967296) < 18446744073709551616 := by omega
  have bh1 : x / 4294967296 * (y / 4294967296) + (x / 4294967296 * (y % 4294967296) + x % 4294967296 * (y % 4294967296) / 4294967296) / 4294967296 < 18446744073709551616 := by omega
  have bh : x / 4294967296 * (y / 4294967296) + (x / 4294967296 * (y % 4294967296) + x % 4294967296 * (y % 4294967296) / 4294967296) / 4294967296 + ((x / 4294967296 * (y % 4294967296) + x % 4294967296 * (y % 4294967296) / 4294967296) % 4294967296 + x % 4294967296 * (y / 4294967296)) / 4294967296 < 18446744073709551616 := by omega
  go_enter Try.func44, Try.ntmps44
  go_wp2
  simp only [Mul64.maskN x hx, Mul64.maskN y hy, Mul64.divN, Mul64.mulN, Mul64.addN, Mul64.wrapN _ bd, Mul64.wrapN _ bb', Mul64.wrapN _ bt, Mul64.maskN _ bt, Mul64.wrapN _ bc', Mul64.wrapN _ bw, Mul64.wrapN _ ba', Mul64.wrapN _ bh1, Mul64.wrapN _ bh, Mul64.wrapM (x * y)]
  rw [hhi]
  go_ret2
  exact ⟨rfl, rfl⟩

/-- What a draw below n leaves. -/
def Drawn (n : Int) (br bs : Nat) (w : World) (e : Int) (w' : World) : Prop := 0 ≤ e ∧ e < n ∧ (∃ left', Rng w' br bs left') ∧ Kp (· ≠ bs) w w' ∧ w'.heap.size = w.heap.size

theorem and_lt (x n : Int) (h0 : 0 ≤ x) (h1 : x ≤ 18446744073709551615) (n1 : 1 ≤ n) (n2 : n ≤ 65536) : 0 ≤ bits .and .u64 x (n - 1) ∧ bits .and .u64 x (n - 1) < n := by
  obtain ⟨a, rfl⟩ := Int.eq_ofNat_of_zero_le h0
  obtain ⟨b, hb⟩ := Int.eq_ofNat_of_zero_le (show 0 ≤ n - 1 by omega)
  rw [hb, bits_and_u64_nat a b (by omega) (by omega)]
  have := Nat.and_le_right (n := a) (m := b)
  omega

theorem mul_hi (x n : Int) (h0 : 0 ≤ x) (h1 : x ≤ 18446744073709551615) (n1 : 1 ≤ n) (n2 : n ≤ 65536) (w : World) :
    Calls Try.prog 44 #[.int .u64 x, .int .u64 n] w fun e w' => ∃ hi lo : Int, e = .returned (.tuple #[.int .u64 hi, .int .u64 lo]) ∧ 0 ≤ hi ∧ hi < n ∧ 0 ≤ lo ∧ lo ≤ 18446744073709551615 ∧ (x = 18446744073709551615 → n ≤ lo) ∧ w' = w := by
  obtain ⟨a, rfl⟩ := Int.eq_ofNat_of_zero_le h0
  obtain ⟨b, rfl⟩ := Int.eq_ofNat_of_zero_le (show 0 ≤ n by omega)
  refine (mul64_any a b (by omega) (by omega) w).mono ?_
  rintro e w' ⟨rfl, rfl⟩
  refine ⟨_, _, rfl, by omega, ?_, by omega, by omega, ?_, rfl⟩
  · have h : a * b < b * 18446744073709551616 := by rw [Nat.mul_comm b]; exact Nat.mul_lt_mul_of_pos_right (by omega) (by omega)
    have := (Nat.div_lt_iff_lt_mul (by omega)).2 h
    omega
  · intro hx
    have ha : a = 18446744073709551615 := by omega
    have e : a * b = b * 18446744073709551616 - b := by rw [ha]; omega
    have e2 : a * b = (18446744073709551616 - b) + (b - 1) * 18446744073709551616 := by omega
    have e3 : a * b % 18446744073709551616 = 18446744073709551616 - b := by
      rw [e2, Nat.add_mul_mod_self_right, Nat.mod_eq_of_lt (by omega)]
    rw [e3]
    omega

theorem thr (n : Int) (n1 : 1 ≤ n) : 0 ≤ (IntKind.u64.wrap (-n)).tmod n ∧ (IntKind.u64.wrap (-n)).tmod n < n := by
  have h : 0 ≤ IntKind.u64.wrap (-n) := by rw [IntKind.wrap_u64]; omega
  exact ⟨Int.tmod_nonneg _ h, Int.tmod_lt_of_pos _ (by omega)⟩

set_option maxHeartbeats 1000000 in
theorem uint64n_any (n : Int) (br bs left : Nat) (w : World) (n1 : 1 ≤ n) (n2 : n ≤ 65536) (h : Rng w br bs left) :
    Calls Try.prog 41 #[.pointer (some ⟨br, 0, none⟩), .int .u64 n] w fun e w' => ∃ x : Int, e = .returned (.int .u64 x) ∧ Drawn n br bs w x w' := by
  have H : Hid (Rng w br bs left) := h
  clear h
  by_cases hp : (bits .and .u64 n (n - 1) == 0) = true
  · go_enter Try.func41, Try.ntmps41
    go_wp2_with (go_at_call 43; refine (uint64_any br bs left _ H.out).mono ?_; rintro e w' ⟨x, rfl, hx0, hx1, ⟨l', hl', _⟩, hk, hsz⟩)
    go_ret
    exact ⟨_, rfl, (and_lt x n hx0 hx1 n1 n2).1, (and_lt x n hx0 hx1 n1 n2).2, ⟨l', hl'⟩, hk, hsz⟩
  · have hp' : (bits .and .u64 n (n - 1) == 0) = false := by simpa using hp
    clear hp
    go_enter Try.func41, Try.ntmps41
    go_wp2_with fail
    refine (uint64_any br bs left _ H.out).mono ?_
    rintro e w1 ⟨x, rfl, hx0, hx1, ⟨l1, hl1, hlx⟩, hk, hsz⟩
    have HL : Hid (Rng w1 br bs l1) := hl1
    have HK : Hid (Kp (· ≠ bs) w w1 ∧ w1.heap.size = w.heap.size) := ⟨hk, hsz⟩
    clear hl1 hlx hk hsz
    go_wp2_with fail
    refine (mul_hi x n hx0 hx1 n1 n2 _).mono ?_
    rintro e w1 ⟨hi, lo, rfl, q1, q2, q3, q4, _, rfl⟩
    by_cases hlo : lo < n
    · have ht := thr n n1
      go_wp2
      generalize (IntKind.u64.wrap (-n)).tmod n = t at ht ⊢
      obtain ⟨t1, t2⟩ := ht
      go_loopg [5, 6] (l1 + 1) (fun k h l wr => ∃ (hi lo : Int) (lf : Nat), h = .int .u64 hi ∧ l = .int .u64 lo ∧ 0 ≤ hi ∧ hi < n ∧ 0 ≤ lo ∧ lo ≤ 18446744073709551615 ∧ Hid (Rng wr br bs lf ∧ Kp (· ≠ bs) w wr ∧ wr.heap.size = w.heap.size) ∧ (lf < k ∨ (lf ≤ k ∧ t ≤ lo)))
      case atStart => exact ⟨hi, lo, l1, rfl, rfl, q1, q2, q3, q4, ⟨HL.out, HK.out⟩, .inl (by omega)⟩
      case round =>
        clear q1 q2 q3 q4 hlo
        obtain ⟨hi, lo, lf, rfl, rfl, q1, q2, q3, q4, HR, hk⟩ := hrel
        by_cases hlt : lo < t
        · have hlf : lf < gk := by omega
          clear hk
          go_wp2_with fail
          refine (uint64_any br bs lf _ HR.out.1).mono ?_
          rintro e w2 ⟨x2, rfl, hy0, hy1, ⟨l2, hl2, hlx⟩, hk2, hsz2⟩
          have H2 : Hid (Rng w2 br bs l2 ∧ Kp (· ≠ bs) w w2 ∧ w2.heap.size = w.heap.size) := ⟨hl2, HR.out.2.1.trans hk2, hsz2.trans HR.out.2.2⟩
          have HX : Hid (l2 < lf ∨ l2 = lf ∧ x2 = 18446744073709551615) := hlx
          clear hl2 hlx hk2 hsz2
          go_wp2_with fail
          refine (mul_hi x2 n hy0 hy1 n1 n2 _).mono ?_
          rintro e w2 ⟨hi2, lo2, rfl, p1, p2, p3, p4, p5, rfl⟩
          have HP : Hid (x2 = 18446744073709551615 → n ≤ lo2) := p5
          clear p5
          go_wp2
          go_roundg lf
          case measure => exact hlf
          case rel =>
            refine ⟨hi2, lo2, l2, rfl, rfl, p1, p2, p3, p4, H2, ?_⟩
            rcases HX.out with h | ⟨h, hx⟩
            · exact .inl h
            · exact .inr ⟨by omega, by have := HP.out hx; omega⟩
        · go_wp2
          go_ret
          exact ⟨hi, rfl, q1, q2, ⟨lf, HR.out.1⟩, HR.out.2⟩
    · go_wp2
      go_ret
      exact ⟨hi, rfl, q1, q2, ⟨l1, HL.out⟩, HK.out⟩

theorem intN_any (n : Int) (br bs left : Nat) (w : World) (n1 : 1 ≤ n) (n2 : n ≤ 65536) (h : Rng w br bs left) :
    Calls Try.prog 34 #[.pointer (some ⟨br, 0, none⟩), .int .i64 n] w fun e w' => ∃ x : Int, e = .returned (.int .i64 x) ∧ Drawn n br bs w x w' := by
  have H : Hid (Rng w br bs left) := h
  clear h
  go_enter Try.func34, Try.ntmps34
  go_wp2_with fail
  refine (uint64n_any n br bs left _ n1 n2 H.out).mono ?_
  rintro e w1 ⟨x, rfl, hd⟩
  have x1 := hd.1
  have x2 := hd.2.1
  have HD : Hid (Drawn n br bs w x w1) := hd
  clear hd
  go_wp2
  go_ret
  exact ⟨x, rfl, HD.out⟩

end Go.Proofs.Qxb6003312a
