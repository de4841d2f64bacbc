/-
  The walk of merge: the places that may be replaced, then the entries one by one.
-/
import Derived.Test.Qxb6003312aHolds
import Derived.Maps.AppendAt
import Derived.Outline
namespace Go.Proofs.Qxb6003312a
open Go.RowKit Go.Deep

theorem inf3 : (Try.prog.info? 3).map (fun i => (i.zero, i.size, i.bytes)) = some (some (.int .i64 0), 1, 8) := by kernel_rfl

/-- append to a slice of the call's own in a region that draws; where the new slice lies. -/
theorem step_append_at {P : Program} {ops : Array Oper} {o : Oper} {a : Act} {w : World} {K : Act → World → Prop} {Q : Exit → Act → World → Prop} {E : Prop}
    (hg : o.guard = none) (s x : Operand) (t : TypeId) (hop : o.op = Op.call { callee := Callee.builtin Builtin.append, args := #[s, x], argTypes := #[t, t] })
    (base : Nat) (e : TypeId) (i : TypeInfo) (z : Value) (size bytes : Nat) (h1 : P.underlying t = some (.slice e)) (h2 : P.info? e = some i) (h3 : i.zero = some z) (h4 : i.size = size) (h5 : i.bytes = bytes) (h6 : z.cells.size = size) (h7 : 0 < size)
    (v : Value) (n : Nat) (xs : List Value) (hs : a.eval s = v)
    (ad : Addr) (m c : Nat) (news : List Value) (hx : a.eval x = .slice (some ad) m c) (hown : w.ownsRow base e size v n xs) (hn : news.length = m * size) (hc : ∀ j u, news[j]? = some u → w.cell? (ad.add j) = some u) (h1c : ∀ u ∈ news, u.oneCell' = true)
    (b1 : n + m ≤ maxLen) (b2 : (n + m) * bytes ≤ 140737488355328) (hb : base ≤ w.heap.size)
    (hK : ∀ v' w', w'.ownsRow base e size v' (n + m) (xs ++ news) → w.grownBy w' v.ownBlock → (v'.ownBlock = v.ownBlock ∨ v'.ownBlock = some w.heap.size) → K (a.put o.dst v') w') :
    if Region.wanted o (yielded ops a.tmps) = true then Oper.wp P o a w K Q else E := by
  have hw : Region.wanted o (yielded ops a.tmps) = true := by simp [Region.wanted, hg]
  rw [if_pos hw]
  obtain ⟨v', w', hrun, r1, r2, _, r4⟩ := run_append_own_at (P := P) w base t o.type e i z size bytes h1 h2 h3 h4 h5 h6 h7 v n xs hown ad m c news hn hc h1c b1 b2 hb
  unfold Oper.wp
  simp [execOp, hop, resolve, invoke, builtin, hs, hx, hrun, Result.andThen]
  exact hK v' w' r1 r2 r4

/-- A list of places, as cells. -/
def natL (R : List Nat) : List Value := R.map fun (r : Nat) => Value.int .i64 (r : Int)
theorem natL_snoc (R : List Nat) (r : Nat) : natL R ++ [.int .i64 (r : Int)] = natL (R ++ [r]) := by simp [natL]

/-- The node's view while entries are merged. -/
def MSt (nd : Nat) (V0 S V : Value) (n : Nat) (E : Nat → Int × Int) (w W : World) : Prop :=
  Node W nd V S ∧ W.ownsRow 0 55 2 V n (entL E n) ∧ (∀ k, V.ownBlock = some k → V0.ownBlock = some k ∨ w.heap.size ≤ k) ∧ Kp (fun k => k ≠ nd ∧ V0.ownBlock ≠ some k) w W

theorem own_ents {W : World} {V : Value} {n : Nat} {E : Nat → Int × Int} (h : W.ownsRow 0 55 2 V n (entL E n)) : ∃ a c, V = .slice a n c ∧ Ents W a n E ∧ (n ≠ 0 → ∃ g, a = some ⟨g, 0, none⟩ ∧ OwnE W 55 g n c E ∧ V.ownBlock = some g) := by
  by_cases hv : V = .slice none 0 0
  · subst hv
    obtain ⟨_, ⟨_, hn⟩ | ⟨g', cap', cur, he, _⟩⟩ := h
    · subst hn; exact ⟨none, 0, rfl, .inl rfl, fun h => absurd rfl h⟩
    · cases he
  · obtain ⟨g, c, rfl, _, hE⟩ := OwnE.of_owns h hv
    exact ⟨_, c, rfl, Ents.of_head hE.head, fun _ => ⟨g, rfl, hE, rfl⟩⟩

theorem own_ne {W : World} {V : Value} {n e z : Nat} {xs : List Value} (h : W.ownsRow 0 e z V n xs) {k : Nat} (hk : V.ownBlock = some k) : ∀ i t' m f, HeadIs W i t' m f → t' ≠ e → i ≠ k := by
  obtain ⟨_, ⟨rfl, _⟩ | ⟨g, cap, cur, rfl, hb, hg, _⟩⟩ := h
  · simp [Value.ownBlock] at hk
  · simp [Value.ownBlock] at hk
    subst hk
    intro i t' m f hf ht e
    subst e
    obtain ⟨c, hc, _⟩ := hf
    rw [hg] at hc
    simp at hc
    exact ht hc.2.symm

theorem own_lt {W : World} {V : Value} {n e z : Nat} {xs : List Value} (h : W.ownsRow 0 e z V n xs) {k : Nat} (hk : V.ownBlock = some k) : k < W.heap.size := by
  obtain ⟨_, ⟨rfl, _⟩ | ⟨g, cap, cur, rfl, hb, hg, _⟩⟩ := h
  · simp [Value.ownBlock] at hk
  · simp [Value.ownBlock] at hk
    subst hk
    exact (Array.getElem?_eq_some_iff.1 hg).1

theorem own_kp {W W' : World} {V : Value} {n e z B : Nat} {xs : List Value} {p : Nat → Prop} (h : W.ownsRow B e z V n xs) (k : Kp p W W') (hp : ∀ g, V.ownBlock = some g → p g) : W'.ownsRow B e z V n xs := by
  obtain ⟨hl, ⟨rfl, hn⟩ | ⟨g, cap, cur, rfl, hb, hg, hr⟩⟩ := h
  · exact ⟨hl, .inl ⟨rfl, hn⟩⟩
  · exact ⟨hl, .inr ⟨g, cap, cur, rfl, hb, (k.block g (Array.getElem?_eq_some_iff.1 hg).1 (hp g rfl)).trans hg, hr⟩⟩

namespace MSt
variable {nd : Nat} {V0 S V : Value} {n : Nat} {E : Nat → Int × Int} {w W W' : World}
theorem all (h : MSt nd V0 S V n E w W) (k : Kp All W W') : MSt nd V0 S V n E w W' :=
  ⟨h.1.kp k trivial, own_kp h.2.1 k (fun _ _ => trivial), h.2.2.1, h.2.2.2.then_ k (fun _ _ _ => trivial)⟩
theorem ndne (h : MSt nd V0 S V n E w W) {k : Nat} (hk : V.ownBlock = some k) : nd ≠ k := by
  obtain ⟨F, hF, _⟩ := h.1
  exact own_ne h.2.1 hk nd 63 7 F hF (by decide)
/-- The view grown by an entry. -/
theorem grow (h : MSt nd V0 S V n E w W) {V' : Value} {x : Int × Int} {Y : Obj} (hO : W'.ownsRow 0 55 2 V' (n + 1) (entL E n ++ entL (fun _ => x) 1)) (hG : (W.alloc Y).drew.grownBy W' V.ownBlock) (hA : V'.ownBlock = V.ownBlock ∨ V'.ownBlock = some (W.alloc Y).drew.heap.size) :
    Node W' nd V S ∧ nd < W'.heap.size ∧ MSt nd V0 S V' (n + 1) (put E n x) w (W'.setCell ⟨nd, 0, none⟩ V') ∧ Kp (fun k => V.ownBlock ≠ some k) W W' := by
  have hk : Kp (fun k => V.ownBlock ≠ some k) W W' := (((Kp.refl _ W).alloc Y).drew).grown hG (fun k hk _ hp => hp hk)
  have hN : Node W' nd V S := h.1.kp hk (fun e => h.ndne e rfl)
  have he : entL E n ++ entL (fun _ => x) 1 = entL (put E n x) (n + 1) := by
    apply List.ext_getElem?
    intro j
    by_cases hj : j < n * 2
    · rw [List.getElem?_append_left (by rw [entL_len]; exact hj)]
      unfold entL
      rw [List.getElem?_map, List.getElem?_map, List.getElem?_range hj, List.getElem?_range (by omega)]
      simp only [Option.map_some]
      unfold entF put
      rw [if_neg (show ¬ j / 2 = n by omega)]
    · rw [List.getElem?_append_right (by rw [entL_len]; omega), entL_len]
      by_cases h2 : j < (n + 1) * 2
      · unfold entL
        rw [List.getElem?_map, List.getElem?_map, List.getElem?_range (show j - n * 2 < 1 * 2 by omega), List.getElem?_range h2]
        simp only [Option.map_some]
        unfold entF put
        rw [if_pos (show j / 2 = n by omega), show (j - n * 2) % 2 = j % 2 by omega]
      · rw [List.getElem?_eq_none (by rw [entL_len]; omega), List.getElem?_eq_none (by rw [entL_len]; omega)]
  rw [he] at hO
  have hlt := hN.lt
  obtain ⟨F, hF, _⟩ := hN
  have hnd : ∀ k, V'.ownBlock = some k → nd ≠ k := fun k hk' => own_ne hO hk' nd 63 7 F hF (by decide)
  have hN : Node W' nd V S := ⟨F, hF, by assumption⟩
  refine ⟨hN, hlt, ⟨hN.setView V', own_kp (p := (· ≠ nd)) hO ((Kp.refl _ _).setCell (fun _ h => h rfl) _) (fun g hg e => hnd g hg e.symm), fun k hk' => ?_, ?_⟩, hk⟩
  · rcases hA with e | e
    · exact h.2.2.1 k (e ▸ hk')
    · rw [e] at hk'
      injection hk' with hk'
      subst hk'
      refine .inr (Nat.le_trans h.2.2.2.size ?_)
      show W.heap.size ≤ (W.alloc Y).heap.size
      rw [nblk_alloc]; omega
  · refine (h.2.2.2.then_ hk (fun i hi hp e => ?_)).setCell (fun _ h => h.1 rfl) _
    rcases h.2.2.1 i e with e2 | e2
    · exact hp.2 e2
    · omega
/-- An entry of the view put anew. -/
theorem putAt (h : MSt nd V0 S V n E w W) {g : Nat} (hg : V.ownBlock = some g) (r : Nat) (x : Int × Int) : MSt nd V0 S V n (put E r x) w ((W.setCell ⟨g, r * 2, none⟩ (.int .i64 x.1)).setCell ⟨g, r * 2 + 1, none⟩ (.int .i64 x.2)) := by
  have hne := h.ndne hg
  have hv : V ≠ .slice none 0 0 := fun e => by subst e; simp [Value.ownBlock] at hg
  obtain ⟨g', c, rfl, _, hE⟩ := OwnE.of_owns h.2.1 hv
  simp [Value.ownBlock] at hg
  subst hg
  refine ⟨(h.1.setOther hne _).setOther hne _, ((hE.set r x.1 x.2).congr (fun i _ => ?_)).owns (Nat.zero_le _), h.2.2.1, (h.2.2.2.setCell (fun hlt hp => ?_) _).setCell (fun hlt hp => ?_) _⟩
  · unfold put; rfl
  all_goals
    rcases h.2.2.1 g' rfl with e | e
    · exact hp.2 e
    · have : g' < w.heap.size := hlt
      omega
end MSt

/-- The places that may still be replaced, as a slice. -/
def Reps (W : World) (Rv : Value) (R : List Nat) : Prop :=
  ∃ a c, Rv = .slice a R.length c ∧ R.length ≤ c ∧ (R = [] ∨ ∃ rb off f, a = some ⟨rb, off, none⟩ ∧ HeadIs W rb 3 (off + R.length) f ∧ ∀ (i r : Nat), R[i]? = some r → f (off + i) = .int .i64 (r : Int))

theorem Reps.kp {W W' : World} {Rv : Value} {R : List Nat} {p : Nat → Prop} (h : Reps W Rv R) (k : Kp p W W') (hp : ∀ i m f, HeadIs W i 3 m f → p i) : Reps W' Rv R := by
  obtain ⟨a, c, e, hl, h⟩ := h
  refine ⟨a, c, e, hl, ?_⟩
  rcases h with h | ⟨rb, off, f, ha, hH, hf⟩
  · exact .inl h
  · exact .inr ⟨rb, off, f, ha, hH.kp k (hp _ _ _ hH), hf⟩
theorem Reps.of_own {W : World} {B : Nat} {Rv : Value} {R : List Nat} (h : W.ownsRow B 3 1 Rv R.length (natL R)) : Reps W Rv R := by
  have h0 := h
  obtain ⟨hl, ⟨rfl, hn⟩ | ⟨g, cap, cur, rfl, hb, hg, hnc, hcm, hcs, htake⟩⟩ := h
  · have : R = [] := List.eq_nil_of_length_eq_zero hn
    subst this
    exact ⟨none, 0, rfl, Nat.le_refl _, .inl rfl⟩
  · refine ⟨_, cap, rfl, hnc, .inr ⟨g, 0, fun j => .int .i64 ((R[j]?.getD 0 : Nat) : Int), rfl, ⟨cur, hg, by omega, fun i hi => ?_⟩, fun i r hr => by simp [hr]⟩⟩
    have hu : (natL R)[i]? = some (.int .i64 ((R[i]?.getD 0 : Nat) : Int)) := by
      unfold natL
      rw [List.getElem?_map]
      have : i < R.length := by omega
      simp [this]
    have := h0.cells (g := g) rfl i _ hu
    rw [Go.WideShapes.add_plain] at this
    simp [World.cell?, hg] at this
    simpa using this

theorem mrun_stop {v c : Int} {F : Nat → Int × Int} {s : MS} {j : Nat} (h : (mrun v c F s j).stop = true) : ∀ m, j ≤ m → mrun v c F s m = mrun v c F s j
  | 0, hm => by rw [show j = 0 by omega]
  | m + 1, hm => by
    by_cases e : j = m + 1
    · rw [e]
    · show mstep v c (mrun v c F s m) (F m) = _
      rw [mrun_stop h m (by omega)]
      unfold mstep
      rw [if_pos h]

/-- What merge leaves. -/
def MergeP (nd : Nat) (V0 S : Value) (s : MS) (w : World) (e : Ending) (w' : World) : Prop := e = .returned (.tuple #[]) ∧ ∃ V, MSt nd V0 S V s.n s.E w w'

theorem new_int {x : Int} {t : TypeId} (w : World) : (w.alloc (.cells #[.int .i64 x] t)).cell? ⟨w.heap.size, 0, none⟩ = some (.int .i64 x) := by
  have hb := blk_alloc_new w (.cells #[.int .i64 x] t)
  unfold World.cell?
  dsimp only
  rw [hb]
  rfl

end Go.Proofs.Qxb6003312a
