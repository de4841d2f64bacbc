/-
  The walk of ask and of ZZAsk.
-/
import Derived.Test.Qxb6003312aDel
import Derived.Outline
namespace Go.Proofs.Qxb6003312a
open Go.RowKit Go.Deep

theorem inf2 : (Try.prog.info? 2).map (fun i => (i.zero, i.size, i.bytes)) = some (some (.int .i64 0), 1, 8) := by kernel_rfl
theorem build55 (a : Int) (w : World) : (Instr.build 55 #[(0, .int .i64 a)]).run Try.prog w = .ok (.agg #[.int .i64 a, .int .i64 0]) w := run_build w 55 _ _ (by kernel_rfl)

/-- An entry a round older. -/
def ag (E : Nat → Int × Int) (j : Nat) : Int × Int := ((E j).1, wrap64 ((E j).2 + 1))

theorem OwnE.setAge {w : World} {t : TypeId} {g n cap : Nat} {E : Nat → Int × Int} (h : OwnE w t g n cap E) (i : Nat) (y : Int) :
    OwnE (w.setCell ⟨g, i * 2 + 1, none⟩ (.int .i64 y)) t g n cap (fun j => if j = i then ((E j).1, y) else E j) := by
  obtain ⟨cur, hb, hn, hm, hs, hc⟩ := h
  refine ⟨cur.setIfInBounds (i * 2 + 1) (.int .i64 y), by simp [World.setCell, Array.getElem?_modify, hb], hn, hm, by simpa using hs, fun j hj => ?_⟩
  rw [Array.getElem?_setIfInBounds]
  by_cases e : j = i * 2 + 1
  · subst e
    rw [if_pos rfl, if_pos (by omega), entF_odd, if_pos rfl]
  · rw [if_neg (show ¬ i * 2 + 1 = j from fun h => e h.symm), hc j hj]
    unfold entF
    dsimp only
    by_cases e2 : j / 2 = i
    · rw [if_pos e2, if_pos (show j % 2 = 0 by omega), if_pos (show j % 2 = 0 by omega)]
    · rw [if_neg e2]

theorem age_upd (E : Nat → Int × Int) (k : Nat) : (fun j => if j = k then ((if j < k then ag E j else E j).1, wrap64 ((E k).2 + 1)) else if j < k then ag E j else E j) = fun j => if j < k + 1 then ag E j else E j := by
  funext j
  by_cases h1 : j = k
  · subst h1; rw [if_pos rfl, if_neg (by omega), if_pos (by omega)]; rfl
  · rw [if_neg h1]
    by_cases h2 : j < k
    · rw [if_pos h2, if_pos (by omega)]
    · rw [if_neg h2, if_neg (by omega)]

theorem Rng.alone {w : World} {br bs l : Nat} (h : Rng w br bs l) : ∃ n f, HeadIs w bs 59 n f := by
  obtain ⟨bd, m, s, idx, _, r2, _⟩ := h
  exact ⟨_, _, r2⟩

/-- What is known of node, view and source at a stage of ask. -/
def AskS (nd br bs A : Nat) (V S : Value) (n c : Nat) (E : Nat → Int × Int) (w W : World) : Prop :=
  Node W nd V S ∧ OwnE W 55 A n c E ∧ (∃ l, Rng W br bs l) ∧ Kp (fun k => k ≠ bs ∧ k ≠ nd ∧ k ≠ A) w W

theorem Rng.off {w w' : World} {br bs l b n : Nat} {t : TypeId} {f : Nat → Value} (h : Rng w br bs l) (k : Kp (· ≠ b) w w') (hb : HeadIs w b t n f) (ht : t ≠ 73 ∧ t ≠ 59 ∧ t ≠ 80) : Rng w' br bs l :=
  h.kp k (fun i _ ⟨t', n', f', h1, h2⟩ => by
    refine h2.ne hb ?_
    rcases h1 with rfl | rfl | rfl
    · exact fun e => ht.1 e.symm
    · exact fun e => ht.2.1 e.symm
    · exact fun e => ht.2.2 e.symm)

namespace AskS
variable {nd br bs A : Nat} {V S : Value} {n c : Nat} {E : Nat → Int × Int} {w W W' : World}
theorem ndA (h : AskS nd br bs A V S n c E w W) : A ≠ nd := h.1.ne h.2.1.head (by decide)
theorem bsA (h : AskS nd br bs A V S n c E w W) : A ≠ bs := by obtain ⟨l, hl⟩ := h.2.2.1; obtain ⟨m, f, r⟩ := hl.alone; exact h.2.1.head.ne r (by decide)
theorem bsnd (h : AskS nd br bs A V S n c E w W) : nd ≠ bs := by obtain ⟨l, hl⟩ := h.2.2.1; obtain ⟨m, f, r⟩ := hl.alone; exact fun e => h.1.ne r (by decide) e.symm
theorem setSent (h : AskS nd br bs A V S n c E w W) (S' : Value) : AskS nd br bs A V S' n c E w (W.setCell ⟨nd, 3, none⟩ S') := by
  have hA := h.ndA
  obtain ⟨h1, h2, ⟨l, h3⟩, h4⟩ := h
  have h1' := h1
  obtain ⟨F, hF, _⟩ := h1'
  exact ⟨h1.setSent S', h2.of_block (blk_setCell_other _ _ _ _ hA), ⟨l, h3.set hF (by decide) _ _⟩, h4.setCell (fun _ h => h.2.1 rfl) _⟩
theorem setView (h : AskS nd br bs A V S n c E w W) (V' : Value) : AskS nd br bs A V' S n c E w (W.setCell ⟨nd, 0, none⟩ V') := by
  have hA := h.ndA
  obtain ⟨h1, h2, ⟨l, h3⟩, h4⟩ := h
  have h1' := h1
  obtain ⟨F, hF, _⟩ := h1'
  exact ⟨h1.setView V', h2.of_block (blk_setCell_other _ _ _ _ hA), ⟨l, h3.set hF (by decide) _ _⟩, h4.setCell (fun _ h => h.2.1 rfl) _⟩
theorem setAge (h : AskS nd br bs A V S n c E w W) (i : Nat) (y : Int) : AskS nd br bs A V S n c (fun j => if j = i then ((E j).1, y) else E j) w (W.setCell ⟨A, i * 2 + 1, none⟩ (.int .i64 y)) := by
  have hA := h.ndA
  obtain ⟨h1, h2, ⟨l, h3⟩, h4⟩ := h
  exact ⟨h1.setOther (fun e => hA e.symm) _, h2.setAge i y, ⟨l, h3.set h2.head (by decide) _ _⟩, h4.setCell (fun _ h => h.2.2 rfl) _⟩
theorem source (h : AskS nd br bs A V S n c E w W) {l : Nat} (hr : Rng W' br bs l) (k : Kp (· ≠ bs) W W') : AskS nd br bs A V S n c E w W' :=
  ⟨h.1.kp k h.bsnd, h.2.1.kp k h.bsA, ⟨l, hr⟩, h.2.2.2.then_ k (fun _ _ hp => hp.1)⟩
theorem viewTo (h : AskS nd br bs A V S n c E w W) {n' : Nat} {E' : Nat → Int × Int} (hO : OwnE W' 55 A n' c E') (k : Kp (· ≠ A) W W') : AskS nd br bs A V S n' c E' w W' := by
  have hA := h.ndA
  obtain ⟨h1, h2, ⟨l, h3⟩, h4⟩ := h
  exact ⟨h1.kp k (fun e => hA e.symm), hO, ⟨l, h3.off k h2.head (by decide)⟩, h4.then_ k (fun _ _ hp => hp.2.2)⟩
theorem all (h : AskS nd br bs A V S n c E w W) (k : Kp All W W') : AskS nd br bs A V S n c E w W' := by
  obtain ⟨h1, h2, ⟨l, h3⟩, h4⟩ := h
  exact ⟨h1.kp k trivial, h2.kp k trivial, ⟨l, h3.kp k (fun _ _ _ => trivial)⟩, h4.then_ k (fun _ _ _ => trivial)⟩
theorem congr (h : AskS nd br bs A V S n c E w W) {F : Nat → Int × Int} (e : ∀ i, i < n → E i = F i) : AskS nd br bs A V S n c F w W := ⟨h.1, h.2.1.congr e, h.2.2⟩
end AskS

/-- append to a slice of the call's own, as one step of a region that draws. -/
theorem step_append_own {P : Program} {ops : Array Oper} {o : Oper} {a : Act} {w : World} {K : Act → World → Prop} {Q : Exit → Act → World → Prop} {E : Prop}
    (hg : o.guard = none) (s x : Operand) (t : TypeId) (hop : o.op = Op.call { callee := Callee.builtin Builtin.append, args := #[s, x], argTypes := #[t, t] })
    (base : Nat) (e : TypeId) (i : TypeInfo) (z : Value) (size bytes : Nat) (h1 : P.underlying t = some (.slice e)) (h2 : P.info? e = some i) (h3 : i.zero = some z) (h4 : i.size = size) (h5 : i.bytes = bytes) (h6 : z.cells.size = size) (h7 : 0 < size)
    (v : Value) (n : Nat) (xs : List Value) (hs : a.eval s = v)
    (ad : Addr) (m c : Nat) (news : List Value) (hx : a.eval x = .slice (some ad) m c) (hown : w.ownsRow base e size v n xs) (hn : news.length = m * size) (hc : ∀ j u, news[j]? = some u → w.cell? (ad.add j) = some u) (h1c : ∀ u ∈ news, u.oneCell' = true)
    (b1 : n + m ≤ maxLen) (b2 : (n + m) * bytes ≤ 140737488355328) (hb : base ≤ w.heap.size)
    (hK : ∀ v' w', w'.ownsRow base e size v' (n + m) (xs ++ news) → w.grownBy w' v.ownBlock → K (a.put o.dst v') w') :
    if Region.wanted o (yielded ops a.tmps) = true then Oper.wp P o a w K Q else E := by
  have hw : Region.wanted o (yielded ops a.tmps) = true := by simp [Region.wanted, hg]
  rw [if_pos hw]
  obtain ⟨v', w', hrun, r1, r2, _⟩ := run_append_own (P := P) w base t o.type e i z size bytes h1 h2 h3 h4 h5 h6 h7 v n xs hown ad m c news hn hc h1c b1 b2 hb
  unfold Oper.wp
  simp [execOp, hop, resolve, invoke, builtin, hs, hx, hrun, Result.andThen]
  exact hK v' w' r1 r2

/-- The nodes that the first t of the entries name. -/
def idL (D : Nat → Int × Int) (t : Nat) : List Value := (List.range t).map fun j => Value.int .i64 (D j).1
theorem idL_succ (D : Nat → Int × Int) (t : Nat) : idL D (t + 1) = idL D t ++ [.int .i64 (D t).1] := by
  unfold idL
  rw [List.range_succ, List.map_append]
  rfl

/-- What is known while the nodes sent are gathered. -/
def AskT (nd br bs A : Nat) (V S : Value) (n c : Nat) (E : Nat → Int × Int) (g m c2 B t : Nat) (D : Nat → Int × Int) (w W : World) : Prop :=
  AskS nd br bs A V S n c E w W ∧ OwnE W 55 g m c2 D ∧ W.ownsRow B 2 1 S t (idL D t) ∧ B ≤ W.heap.size ∧ w.heap.size ≤ B ∧ w.heap.size ≤ g

theorem AskS.part {nd br bs A : Nat} {V S : Value} {n c : Nat} {E : Nat → Int × Int} {w W W' : World} {q : Nat → Prop} (h : AskS nd br bs A V S n c E w W) (k : Kp q W W') (hq : ∀ i t m f, HeadIs W i t m f → t ≠ 2 → q i) (hw : ∀ i, i < w.heap.size → q i) : AskS nd br bs A V S n c E w W' := by
  obtain ⟨h1, h2, ⟨l, h3⟩, h4⟩ := h
  have h1' := h1
  obtain ⟨F, hF, _⟩ := h1'
  refine ⟨h1.kp k (hq _ _ _ _ hF (by decide)), h2.kp k (hq _ _ _ _ h2.head (by decide)), ⟨l, h3.kp k (fun i _ ⟨t, m, f, ht, hf⟩ => hq _ _ _ _ hf ?_)⟩, h4.then_ k (fun i hi _ => hw i hi)⟩
  rcases ht with rfl | rfl | rfl <;> decide

theorem own_ty {W : World} {B t : Nat} {S : Value} {xs : List Value} (h : W.ownsRow B 2 1 S t xs) {k : Nat} (hk : S.ownBlock = some k) : B ≤ k ∧ ∀ i t' m f, HeadIs W i t' m f → t' ≠ 2 → i ≠ k := by
  obtain ⟨_, ⟨rfl, _⟩ | ⟨g, cap, cur, rfl, hb, hg, _⟩⟩ := h
  · simp [Value.ownBlock] at hk
  · simp [Value.ownBlock] at hk
    subst hk
    refine ⟨hb, fun i t' m f hf ht e => ?_⟩
    subst e
    obtain ⟨c, hc, _⟩ := hf
    rw [hg] at hc
    simp at hc
    exact ht hc.2.symm

theorem ask_app {nd br bs A : Nat} {V S : Value} {n c : Nat} {E : Nat → Int × Int} {g m c2 B t : Nat} {D : Nat → Int × Int} {w wr w' : World} {X Y : Obj} {v' : Value} (h : AskT nd br bs A V S n c E g m c2 B t D w wr)
    (hO : w'.ownsRow B 2 1 v' (t + 1) (idL D t ++ [.int .i64 (D t).1])) (hG : ((wr.alloc X).alloc Y).drew.grownBy w' S.ownBlock) :
    ∃ g' cap', v' = .slice (some ⟨g', 0, none⟩) (t + 1) cap' ∧ AskS nd br bs A V S n c E w w' ∧ OwnE w' 55 g m c2 D ∧ w'.ownsRow B 2 1 (.slice (some ⟨g', 0, none⟩) (t + 1) cap') (t + 1) (idL D (t + 1)) ∧ B ≤ w'.heap.size ∧ w.heap.size ≤ B ∧ w.heap.size ≤ g ∧ B ≤ g' := by
  obtain ⟨h1, h2, h3, h4, h5, h6⟩ := h
  have hk : Kp (fun k => S.ownBlock ≠ some k) wr w' := ((((Kp.refl _ wr).alloc X).alloc Y).drew).grown hG (fun k hk _ hp => hp hk)
  have hq : ∀ i t' m f, HeadIs wr i t' m f → t' ≠ 2 → S.ownBlock ≠ some i := fun i t' m f hf ht e => (own_ty h3 e).2 i t' m f hf ht rfl
  have hO' := hO
  rw [← idL_succ] at hO
  obtain ⟨_, ⟨rfl, hn⟩ | ⟨g', cap', cur, rfl, hb, hg, _⟩⟩ := hO'
  · omega
  · exact ⟨g', cap', rfl, h1.part hk hq (fun i hi e => by have := (own_ty h3 e).1; omega), h2.kp hk (hq _ _ _ _ h2.head (by decide)), hO, Nat.le_trans h4 hk.size, h5, h6, hb⟩

theorem ask_app2 {nd br bs A : Nat} {V S S' : Value} {n c : Nat} {E : Nat → Int × Int} {g m c2 B t : Nat} {D : Nat → Int × Int} {w W : World} (h : AskS nd br bs A V S n c E w W ∧ OwnE W 55 g m c2 D ∧ W.ownsRow B 2 1 S' t (idL D t) ∧ B ≤ W.heap.size ∧ w.heap.size ≤ B ∧ w.heap.size ≤ g) :
    AskT nd br bs A V S' n c E g m c2 B t D w (W.setCell ⟨nd, 3, none⟩ S') := by
  obtain ⟨h1, h2, h3, h4, h5, h6⟩ := h
  have h1' := h1.1
  obtain ⟨F, hF, _⟩ := h1'
  refine ⟨h1.setSent S', h2.of_block (blk_setCell_other _ _ _ _ (h2.head.ne hF (by decide))), ?_, by rw [nblk_setCell]; exact h4, h5, h6⟩
  have hn : ∀ k, S'.ownBlock = some k → k ≠ nd := fun k e => fun e2 => (own_ty h3 e).2 nd 63 7 F hF (by decide) e2.symm
  exact h3.kept ⟨rfl, rfl, rfl, by rw [nblk_setCell]; exact Nat.le_refl _, fun k hk hne => blk_setCell_other _ _ _ _ (fun e => hne (by rw [e]))⟩ (row := some nd) (by
    cases hs : S'.ownBlock with
    | none => exact .inl rfl
    | some k => exact .inr (fun e => hn k hs (by injection e)))

theorem hid {p : Prop} (h : p) : Hid p := h

theorem one_cell {x : Int} : ∀ u ∈ [Value.int .i64 x], u.oneCell' = true := by
  intro u hu
  simp at hu
  subst hu
  rfl

theorem app_side {wr : World} {B t : Nat} {S : Value} {xs : List Value} {x : Int} (h : wr.ownsRow B 2 1 S t xs) (hB : B ≤ wr.heap.size) {X Y : Obj} (hY : Y = .cells #[.int .i64 x] 2) :
    ((wr.alloc X).alloc Y).drew.ownsRow B 2 1 S t xs ∧ (∀ j u, [Value.int .i64 x][j]? = some u → ((wr.alloc X).alloc Y).drew.cell? ((⟨wr.heap.size + 1, 0, none⟩ : Addr).add j) = some u) ∧ B ≤ ((wr.alloc X).alloc Y).drew.heap.size := by
  subst hY
  refine ⟨(h.alloc X).alloc _, fun j u hu => ?_, ?_⟩
  · match j, hu with
    | 0, hu =>
      simp at hu
      subst hu
      have e : (wr.alloc X).heap.size = wr.heap.size + 1 := nblk_alloc _ _
      have hb := blk_alloc_new (wr.alloc X) (.cells #[.int .i64 x] 2)
      rw [e] at hb
      rw [Go.WideShapes.add_plain]
      show World.cell? _ _ = _
      have hb' : ((wr.alloc X).alloc (.cells #[.int .i64 x] 2)).drew.heap[wr.heap.size + 1]? = some (.cells #[.int .i64 x] 2) := hb
      unfold World.cell?
      dsimp only
      rw [hb']
      rfl
  · show B ≤ ((wr.alloc X).alloc _).heap.size
    rw [nblk_alloc, nblk_alloc]
    omega

/-- The request: the first M of the entries D, then the asker's own. -/
def reqF (D : Nat → Int × Int) (M : Nat) (v : Int) (j : Nat) : Int × Int := if j < M then D j else (v, 0)

theorem entL_snoc (D : Nat → Int × Int) (M : Nat) (v : Int) : entL D M ++ entL (fun _ => (v, 0)) 1 = entL (reqF D M v) (M + 1) := by
  apply List.ext_getElem?
  intro j
  by_cases h : j < M * 2
  · rw [List.getElem?_append_left (by rw [entL_len]; exact h)]
    unfold entL
    rw [List.getElem?_map, List.getElem?_map, List.getElem?_range h, List.getElem?_range (by omega)]
    simp only [Option.map_some]
    unfold entF reqF
    rw [if_pos (show j / 2 < M by omega)]
  · rw [List.getElem?_append_right (by rw [entL_len]; omega), entL_len]
    by_cases h2 : j < (M + 1) * 2
    · unfold entL
      rw [List.getElem?_map, List.getElem?_map, List.getElem?_range (show j - M * 2 < 1 * 2 by omega), List.getElem?_range h2]
      simp only [Option.map_some]
      unfold entF reqF
      rw [if_neg (show ¬ j / 2 < M by omega), show (j - M * 2) % 2 = j % 2 by omega]
    · rw [List.getElem?_eq_none (by rw [entL_len]; omega), List.getElem?_eq_none (by rw [entL_len]; omega)]

/-- What ask leaves. -/
def AskP (nd br bs A p c l : Nat) (v : Int) (E : Nat → Int × Int) (w : World) (e : Ending) (w' : World) : Prop :=
  ∃ (i : Nat) (π : Nat → Nat) (S : Value) (g c5 B : Nat), e = .returned (.tuple #[.int .i64 (ag E i).1, .slice (some ⟨g, 0, none⟩) (min l p + 1) c5, .bool true]) ∧ Oldest (p + 1) (ag E) i ∧ Inj p π ∧
    OwnE w' 55 g (min l p + 1) c5 (reqF (fun j => delF (ag E) i (π j)) (min l p) v) ∧ AskS nd br bs A (.slice (some ⟨A, 0, none⟩) p c) S p c (delF (ag E) i) w w' ∧
    w'.ownsRow B 2 1 S (min l p) (idL (fun j => delF (ag E) i (π j)) (min l p)) ∧ w.heap.size ≤ g ∧ w.heap.size ≤ B

theorem ask_end {nd br bs A : Nat} {V S : Value} {n c : Nat} {E : Nat → Int × Int} {g m c2 B t : Nat} {D : Nat → Int × Int} {w wr w' : World} {v : Int} {v' : Value} {X : Obj} (h : AskT nd br bs A V S n c E g m c2 B t D w wr) (hA : A < w.heap.size)
    (hO : w'.ownsRow w.heap.size 55 2 v' (t + 1) (entL D t ++ entL (fun _ => (v, 0)) 1)) (hG : (wr.alloc X).grownBy w' (Value.slice (some ⟨g, 0, none⟩) t c2).ownBlock) :
    ∃ g5 c5, v' = .slice (some ⟨g5, 0, none⟩) (t + 1) c5 ∧ OwnE w' 55 g5 (t + 1) c5 (reqF D t v) ∧ AskS nd br bs A V S n c E w w' ∧ w'.ownsRow B 2 1 S t (idL D t) ∧ w.heap.size ≤ g5 ∧ w.heap.size ≤ B := by
  obtain ⟨h1, h2, h3, h4, h5, h6⟩ := h
  have hk : Kp (· ≠ g) wr w' := ((Kp.refl (· ≠ g) wr).alloc X).grown hG (fun k hk _ hp => by simp [Value.ownBlock] at hk; exact hp hk.symm)
  rw [entL_snoc] at hO
  have hnil : v' ≠ .slice none 0 0 := by
    rintro rfl
    obtain ⟨_, ⟨_, hn⟩ | ⟨g', cap', cur, he, _⟩⟩ := hO
    · omega
    · cases he
  obtain ⟨g5, c5, hv, hb, hE⟩ := OwnE.of_owns hO hnil
  have h1' := h1.1
  obtain ⟨F, hF, _⟩ := h1'
  obtain ⟨a1, a2, ⟨l, a3⟩, a4⟩ := h1
  refine ⟨g5, c5, hv, hE, ⟨a1.kp hk (fun e => h2.head.ne hF (by decide) e.symm), a2.kp hk (by show A ≠ g; omega), ⟨l, a3.off hk h2.head (by decide)⟩, a4.then_ hk (fun i hi _ => by show i ≠ g; omega)⟩, ?_, hb, h5⟩
  have hgb : wr.grownBy w' (some g) := ⟨hk.os, hk.tape, hk.output, hk.size, fun k hlt hne => hk.block k hlt (fun e => hne (by rw [e]))⟩
  refine h3.kept hgb ?_
  cases hs : S.ownBlock with
  | none => exact .inl rfl
  | some k => exact .inr (fun e => (own_ty h3 hs).2 g 55 _ _ h2.head (by decide) (by injection e with e; exact e.symm))

set_option maxHeartbeats 4000000 in
theorem ask_some (nd br bs A p c : Nat) (v : Int) (l : Nat) (E : Nat → Int × Int) (w : World) (hp : p + 1 ≤ 4096) (hl2 : l + 1 ≤ 9223372036854775807)
    (h : AskS nd br bs A (.slice (some ⟨A, 0, none⟩) (p + 1) c) (.slice none 0 0) (p + 1) c E w w) :
    Calls Try.prog 29 #[.pointer (some ⟨nd, 0, none⟩), .int .i64 v, .int .i64 ((l : Int) + 1), .pointer (some ⟨br, 0, none⟩)] w (AskP nd br bs A p c l v E w) := by
  have H : Hid (AskS nd br bs A (.slice (some ⟨A, 0, none⟩) (p + 1) c) (.slice none 0 0) (p + 1) c E w w) := h
  have nA : A ≠ nd := h.1.ne h.2.1.head (by decide)
  obtain ⟨hc1, hc2⟩ := h.2.1.cap_le
  have hc3 : c ≤ 9223372036854775807 := hc2
  have cv := h.1.view
  have cs := h.1.sent
  have fs := h.1.frozen 3
  have hz : ((p : Int) + 1 == 0) = false := by rw [beq_eq_false_iff_ne]; omega
  clear h hc2
  go_enter Try.func29, Try.ntmps29
  go_wp2
  clear cv cs fs
  go_loopw [34] (fun i wr => ∃ k : Nat, k ≤ p + 1 ∧ i = .int .i64 k ∧ Hid (AskS nd br bs A (.slice (some ⟨A, 0, none⟩) (p + 1) c) (.slice none 0 0) (p + 1) c (fun j => if j < k then ag E j else E j) w wr)) (fun i _ => p + 1 - (intOf i).toNat)
  case atStart => exact ⟨0, Nat.zero_le _, rfl, H.out.setSent _⟩
  case round =>
    obtain ⟨k, hk, rfl, HR⟩ := hrel
    have cv := HR.out.1.view
    by_cases hlt : k < p + 1
    · have c1 := (HR.out.2.1.head.ent hlt).2
      have f1 := HR.out.2.1.head.frozen (k * 2 + 1)
      rw [if_neg (Nat.lt_irrefl k)] at c1
      go_wp2
      go_roundw
      case rel => exact ⟨k + 1, by omega, by go_num, by have := HR.out.setAge k (wrap64 ((E k).2 + 1)); rw [age_upd] at this; exact this⟩
      case measure => simp [intOf]; omega
    · have H1 : Hid (AskS nd br bs A (.slice (some ⟨A, 0, none⟩) (p + 1) c) (.slice none 0 0) (p + 1) c (ag E) w wr) := HR.out.congr (fun i hi => by rw [if_pos (by omega)])
      clear HR cv
      go_wp2_with fail
      obtain ⟨lf, hlf⟩ := H1.out.2.2.1
      refine (oldest_any nd br bs lf A (p + 1) c _ (ag E) _ (by omega) (by omega) H1.out.1 H1.out.2.1.head hlf).mono ?_
      rintro e w2 ⟨i, l2, rfl, ho, hr2, k2, _⟩
      have hi := ho.1
      have H2 : Hid (AskS nd br bs A (.slice (some ⟨A, 0, none⟩) (p + 1) c) (.slice none 0 0) (p + 1) c (ag E) w w2 ∧ Oldest (p + 1) (ag E) i) := ⟨H1.out.source hr2 k2, ho⟩
      clear hlf hr2 k2 ho H1
      have cv := H2.out.1.1.view
      have ci := (H2.out.1.2.1.head.ent hi).1
      go_wp2_with fail
      refine (delete_any A p c i (ag E) _ (by omega) (by omega) H2.out.1.2.1).mono ?_
      rintro e w3 ⟨rfl, hO3, k3⟩
      have H3 : Hid (AskS nd br bs A (.slice (some ⟨A, 0, none⟩) (p + 1) c) (.slice none 0 0) p c (delF (ag E) i) w w3 ∧ Oldest (p + 1) (ag E) i) := ⟨H2.out.1.viewTo hO3 k3, H2.out.2⟩
      clear hO3 k3 H2 cv ci
      have cv := H3.out.1.1.view
      have fv := H3.out.1.1.frozen 0
      have hszA : A < w3.heap.size := H3.out.1.2.1.lt
      have hsznd : nd < w3.heap.size := H3.out.1.1.lt
      have hszw : w.heap.size ≤ w3.heap.size := H3.out.1.2.2.2.size
      go_wp2_with fail
      have H3' : Hid (AskS nd br bs A (.slice (some ⟨A, 0, none⟩) p c) (.slice none 0 0) p c (delF (ag E) i) w (w3.setCell ⟨nd, 0, none⟩ (.slice (some ⟨A, 0, none⟩) p c))) := H3.out.1.setView _
      obtain ⟨lf3, hlf3⟩ := H3'.out.2.2.1
      refine (draw_some br bs lf3 _ p c l (delF (ag E) i) _ (by omega) (by omega) hlf3 (Ents.of_head H3'.out.2.1.head)).mono ?_
      rintro e w4 ⟨g, c4, π, l4, rfl, hg, hinj, hO4, hr4, k4⟩
      rw [nblk_setCell] at hg
      have H4 : Hid (AskT nd br bs A (.slice (some ⟨A, 0, none⟩) p c) (.slice none 0 0) p c (delF (ag E) i) g p c4 w4.heap.size 0 (fun j => delF (ag E) i (π j)) w w4 ∧ Inj p π) := by
        have h4 := H3'.out.source hr4 k4
        exact ⟨⟨h4, hO4, World.ownsRow_nil _ _ _ _, Nat.le_refl _, h4.2.2.2.size, by omega⟩, hinj⟩
      have hO5 : Hid (Oldest (p + 1) (ag E) i) := H3.out.2
      clear hlf3 hg hinj hO4 hr4 k4 H3' H3 cv fv
      generalize hM : min l p = M
      have hMl : M ≤ l := by omega
      have hMp : M ≤ p := by omega
      have HM : Hid (min l p = M) := hM
      clear hM
      obtain ⟨i2, hi2, hy0, hy1, hy2⟩ := info_parts inf2
      go_wp2_with fail
      go_loopw [81] (fun i' wr => ∃ (t : Nat) (S : Value), t ≤ M ∧ i' = .int .i64 t ∧ Hid (AskT nd br bs A (.slice (some ⟨A, 0, none⟩) p c) S p c (delF (ag E) i) g p c4 w4.heap.size t (fun j => delF (ag E) i (π j)) w wr)) (fun i' _ => M - (intOf i').toNat)
      case atStart => exact ⟨0, _, Nat.zero_le _, rfl, H4.out.1⟩
      case round =>
        obtain ⟨t, S, ht, rfl, HT⟩ := hrel
        by_cases htl : t < M
        · have ce1 := (HT.out.2.1.head.ent (show t < p by omega)).1
          have ce2 := (HT.out.2.1.head.ent (show t < p by omega)).2
          have cs := HT.out.1.1.sent
          have fs := HT.out.1.1.frozen 3
          have lnd := HT.out.1.1.lt
          have hX : ∀ X Y : Obj, Y = .cells #[.int .i64 (delF (ag E) i (π t)).1] 2 → Hid (((wr.alloc X).alloc Y).drew.ownsRow w4.heap.size 2 1 S t (idL (fun j => delF (ag E) i (π j)) t) ∧
              (∀ j u, [Value.int .i64 (delF (ag E) i (π t)).1][j]? = some u → ((wr.alloc X).alloc Y).drew.cell? ((⟨wr.heap.size + 1, 0, none⟩ : Addr).add j) = some u) ∧ w4.heap.size ≤ ((wr.alloc X).alloc Y).drew.heap.size) := fun X Y hY => app_side HT.out.2.2.1 HT.out.2.2.2.1 hY
          go_wp2_with fail
          go_region_law (refine step_append_own rfl (.tmp 89) (.tmp 92) 35 rfl w4.heap.size 2 i2 _ 1 8 Try.underlying35 hi2 hy0 hy1 hy2 rfl (by decide) S t (idL (fun j => delF (ag E) i (π j)) t) (by simp [Act.eval]) ⟨wr.heap.size + 1, 0, none⟩ 1 1 [.int .i64 (delF (ag E) i (π t)).1] (by simp [Act.eval]) (hX _ _ rfl).out.1 rfl (hX _ _ rfl).out.2.1 one_cell (by unfold maxLen; omega) (by omega) (hX _ _ rfl).out.2.2 ?_; intro v' w' hO hG; obtain ⟨g', cap', hv', hF⟩ := ask_app HT.out hO hG; rw [hv']; have HF := hid hF; have cs' := hF.1.1.sent; have fs' := hF.1.1.frozen 3; clear hO hG hF hv' hX)
          all_goals
            go_wp2
            go_roundw
            case rel => exact ⟨t + 1, _, by omega, by go_num, ask_app2 ⟨HF.out.1, HF.out.2.1, HF.out.2.2.1, HF.out.2.2.2.1, HF.out.2.2.2.2.1, HF.out.2.2.2.2.2.1⟩⟩
            case measure => simp [intOf]; omega
        · obtain rfl : t = M := by omega
          obtain ⟨i5, hi5, hx0, hx1, hx2⟩ := info_parts inf55
          have hb55 := build55 v
          have hown : Hid ((wr.alloc (.cells #[.int .i64 v, .int .i64 0] 55)).ownsRow w.heap.size 55 2 (.slice (some ⟨g, 0, none⟩) t c4) t (entL (fun j => delF (ag E) i (π j)) t)) := ((HT.out.2.1.less (by omega)).owns HT.out.2.2.2.2.2).alloc _
          have hnews : Hid (∀ j u, (entL (fun _ => (v, 0)) 1)[j]? = some u → (wr.alloc (.cells #[.int .i64 v, .int .i64 0] 55)).cell? ((⟨wr.heap.size, 0, none⟩ : Addr).add j) = some u) := ents_news (Ents.of_head (n := 1) (one_ent wr (v, 0)))
          have hszr : w.heap.size ≤ wr.heap.size := Nat.le_trans HT.out.2.2.2.2.1 HT.out.2.2.2.1
          go_wp2_with (at_builtin; refine wpList_append_own _ rfl _ _ 24 rfl w.heap.size 55 i5 _ 2 16 Try.underlying24 hi5 hx0 hx1 hx2 rfl (by decide) _ _ _ rfl hown.out ⟨wr.heap.size, 0, none⟩ 1 1 (entL (fun _ => (v, 0)) 1) rfl (entL_len _ 1) hnews.out (entL_one _ 1) (by unfold maxLen; omega) (by omega) (by simp; omega) ?_)
          intro v' w' hO hG _
          obtain ⟨g5, c5, hv', hF⟩ := ask_end HT.out H.out.2.1.lt hO hG
          rw [hv']
          have HF := hid hF
          clear hO hG hF hv' hown hnews
          go_wp2
          go_ret3
          unfold AskP
          rw [HM.out]
          exact ⟨i, π, S, g5, c5, w4.heap.size, rfl, hO5.out, H4.out.2, HF.out.1, HF.out.2.1, HF.out.2.2.1, HF.out.2.2.2⟩

/-- An empty view: it asks nobody. -/
theorem ask_empty (nd : Nat) (a : Option Addr) (c : Nat) (v l : Int) (r : Value) (w : World) (h : Node w nd (.slice a 0 c) (.slice none 0 0)) :
    Calls Try.prog 29 #[.pointer (some ⟨nd, 0, none⟩), .int .i64 v, .int .i64 l, r] w fun e w' => e = .returned (.tuple #[.int .i64 0, .slice none 0 0, .bool false]) ∧ Node w' nd (.slice a 0 c) (.slice none 0 0) ∧ Kp (· ≠ nd) w w' := by
  have H : Hid (Node w nd (.slice a 0 c) (.slice none 0 0)) := h
  have cv := h.view
  have cs := h.sent
  have fs := h.frozen 3
  clear h
  go_enter Try.func29, Try.ntmps29
  go_wp2
  go_ret3
  exact ⟨rfl, H.out.setSent _, (Kp.refl _ _).setCell (fun _ h => h rfl) _⟩

theorem zask_some (nd br bs A p c : Nat) (v : Int) (l : Nat) (E : Nat → Int × Int) (w : World) (hp : p + 1 ≤ 4096) (hl2 : l + 1 ≤ 9223372036854775807)
    (h : AskS nd br bs A (.slice (some ⟨A, 0, none⟩) (p + 1) c) (.slice none 0 0) (p + 1) c E w w) :
    Calls Try.prog 19 #[.pointer (some ⟨nd, 0, none⟩), .int .i64 v, .int .i64 ((l : Int) + 1), .pointer (some ⟨br, 0, none⟩)] w (AskP nd br bs A p c l v E w) := by
  have H := hid h
  clear h
  go_enter Try.func19, Try.ntmps19
  go_wp2_with fail
  refine (ask_some nd br bs A p c v l E _ hp hl2 H.out).mono ?_
  rintro e w1 ⟨i, π, S, g, c5, B, rfl, hh⟩
  have HH := hid hh
  clear hh
  go_wp2
  go_ret3
  exact ⟨i, π, S, g, c5, B, rfl, HH.out⟩

theorem zask_empty (nd : Nat) (a : Option Addr) (c : Nat) (v l : Int) (r : Value) (w : World) (h : Node w nd (.slice a 0 c) (.slice none 0 0)) :
    Calls Try.prog 19 #[.pointer (some ⟨nd, 0, none⟩), .int .i64 v, .int .i64 l, r] w fun e w' => e = .returned (.tuple #[.int .i64 0, .slice none 0 0, .bool false]) ∧ Node w' nd (.slice a 0 c) (.slice none 0 0) ∧ Kp (· ≠ nd) w w' := by
  have H := hid h
  clear h
  go_enter Try.func19, Try.ntmps19
  go_wp2_with fail
  refine (ask_empty nd a c v l r _ H.out).mono ?_
  rintro e w1 ⟨rfl, hh⟩
  have HH := hid hh
  clear hh
  go_wp2
  go_ret3
  exact ⟨rfl, HH.out⟩

end Go.Proofs.Qxb6003312a
