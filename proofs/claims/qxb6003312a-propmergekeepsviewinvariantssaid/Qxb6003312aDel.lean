/-
  The walk of slices.Delete; entries stored in a row.
-/
import Derived.Test.Qxb6003312aNode
import Derived.Deep.RegionLaw
import Derived.Outline
namespace Go.Proofs.Qxb6003312a
open Go.RowKit Go.Deep

theorem setCells_blk (g : Nat) (t : TypeId) (fr : Nat × Nat) : ∀ (vs : List Value) (o : Nat) (w : World) (cur : Array Value), w.heap[g]? = some (.cells cur t fr) →
    ∃ cur' : Array Value, (w.setCells g o vs).heap[g]? = some (.cells cur' t fr) ∧ cur'.size = cur.size ∧ ∀ j, j < cur.size → cur'[j]? = if o ≤ j ∧ j < o + vs.length then vs[j - o]? else cur[j]?
  | [], o, w, cur, h => ⟨cur, h, rfl, fun j _ => by rw [if_neg]; simp⟩
  | v :: r, o, w, cur, h => by
    have h1 : (w.setCell ⟨g, o, none⟩ v).heap[g]? = some (.cells (cur.setIfInBounds o v) t fr) := by simp [World.setCell, Array.getElem?_modify, h]
    obtain ⟨cur', h2, h3, h4⟩ := setCells_blk g t fr r (o + 1) _ _ h1
    refine ⟨cur', h2, by simpa using h3, fun j hj => ?_⟩
    rw [h4 j (by simpa using hj), Array.getElem?_setIfInBounds]
    by_cases e : j = o
    · subst e
      rw [if_neg (by omega), if_pos rfl, if_pos hj, if_pos (by simp)]
      simp
    · rw [if_neg (show ¬ o = j from fun h => e h.symm)]
      by_cases e2 : o + 1 ≤ j ∧ j < o + 1 + r.length
      · rw [if_pos e2, if_pos (by simp; omega), show j - o = (j - (o + 1)) + 1 by omega, List.getElem?_cons_succ]
      · rw [if_neg e2, if_neg (by simp; omega)]

theorem setCells_kp (g : Nat) : ∀ (vs : List Value) (o : Nat) (w : World), Kp (· ≠ g) w (w.setCells g o vs)
  | [], _, _ => Kp.refl _ _
  | v :: r, o, w => ((Kp.refl (· ≠ g) w).setCell (a := ⟨g, o, none⟩) (fun _ h => h rfl) v).then_ (setCells_kp g r (o + 1) _) (fun _ _ h => h)

/-- Entries stored one behind the other into a row of entries. -/
theorem OwnE.setCells {w : World} {t : TypeId} {g n cap : Nat} {E : Nat → Int × Int} (h : OwnE w t g n cap E) (o m : Nat) (F : Nat → Int × Int) :
    OwnE (w.setCells g (o * 2) (entL F m)) t g n cap (fun j => if o ≤ j ∧ j < o + m then F (j - o) else E j) := by
  obtain ⟨cur, hb, hn, hm, hs, hc⟩ := h
  obtain ⟨cur', h1, h2, h3⟩ := setCells_blk g t (0, 0) (entL F m) (o * 2) w cur hb
  refine ⟨cur', h1, hn, hm, by omega, fun i hi => ?_⟩
  rw [h3 i (by omega), entL_len]
  unfold entF
  dsimp only
  by_cases e : o * 2 ≤ i ∧ i < o * 2 + m * 2
  · rw [if_pos e, if_pos (show o ≤ i / 2 ∧ i / 2 < o + m by omega)]
    have hlt : i - o * 2 < (entL F m).length := by rw [entL_len]; omega
    have := (entL_get F m (i - o * 2) _ (List.getElem?_eq_getElem hlt)).2
    rw [List.getElem?_eq_getElem hlt, this]
    unfold entF
    rw [show (i - o * 2) % 2 = i % 2 by omega, show (i - o * 2) / 2 = i / 2 - o by omega]
  · rw [if_neg e, if_neg (show ¬ (o ≤ i / 2 ∧ i / 2 < o + m) by omega)]
    have := hc i hi
    unfold entF at this
    exact this

theorem zv55 (w : World) : (zeroValue 55).run Try.prog w = .ok (.agg #[.int .i64 0, .int .i64 0]) w := by kernel_rfl
theorem run_clear1 (A q cc : Nat) (W : World) (x y : Value) (c1 : W.cell? ⟨A, q, none⟩ = some x) (c2 : W.cell? ⟨A, q + 1, none⟩ = some y) (f1 : W.frozen? ⟨A, q, none⟩ = false) (f2 : W.frozen? ⟨A, q + 1, none⟩ = false) :
    (Builtin.clear_ #[24] 0 #[.slice (some ⟨A, q, none⟩) 1 cc]).run Try.prog W = .ok (.tuple #[]) ((W.setCell ⟨A, q, none⟩ (.int .i64 0)).setCell ⟨A, q + 1, none⟩ (.int .i64 0)) := by
  have z := zv55
  have e : (Builtin.zeroCells #[Value.int .i64 0, .int .i64 0] 1).toList = [.int .i64 0, .int .i64 0] := by kernel_rfl
  unfold Builtin.clear_
  go_simp

def delF (E : Nat → Int × Int) (i j : Nat) : Int × Int := if j < i then E j else E (j + 1)

set_option maxHeartbeats 2000000 in
set_option maxRecDepth 1000000 in
theorem delete_any (A p c i : Nat) (E : Nat → Int × Int) (w : World) (hp : p ≤ 4096) (hi : i ≤ p) (h : OwnE w 55 A (p + 1) c E) :
    Calls Try.prog 36 #[.slice (some ⟨A, 0, none⟩) (p + 1) c, .int .i64 (i : Int), .int .i64 ((i : Int) + 1)] w fun e w' => e = .returned (.slice (some ⟨A, 0, none⟩) p c) ∧ OwnE w' 55 A p c (delF E i) ∧ Kp (· ≠ A) w w' := by
  have H : Hid (OwnE w 55 A (p + 1) c E) := h
  obtain ⟨hc1, hc2⟩ := h.cap_le
  unfold maxLen at hc2
  obtain ⟨i0, hi0, hz0, hz1, hz2⟩ := info_parts inf55
  obtain ⟨X, hX, hnews⟩ : ∃ X : Addr, (if c = i + 1 then some (⟨A, 0, none⟩ : Addr) else some ⟨A, (i + 1) * 2, none⟩) = some X ∧ Hid (∀ j u, (entL (fun j => E (i + 1 + j)) (p - i))[j]? = some u → w.drew.cell? (X.add j) = some u) := by
    by_cases hci : c = i + 1
    · refine ⟨⟨A, 0, none⟩, by simp [hci], fun j u hu => ?_⟩
      have := (entL_get _ _ j u hu).1
      omega
    · refine ⟨⟨A, (i + 1) * 2, none⟩, by simp [hci], fun j u hu => ?_⟩
      obtain ⟨hj, rfl⟩ := entL_get _ _ j u hu
      rw [Go.WideShapes.add_plain]
      show w.cell? _ = _
      rw [h.head.cell (show (i + 1) * 2 + j < (p + 1) * 2 by omega)]
      unfold entF
      have e1 : ((i + 1) * 2 + j) % 2 = j % 2 := by omega
      have e2 : ((i + 1) * 2 + j) / 2 = i + 1 + j / 2 := by omega
      rw [e1, e2]
  have s1 : Hid ((entL (fun j => E (i + 1 + j)) (p - i)).length = (p - i) * 2) := entL_len _ _
  have s2 : Hid (∀ u ∈ entL (fun j => E (i + 1 + j)) (p - i), u.oneCell' = true) := entL_one _ _
  have s3 : Hid (∀ j, j < (entL (fun j => E (i + 1 + j)) (p - i)).length → (w.drew.cell? ⟨A, 0 + i * 2 + j, none⟩).isSome = true ∧ w.drew.frozen? ⟨A, 0 + i * 2 + j, none⟩ = false) := by
    intro j hj
    rw [entL_len] at hj
    refine ⟨?_, h.head.frozen _⟩
    show (w.cell? _).isSome = true
    rw [h.head.cell (by omega)]
    rfl
  have hlen : i + (p - i) = p := by omega
  have hl2 : p + 1 - (i + 1) = p - i := by omega
  have hic : i ≤ c := by omega
  have hwr : IntKind.i64.wrap ((i : Int) + 1) = (i : Int) + 1 := by rw [IntKind.wrap_i64]; omega
  have hp0 : (0 : Int) ≤ (i : Int) + 1 := by omega
  have hp1 : (i : Int) + 1 ≤ (p : Int) + 1 := by omega
  have hp2 : ((i : Int) + 1).toNat = i + 1 := by omega
  have hne : ((i : Int) == (i : Int) + 1) = false := by rw [beq_eq_false_iff_ne]; omega
  clear h
  go_enter Try.func36, Try.ntmps36
  go_wp2_with fail
  go_region_law (refine step_append_room rfl (.tmp 22) (.tmp 25) 24 rfl 55 i0 2 Try.underlying24 hi0 hz1 A 0 i c (by simp [Act.eval, Act.put]) X (p - i) (c - (i + 1)) (entL (fun j => E (i + 1 + j)) (p - i)) (by simp [Act.eval, Act.put]) s1.out hnews.out s2.out (by omega) s3.out ?_; rw [hlen])
  have HW : Hid (OwnE (w.drew.setCells A (i * 2) (entL (fun j => E (i + 1 + j)) (p - i))) 55 A p c (delF E i) ∧ HeadIs (w.drew.setCells A (i * 2) (entL (fun j => E (i + 1 + j)) (p - i))) A 55 ((p + 1) * 2) (entF (fun j => if i ≤ j ∧ j < i + (p - i) then E (i + 1 + (j - i)) else E j)) ∧ Kp (· ≠ A) w (w.drew.setCells A (i * 2) (entL (fun j => E (i + 1 + j)) (p - i)))) := by
    have h0 := H.out.drew.setCells i (p - i) (fun j => E (i + 1 + j))
    refine ⟨(h0.less (by omega)).congr (fun j hj => ?_), h0.head, (Kp.refl _ _).drew.trans (setCells_kp A _ _ _)⟩
    unfold delF
    by_cases e : j < i
    · rw [if_neg (by omega), if_pos e]
    · rw [if_pos (by omega), if_neg e, show i + 1 + (j - i) = j + 1 by omega]
  generalize w.drew.setCells A (i * 2) (entL (fun j => E (i + 1 + j)) (p - i)) = W at HW ⊢
  clear hnews s3 s1 s2 hX
  have c1 := (HW.out.2.1.ent (show p < p + 1 by omega)).1
  have c2 := (HW.out.2.1.ent (show p < p + 1 by omega)).2
  have f1 := HW.out.2.1.frozen (p * 2)
  have f2 := HW.out.2.1.frozen (p * 2 + 1)
  have hclr := run_clear1 A (p * 2) (c - p) W _ _ c1 c2 f1 f2
  have HW2 : Hid (OwnE ((W.setCell ⟨A, p * 2, none⟩ (.int .i64 0)).setCell ⟨A, p * 2 + 1, none⟩ (.int .i64 0)) 55 A p c (delF E i) ∧ Kp (· ≠ A) w ((W.setCell ⟨A, p * 2, none⟩ (.int .i64 0)).setCell ⟨A, p * 2 + 1, none⟩ (.int .i64 0))) :=
    ⟨(HW.out.1.set p 0 0).congr (fun j hj => by rw [if_neg (show ¬ j = p by omega)]), (HW.out.2.2.setCell (fun _ h => h rfl) _).setCell (fun _ h => h rfl) _⟩
  clear c1 c2 f1 f2
  go_wp2_with fail
  go_ret
  exact ⟨rfl, HW2.out⟩

end Go.Proofs.Qxb6003312a
