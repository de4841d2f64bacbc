/-
  The walks of zzCloneIDs, ZZMerge, zzMerge; ZZToEntries and ZZFromEntries whatever slice comes in.
-/
import Derived.Test.Qxb6003312aMerge
import Derived.Laws.CopyRow
import Derived.Outline
namespace Go.Proofs.Qxb6003312a
open Go.RowKit Go.Deep

/-- A slice without an address has no room. -/
def Sl (a : Option Addr) (n c : Nat) : Prop := a = none → n = 0 ∧ c = 0

/-- Entries handed back, in a new block. -/
def Gives (n : Nat) (E : Nat → Int × Int) (w : World) (e : Ending) (w' : World) : Prop :=
  ∃ a, e = .returned (.slice a n n) ∧ Ents w' a n E ∧ Sl a n n ∧ (∀ b off, a = some ⟨b, off, none⟩ → w.heap.size ≤ b) ∧ Kp All w w'

theorem from_any (a : Option Addr) (n c : Nat) (E : Nat → Int × Int) (w : World) (hn : n ≤ 4096) (hs : Sl a n c) (h : Ents w a n E) : Calls Try.prog 7 #[.slice a n c] w (Gives n E w) := by
  cases a with
  | none =>
    obtain ⟨rfl, rfl⟩ := hs rfl
    refine (from_nil w).mono ?_
    rintro e w' ⟨rfl, rfl⟩
    exact ⟨none, rfl, .inl rfl, fun _ => ⟨rfl, rfl⟩, fun b off h => (by cases h), Kp.refl _ _⟩
  | some x =>
    refine (from_some x n c E w hn h).mono ?_
    rintro e w' ⟨rfl, hH, hk⟩
    exact ⟨_, rfl, Ents.of_head hH, fun h => (by cases h), fun b off h => (by injection h with h; injection h with h1 h2; omega), hk⟩

/-- Entries handed back as a row of the call's own. -/
def GivesOwn (n : Nat) (E : Nat → Int × Int) (w : World) (e : Ending) (w' : World) : Prop :=
  ∃ a c, e = .returned (.slice a n c) ∧ w'.ownsRow w.heap.size 55 2 (.slice a n c) n (entL E n) ∧ Kp All w w' ∧ Sl a n c

theorem to_any (a : Option Addr) (n c : Nat) (E : Nat → Int × Int) (w : World) (hn : n ≤ 4096) (hs : Sl a n c) (h : Ents w a n E) : Calls Try.prog 6 #[.slice a n c] w (GivesOwn n E w) := by
  cases a with
  | none =>
    obtain ⟨rfl, rfl⟩ := hs rfl
    refine (to_nil w).mono ?_
    rintro e w' ⟨rfl, rfl⟩
    exact ⟨none, 0, rfl, World.ownsRow_nil _ _ _ _, Kp.refl _ _, fun _ => ⟨rfl, rfl⟩⟩
  | some x =>
    refine (to_own x n c E w hn h).mono ?_
    rintro e w' ⟨rfl, hO, hk⟩
    exact ⟨_, n, rfl, hO.owns (Nat.le_refl _), hk, fun h => (by cases h)⟩

theorem info2' : (Try.prog.info? 2).map (fun i => (i.zero, i.size, i.bytes)) = some (some (.int .i64 0), 1, 8) := inf2
theorem size2 : (Try.prog.info? 2).map (·.size) = some 1 := by kernel_rfl

theorem copy_ids (w : World) (x : Addr) (n cap : Nat) (s : Nat → Int) (h : Ids w (some x) n s) :
    ∃ w2, (∀ ty, (Builtin.copy_ #[35, 35] ty #[.slice (some ⟨w.heap.size, 0, none⟩) n n, .slice (some x) n cap]).run Try.prog (w.alloc (.cells (madeCells #[.int .i64 0] n) 2)) = .ok (.int .i64 (n : Int)) w2) ∧
      HeadIs w2 w.heap.size 2 n (fun j => .int .i64 (s j)) ∧ Kp All w w2 := by
  have hcell : ∀ i, i < n → w.cell? (x.add i) = some (.int .i64 (s i)) := by
    rcases h with rfl | ⟨b, off, hx, hb, hc⟩
    · exact fun i hi => by omega
    · injection hx with hx
      subst hx
      exact fun i hi => by rw [Go.WideShapes.add_plain]; exact hc i hi
  have hblk : (w.alloc (.cells (madeCells #[.int .i64 0] n) 2)).heap[w.heap.size]? = some (.cells (madeCells #[.int .i64 0] n) 2 (0, 0)) := blk_alloc_new _ _
  have hlen : ((List.range n).map fun j => Value.int .i64 (s j)).length = Nat.min n n := by simp
  have hget : ∀ j v, ((List.range n).map fun j => Value.int .i64 (s j))[j]? = some v → j < n ∧ v = .int .i64 (s j) := by
    intro j v hv
    rw [List.getElem?_map] at hv
    by_cases hj : j < n
    · rw [List.getElem?_range hj] at hv
      simp at hv
      exact ⟨hj, hv.symm⟩
    · rw [List.getElem?_eq_none (by simp; omega)] at hv
      cases hv
  have hr := fun ty => run_copy_row (P := Try.prog) (w.alloc (.cells (madeCells #[.int .i64 0] n) 2)) 35 35 ty 2 w.heap.size 0 n n x n cap (madeCells #[.int .i64 0] n) 2 ((List.range n).map fun j => Value.int .i64 (s j)) Try.underlying35 size2 hblk hlen
    (fun j v hv => by
      obtain ⟨hj, rfl⟩ := hget j v hv
      have := hcell j hj
      have hlt := World.block_lt_of_cell? w _ this
      rw [World.cell?_of_block (w := w) (blk_alloc_lt _ _ _ hlt)]
      exact this)
    (by simp [size_madeCells]) (by intro v hv; simp at hv; obtain ⟨j, _, rfl⟩ := hv; rfl)
  have ecs : ((madeCells #[.int .i64 0] n).toList.take 0 ++ ((List.range n).map fun j => Value.int .i64 (s j)) ++ (madeCells #[.int .i64 0] n).toList.drop (0 + ((List.range n).map fun j => Value.int .i64 (s j)).length)).toArray = ((List.range n).map fun j => Value.int .i64 (s j)).toArray := by
    have hl : (madeCells #[Value.int .i64 0] n).toList.length = n := by simp [size_madeCells]
    rw [List.take_zero, List.nil_append, Nat.zero_add, List.length_map, List.length_range, List.drop_of_length_le (by omega), List.append_nil]
  rw [ecs] at hr
  refine ⟨_, fun ty => by rw [hr ty, List.length_map, List.length_range]; rfl, ?_, ?_⟩
  · exact ⟨((List.range n).map fun j => Value.int .i64 (s j)).toArray, setRow_heap _ _ _ _ _ _ hblk, by simp, fun i hi => by simp [hi]⟩
  · refine ⟨rfl, rfl, rfl, ?_, fun k hk _ => ?_⟩
    · show _ ≤ (World.setRow _ _ _).heap.size
      simp [World.setRow]
    · rw [setRow_blk _ _ _ _ (by omega)]
      exact blk_alloc_lt _ _ _ hk

/-- Ids handed back. -/
def GivesIds (n : Nat) (f : Nat → Int) (w : World) (e : Ending) (w' : World) : Prop := ∃ a c, e = .returned (.slice a n c) ∧ Ids w' a n f ∧ Kp All w w'

set_option maxHeartbeats 1000000 in
theorem clone_any (a : Option Addr) (n c : Nat) (f : Nat → Int) (w : World) (hn : n ≤ 4096) (hs : Sl a n c) (h : Ids w a n f) : Calls Try.prog 28 #[.slice a n c] w (GivesIds n f w) := by
  cases a with
  | none =>
    obtain ⟨rfl, rfl⟩ := hs rfl
    clear h hs
    have hnil := fun w => Lib.run_eql_slice_nil (P := Try.prog) w 35 2 none 0 0 0 0 Try.underlying35
    go_enter Try.func28, Try.ntmps28
    go_wp2
    go_ret
    exact ⟨none, 0, rfl, .inl rfl, Kp.refl _ _⟩
  | some x =>
    obtain ⟨w2, hcp, hrow, hk⟩ := copy_ids w x n c f h
    have hnil := fun w => Lib.run_eql_slice_nil (P := Try.prog) w 35 2 (some x) n c 0 0 Try.underlying35
    have hmk := run_make_row' (P := Try.prog) 35 2 (.int .i64 0) 8 Try.underlying35 inf2 rfl .i64 .i64 n (by omega) (by omega)
    have HR := hid (And.intro hrow hk)
    clear hrow hk h hs
    go_enter Try.func28, Try.ntmps28
    go_wp2
    go_ret
    exact ⟨_, n, rfl, .inr ⟨w.heap.size, 0, rfl, HR.out.1.lt, fun i hi => by simpa using HR.out.1.cell hi⟩, HR.out.2⟩

theorem zzmerge_any (nd : Nat) (V0 S : Value) (sa : Option Addr) (k sc : Nat) (f : Nat → Int) (ea : Option Addr) (m ec : Nat) (F : Nat → Int × Int) (v c : Int) (n : Nat) (E : Nat → Int × Int) (w : World)
    (hn : n ≤ 256) (hm : m ≤ 256) (hk : k ≤ 256) (h : MSt nd V0 S V0 n E w w) (hS : Ids w sa k f) (hF : Ents w ea m F) (hq : ∀ b off, ea = some ⟨b, off, none⟩ → b ≠ nd ∧ V0.ownBlock ≠ some b) :
    Calls Try.prog 22 #[.pointer (some ⟨nd, 0, none⟩), .int .i64 v, .slice ea m ec, .slice sa k sc, .int .i64 c] w (MergeP nd V0 S (mrun v c F ⟨n, E, repl n E f k, false⟩ m) w) := by
  have H := hid (⟨h, hS, hF, hq⟩ : MSt nd V0 S V0 n E w w ∧ Ids w sa k f ∧ Ents w ea m F ∧ (∀ b off, ea = some ⟨b, off, none⟩ → b ≠ nd ∧ V0.ownBlock ≠ some b))
  clear h hS hF hq
  go_enter Try.func22, Try.ntmps22
  go_wp2_with fail
  refine (merge_any nd V0 S sa k sc f ea m ec F v c n E _ hn hm hk H.out.1 H.out.2.1 H.out.2.2.1 H.out.2.2.2).mono ?_
  rintro e w1 ⟨rfl, V, hV⟩
  have HV := hid hV
  clear hV
  go_wp2_with fail
  go_end0
  exact ⟨rfl, V, HV.out⟩

theorem mstep_n (v c : Int) (s : MS) (e : Int × Int) : (mstep v c s e).n ≤ s.n + 1 := by
  rcases mstep_cases v c s e with h | ⟨h, hR⟩ | ⟨_, _, ⟨_, h⟩ | ⟨r, R, hR, h⟩⟩
  · rw [h]; omega
  · rw [h]; show s.n ≤ s.n + 1; omega
  · rw [h]; exact Nat.le_refl _
  · rw [h]; show s.n ≤ s.n + 1; omega
theorem mrun_n (v c : Int) (F : Nat → Int × Int) (s : MS) : ∀ j, (mrun v c F s j).n ≤ s.n + j
  | 0 => Nat.le_refl _
  | j + 1 => by
    have h1 := mstep_n v c (mrun v c F s j) (F j)
    have h2 := mrun_n v c F s j
    show (mstep v c (mrun v c F s j) (F j)).n ≤ _
    omega

theorem own_base {W : World} {V : Value} {n e z B : Nat} {xs : List Value} (h : W.ownsRow B e z V n xs) : W.ownsRow 0 e z V n xs ∧ ∀ k, V.ownBlock = some k → B ≤ k := by
  obtain ⟨hl, ⟨rfl, hn⟩ | ⟨g, cap, cur, rfl, hb, hg⟩⟩ := h
  · exact ⟨⟨hl, .inl ⟨rfl, hn⟩⟩, fun k hk => by simp [Value.ownBlock] at hk⟩
  · exact ⟨⟨hl, .inr ⟨g, cap, cur, rfl, Nat.zero_le _, hg⟩⟩, fun k hk => by simp [Value.ownBlock] at hk; omega⟩

theorem own_addr {W : World} {a : Option Addr} {c n e z B : Nat} {xs : List Value} (h : W.ownsRow B e z (.slice a n c) n xs) : ∀ b off, a = some ⟨b, off, none⟩ → B ≤ b := by
  rintro b off rfl
  obtain ⟨hl, ⟨h, hn⟩ | ⟨g, cap, cur, h, hb, hg⟩⟩ := h
  · cases h
  · cases h; exact hb

/-- A node just made, its view its own; what a merge on it leaves to the old world. -/
theorem MSt.start {nd : Nat} {V0 S : Value} {n : Nat} {E : Nat → Int × Int} {W : World} (h1 : Node W nd V0 S) (h2 : W.ownsRow 0 55 2 V0 n (entL E n)) : MSt nd V0 S V0 n E W W := ⟨h1, h2, fun _ h => .inl h, Kp.refl _ _⟩

set_option maxHeartbeats 2000000 in
theorem zmerge_any (va : Option Addr) (n vc : Nat) (E : Nat → Int × Int) (ea : Option Addr) (m ec : Nat) (F : Nat → Int × Int) (sa : Option Addr) (k sc : Nat) (f : Nat → Int) (v c : Int) (w : World)
    (hn : n ≤ 256) (hm : m ≤ 256) (hk : k ≤ 256) (h1 : Sl va n vc) (h2 : Ents w va n E) (h3 : Sl ea m ec) (h4 : Ents w ea m F) (h5 : Sl sa k sc) (h6 : Ids w sa k f) :
    Calls Try.prog 14 #[.int .i64 v, .int .i64 c, .slice va n vc, .slice ea m ec, .slice sa k sc] w (Gives (mrun v c F ⟨n, E, repl n E f k, false⟩ m).n (mrun v c F ⟨n, E, repl n E f k, false⟩ m).E w) := by
  have hb := mrun_n v c F ⟨n, E, repl n E f k, false⟩ m
  have HB := hid hb
  have H : Hid (Sl va n vc ∧ Ents w va n E ∧ Sl ea m ec ∧ Ents w ea m F ∧ Sl sa k sc ∧ Ids w sa k f) := ⟨h1, h2, h3, h4, h5, h6⟩
  clear h1 h2 h3 h4 h5 h6 hb
  generalize hs : mrun v c F ⟨n, E, repl n E f k, false⟩ m = s at HB ⊢
  have HS := hid hs
  clear hs
  go_enter Try.func14, Try.ntmps14
  go_wp2_with fail
  refine (to_any va n vc E _ (by omega) H.out.1 H.out.2.1).mono ?_
  rintro e w1 ⟨a0, c0, rfl, hO, hk1, -⟩
  have H1 := hid (And.intro hO hk1)
  clear hO hk1
  go_wp2_with fail
  refine (node_new a0 n c0 _).mono ?_
  rintro e w2 ⟨rfl, hN, hk2, hsz2⟩
  have H2 : Hid (w2.ownsRow w.heap.size 55 2 (.slice a0 n c0) n (entL E n) ∧ Node w2 w1.heap.size (.slice a0 n c0) (.slice none 0 0) ∧ Kp All w w2 ∧ (∀ b, (Value.slice a0 n c0).ownBlock = some b → b < w1.heap.size) ∧ w2.heap.size = w1.heap.size + 1 ∧ w.heap.size ≤ w1.heap.size) :=
    ⟨own_kp H1.out.1 hk2 (fun _ _ => trivial), hN, H1.out.2.trans hk2, fun b hb => own_lt (own_base H1.out.1).1 hb, hsz2, H1.out.2.size⟩
  clear hN hk2 hsz2 H1
  go_wp2_with fail
  refine (to_any ea m ec F _ (by omega) H.out.2.2.1 (ents_kept H.out.2.2.2.1 H2.out.2.2.1)).mono ?_
  rintro e w3 ⟨a1, c1, rfl, hO3, hk3, -⟩
  have H3 := hid (And.intro hO3 hk3)
  clear hO3 hk3
  go_wp2_with fail
  refine (clone_any sa k sc f _ (by omega) H.out.2.2.2.2.1 (H.out.2.2.2.2.2.kp (H2.out.2.2.1.trans H3.out.2))).mono ?_
  rintro e w4 ⟨a2, c2, rfl, hI, hk4⟩
  have H4 : Hid (MSt w1.heap.size (.slice a0 n c0) (.slice none 0 0) (.slice a0 n c0) n E w4 w4 ∧ Ids w4 a2 k f ∧ Ents w4 a1 m F ∧ (∀ b off, a1 = some ⟨b, off, none⟩ → b ≠ w1.heap.size ∧ (Value.slice a0 n c0).ownBlock ≠ some b) ∧ Kp All w w4) := by
    have k24 := H3.out.2.trans hk4
    refine ⟨MSt.start (H2.out.2.1.kp k24 trivial) (own_kp (own_base H2.out.1).1 k24 (fun _ _ => trivial)), hI, ?_, fun b off hb => ?_, H2.out.2.2.1.trans k24⟩
    · obtain ⟨a, c, he, hE, _⟩ := own_ents (own_base H3.out.1).1
      cases he
      exact ents_kept hE hk4
    · have := own_addr H3.out.1 b off hb
      have h5 := H2.out.2.2.2.2.1
      exact ⟨by omega, fun e => by have := H2.out.2.2.2.1 b e; omega⟩
  clear hI hk4 H3
  go_wp2_with fail
  refine (zzmerge_any w1.heap.size (.slice a0 n c0) (.slice none 0 0) a2 k c2 f a1 m c1 F v c n E _ hn hm hk H4.out.1 H4.out.2.1 H4.out.2.2.1 H4.out.2.2.2.1).mono ?_
  rintro e w5 ⟨rfl, V, hV⟩
  rw [HS.out] at hV
  obtain ⟨a3, c3, rfl, hE3, hg3⟩ := own_ents hV.2.1
  have H5 : Hid (Node w5 w1.heap.size (.slice a3 s.n c3) (.slice none 0 0) ∧ Ents w5 a3 s.n s.E ∧ Sl a3 s.n c3 ∧ Kp All w w5) := by
    refine ⟨hV.1, hE3, fun h => ?_, H4.out.2.2.2.2.then_ hV.2.2.2 (fun i hi _ => ⟨?_, fun e => ?_⟩)⟩
    · subst h
      obtain ⟨_, ⟨h, hn⟩ | ⟨g, cap, cur, h, _⟩⟩ := hV.2.1
      · injection h with h1 h2 h3; exact ⟨h2, h3⟩
      · cases h
    · have := H2.out.2.2.2.2.2; omega
    · have := (own_base H2.out.1).2 i e; omega
  clear hV hE3 hg3
  go_wp2_with fail
  refine (node_view _ _ _ _ H5.out.1).mono ?_
  rintro e w6 ⟨rfl, rfl⟩
  go_wp2_with fail
  refine (from_any a3 s.n c3 s.E _ (by have : s.n ≤ n + m := HB.out; omega) H5.out.2.2.1 H5.out.2.1).mono ?_
  rintro e w7 ⟨a4, rfl, hE4, hs4, hf4, hk7⟩
  have H7 := hid (And.intro hE4 (And.intro hs4 (And.intro hf4 hk7)))
  clear hE4 hs4 hf4 hk7
  go_wp2_with fail
  go_ret
  exact ⟨a4, rfl, H7.out.1, H7.out.2.1, fun b off h => Nat.le_trans H5.out.2.2.2.size (H7.out.2.2.1 b off h), H5.out.2.2.2.trans H7.out.2.2.2⟩

end Go.Proofs.Qxb6003312a
