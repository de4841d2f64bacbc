/-
  The law's own guards; how a slice of ids and the room of slices are opened.
-/
import Derived.Test.Qxb6003312aArgs
import Derived.Test.Qxb6003312aParts
import Derived.Outline
namespace Go.Proofs.Qxb6003312a
open Go.ChangeShapes Go.WideShapes Go.ChangeAt Go.RowKit Go.Deep

set_option maxRecDepth 100000 in
set_option maxHeartbeats 4000000 in
theorem law4_out (v c : Int) (va : Option Addr) (n vc : Nat) (ea : Option Addr) (m ec : Nat) (sa : Option Addr) (k sc : Nat) (l : Int) (wa : Option Addr) (ns cs : Nat) (w : World) (h : 256 < n ∨ 256 < m ∨ 256 < k ∨ 65536 < ns ∨ c < (n : Int)) (hn : n ≤ 9223372036854775807) (hm : m ≤ 9223372036854775807) (hk : k ≤ 9223372036854775807) (hs : ns ≤ 9223372036854775807) :
    Calls Try.prog 4 #[.int .i64 v, .int .i64 c, .slice va n vc, .slice ea m ec, .slice sa k sc, .int .i64 l, .slice wa ns cs] w fun e w' => e = .returned (.bool true) ∧ Below w.heap.size w w' := by
  by_cases h1 : 256 < n
  · clear h
    go_enter Try.func4, Try.ntmps4
    go_wp2_with fail
    go_ret
    exact ⟨rfl, Below.refl _ _⟩
  · by_cases h2 : 256 < m
    · clear h
      go_enter Try.func4, Try.ntmps4
      go_wp2_with fail
      go_ret
      exact ⟨rfl, Below.refl _ _⟩
    · by_cases h3 : 256 < k
      · clear h
        go_enter Try.func4, Try.ntmps4
        go_wp2_with fail
        go_ret
        exact ⟨rfl, Below.refl _ _⟩
      · by_cases h4 : 65536 < ns
        · clear h
          go_enter Try.func4, Try.ntmps4
          go_wp2_with fail
          go_ret
          exact ⟨rfl, Below.refl _ _⟩
        · have h5 : c < (n : Int) := by omega
          clear h
          go_enter Try.func4, Try.ntmps4
          go_wp2_with fail
          go_ret
          exact ⟨rfl, Below.refl _ _⟩

section
variable {H : Type} {enc : TypeId × Value → H} {W : World} {base : Nat} {held : Bool} {fuel : Nat} {x : DataW H × List MemPlace}

/-- A slice's length and room, and that it has none without an address. -/
def Room (a : Option Addr) (n c : Nat) : Prop := n ≤ c ∧ c ≤ maxLen ∧ Sl a n c

theorem arg_ents_room {a : Option Addr} {len cap : Nat} (h : DataW.trod enc Try.prog W base (fun _ => true) held fuel 22 [.slice a len cap] = some x) : Room a len cap ∧ ∃ E, Ents W a len E := by
  have h0 := h
  obtain ⟨f0, f1, hu, o0, o1, t0, t1, c0, c1⟩ := fields33
  rcases open_slice_pairs Try.underlying22 hu cells33 o0 o1 c0 c1 h with ⟨hcs, _⟩ | ⟨y, l, c, m, n, V0, V1, D0, D1, P0, P1, hcs, _, hl, hm, hmm, _, hc⟩
  · simp at hcs
    obtain ⟨rfl, rfl, rfl⟩ := hcs
    exact ⟨⟨Nat.le_refl _, Nat.zero_le _, fun _ => ⟨rfl, rfl⟩⟩, fun _ => (0, 0), .inl rfl⟩
  · simp at hcs
    obtain ⟨rfl, rfl, rfl⟩ := hcs
    refine ⟨⟨hl, hm, fun h => (by cases h)⟩, ?_⟩
    rcases arg_ents h0 with ⟨h, _⟩ | ⟨y', E, he, _, hE⟩
    · cases h
    · rw [he]; exact ⟨E, hE⟩

theorem arg_ids {a : Option Addr} {len cap : Nat} (h : DataW.trod enc Try.prog W base (fun _ => true) held fuel 35 [.slice a len cap] = some x) : Room a len cap ∧ ∃ f, Ids W a len f := by
  rcases open_ints Try.underlying35 Try.underlying2 (by kernel_rfl) h with ⟨hcs, _⟩ | ⟨y, l, c, zs, hcs, _, hl, hm, hz, _, hcell, hwz⟩
  · simp at hcs
    obtain ⟨rfl, rfl, rfl⟩ := hcs
    exact ⟨⟨Nat.le_refl _, Nat.zero_le _, fun _ => ⟨rfl, rfl⟩⟩, fun _ => 0, .inl rfl⟩
  · simp at hcs
    obtain ⟨rfl, rfl, rfl⟩ := hcs
    refine ⟨⟨hl, hm, fun h => (by cases h)⟩, fun j => zs.getD j 0, ?_⟩
    have hzc : zs.length = cap := by simpa using hz
    by_cases h0 : len = 0
    · exact .inl h0
    · obtain ⟨b, off, hy, hb⟩ := row_of (hcell 0 (by omega))
      subst hy
      refine .inr ⟨b, off, rfl, hb, fun i hi => ?_⟩
      have := hcell i (by omega)
      rw [Go.WideShapes.add_plain] at this
      exact this
end
end Go.Proofs.Qxb6003312a
