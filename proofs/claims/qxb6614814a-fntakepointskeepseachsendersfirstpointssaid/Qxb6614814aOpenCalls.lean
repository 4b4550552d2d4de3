import Derived.Test.Qxb6614814aCopy
import Derived.Deep.SlicePairs
namespace Go.Proofs.Qxb6614814a.node
open Go.ChangeShapes Go.WideShapes Go.ChangeAt Go.RowKit
open Go.Proofs.Qxb6614814a.byt
set_option linter.unusedVariables false

/-- A []TakeCall that came in, opened. -/
theorem open_calls {H : Type} {enc : TypeId × Value → H} {W : World} {fuel : Nat} {a : Option Addr} {len cap : Nat} {x : DataW H × List MemPlace}
    (h : DataW.trod enc Try.prog W 0 (fun _ => true) true fuel 32 [.slice a len cap] = some x) :
    (a = none → len = 0 ∧ cap = 0) ∧ len ≤ 9223372036854775807 ∧ (0 < len → ∃ b off, a = some ⟨b, off, none⟩ ∧ ∃ G A L C Z, (∀ i, i < len → L i ≤ 9223372036854775807) ∧ rowC W b off len G A L C Z) := by
  rcases Deep.open_slice_pairs Try.underlying32 Try.underlying35 (by kernel_rfl) rfl rfl (by kernel_rfl) (by kernel_rfl) h with ⟨hcs, _⟩ | ⟨ad, l, c, mm, n, V0, V1, D0, D1, P0, P1, hcs, _, hl, hm, hmm, _, hx⟩
  · simp at hcs
    obtain ⟨rfl, rfl, rfl⟩ := hcs
    exact ⟨fun _ => ⟨rfl, rfl⟩, by omega, fun h => absurd h (by omega)⟩
  · simp at hcs
    obtain ⟨rfl, rfl, rfl⟩ := hcs
    have hmm' : mm = cap := by simpa using hmm
    subst hmm'
    unfold maxLen at hm
    refine ⟨fun e => by simp at e, by omega, fun h0 => ?_⟩
    obtain ⟨b, off, spot⟩ := ad
    have hspot : spot = none := by simpa [Addr.add] using World.cell?_spot (hx 0 (by omega)).1
    subst hspot
    refine ⟨b, off, rfl, ?_⟩
    have each : ∀ i, i < mm → ∃ q : Int × Option Addr × Nat × Nat × (Nat → Int), V0 i = .int .i64 q.1 ∧ V1 i = .slice q.2.1 q.2.2.1 q.2.2.2.1 ∧ q.2.2.1 ≤ 9223372036854775807 ∧ (q.2.1 = none → q.2.2.1 = 0 ∧ q.2.2.2.1 = 0) ∧ bytesAt W q.2.1 q.2.2.1 q.2.2.2.2 := by
      intro i hi
      obtain ⟨_, _, t0, t1⟩ := hx i hi
      obtain ⟨g, e0, _, _⟩ := DataW.trod_int Try.underlying3 t0
      rcases open_ints Try.underlying22 Try.underlying5 (by kernel_rfl) t1 with ⟨e1, _⟩ | ⟨y, l', c', zs, e1, _, hl', hm', hz, _, hcell, _⟩
      · exact ⟨(g, none, 0, 0, fun _ => 0), by simpa using e0, by simpa using e1, by simp, fun _ => ⟨rfl, rfl⟩, fun h => absurd h (by simp)⟩
      · have hz' : zs.length = c' := by simpa using hz
        unfold maxLen at hm'
        refine ⟨(g, some y, l', c', fun k => zs.getD k 0), by simpa using e0, by simpa using e1, by simp; omega, fun e => by simp at e, fun hp => ?_⟩
        simp at hp
        obtain ⟨b', off', spot'⟩ := y
        have hspot' : spot' = none := by simpa [Addr.add] using World.cell?_spot (hcell 0 (by omega))
        subst hspot'
        refine ⟨b', off', rfl, fun k hk => ?_⟩
        have := hcell k (by simp at hk; omega)
        rw [Addr.add_lit] at this
        exact this
    obtain ⟨q, hq⟩ := Deep.choose_lt each
    refine ⟨fun i => (q i).1, fun i => (q i).2.1, fun i => (q i).2.2.1, fun i => (q i).2.2.2.1, fun i => (q i).2.2.2.2, fun i hi => (hq i (by omega)).2.2.1, fun i hi => ?_⟩
    obtain ⟨e0, e1, _, e3, e4⟩ := hq i (by omega)
    obtain ⟨c0, c1, _, _⟩ := hx i (by omega)
    rw [Addr.add_lit, e0] at c0
    rw [Addr.add_lit, e1] at c1
    exact ⟨c0, c1, e3, e4⟩

end Go.Proofs.Qxb6614814a.node
