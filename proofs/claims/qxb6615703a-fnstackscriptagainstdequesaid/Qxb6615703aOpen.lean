import Derived.Test.Qxb6615703aTop
import Derived.Test.Qxb6615703aBytes
import Derived.SliceStrings
namespace Go.Proofs.Qxb6615703a.st
open Go.ChangeShapes Go.WideShapes Go.ChangeAt Go.RowKit
set_option linter.unusedVariables false

/-- A []string that came in, opened. -/
theorem open_strl {H : Type} {enc : TypeId × Value → H} {W : World} {fuel : Nat} {a : Option Addr} {len cap : Nat} {x : DataW H × List MemPlace}
    (h : DataW.trod enc Try.prog W 0 (fun _ => true) true fuel 22 [.slice a len cap] = some x) :
    ∃ l : List ByteArray, len = l.length ∧ len ≤ 9223372036854775807 ∧ strsAt W a l ∧ small 9223372036854775807 l := by
  rcases open_strings Try.underlying22 Try.underlying9 (by kernel_rfl) h with ⟨hcs, _⟩ | ⟨ad, l, c, ss, hcs, _, hl, hm, hz, _, hcell, hws⟩
  · simp at hcs
    obtain ⟨rfl, rfl, rfl⟩ := hcs
    exact ⟨[], rfl, by omega, fun h => absurd h (by simp), fun k hk => absurd hk (by simp)⟩
  · simp at hcs
    obtain ⟨rfl, rfl, rfl⟩ := hcs
    have hz' : ss.length = cap := by simpa using hz
    unfold maxLen at hm hws
    have hlen : (ss.take len).length = len := by rw [List.length_take]; omega
    have hget : ∀ k, k < len → (ss.take len).getD k ByteArray.empty = ss.getD k ByteArray.empty := fun k hk => by simp [List.getD, hk]
    refine ⟨ss.take len, hlen.symm, by omega, fun h0 => ?_, fun k hk => ?_⟩
    · obtain ⟨b, off, spot⟩ := ad
      have hspot : spot = none := by simpa [Addr.add] using World.cell?_spot (hcell 0 (by omega))
      subst hspot
      refine ⟨b, off, rfl, fun k hk => ?_⟩
      rw [hlen] at hk
      have := hcell k (by omega)
      rw [Addr.add_lit] at this
      rw [hget k hk]
      exact this
    · rw [hlen] at hk
      rw [hget k hk]
      have hk2 : k < ss.length := by omega
      have := hws (ss.getD k ByteArray.empty) (by simp [List.getD, hk2])
      omega

end Go.Proofs.Qxb6615703a.st
