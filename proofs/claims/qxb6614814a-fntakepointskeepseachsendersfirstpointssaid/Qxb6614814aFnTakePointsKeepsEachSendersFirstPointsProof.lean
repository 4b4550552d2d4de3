/-
  THE PROOF OF 'Rows.FnTakePointsKeepsEachSendersFirstPointsSaid': the frame after the guide's own shells, at this function's number and types; the walks: the texts imported.
-/
import Derived.Test.Qxb6614814aKeeps
import Derived.Test.Qxb6614814aKeepsZ
import Derived.Test.Qxb6614814aOpenCalls
namespace Go.Proofs.Qxb6614814a.fnTakePointsKeepsEachSendersFirstPoints
open Go.ChangeShapes Go.WideShapes Go.ChangeAt Go.RowKit
set_option linter.unusedVariables false

theorem own : ownKnob Try.prog.godebug = none := by kernel_rfl
theorem laidOut : laidOutB Try.prog = true := by kernel_rfl

theorem walk (n : Int) (a : Option Addr) (len cap : Nat) (w : World) (hnil : a = none → len = 0 ∧ cap = 0) (hlen : len ≤ 9223372036854775807)
    (hrow : 0 < len → ∃ b off, a = some ⟨b, off, none⟩ ∧ ∃ G A L C Z, (∀ i, i < len → L i ≤ 9223372036854775807) ∧ node.rowC w b off len G A L C Z) :
    Calls Try.prog 4 #[.int .i64 n, .slice a len cap] w fun e w' => e = .returned (.bool true) ∧ Below w.heap.size w w' := by
  by_cases h0 : len = 0
  · subst h0
    by_cases hn : 1 ≤ n ∧ n ≤ 65536
    · obtain ⟨m, rfl⟩ := Int.eq_ofNat_of_zero_le (show 0 ≤ n by omega)
      exact keepu.in_zero w m a cap (fun e => (hnil e).2) (by omega) (by omega)
    · exact keepu.out_zero w n a cap hn
  · obtain ⟨b, off, rfl, G, A, L, C, Z, hL, hr⟩ := hrow (by omega)
    by_cases hn : (1 ≤ n ∧ n ≤ 65536) ∧ len ≤ 4096
    · obtain ⟨m, rfl⟩ := Int.eq_ofNat_of_zero_le (show 0 ≤ n by omega)
      exact keepu.in_some w m b off len cap G A L C Z (by omega) hn.2 hL hr (by omega) (by omega)
    · exact keepu.out_some w n b off len cap G A L C Z hlen hL hr (by by_cases c : 1 ≤ n ∧ n ≤ 65536; exact .inr fun e => hn ⟨c, e⟩; exact .inl c)

set_option maxRecDepth 100000 in
theorem lifted (os : Os) (started : os.Started) (H : Type) (enc : TypeId × Value → H) :
    ReturnsInHanded {} Try.checked os 4 .any (Rows.fnTakePointsKeepsEachSendersFirstPointsSpec.pre6 enc Try.prog Try.f4 Rows.fnTakePointsKeepsEachSendersFirstPointsRow.domain false) (Rows.fnTakePointsKeepsEachSendersFirstPointsSpec.post enc Try.prog Try.f4 false true false false) := by
  refine returnsInHanded_of_change (C := Try.checked) own started (by kernel_rfl) Try.func4
    (ChangeSpec.witness6 (enc := enc) (C := Try.checked) false ⟨#[], #[.int .i64 0, .slice none 0 0], []⟩ 8 (by kernel_rfl) (by kernel_rfl) (by kernel_rfl) (by kernel_rfl)) ?_
  intro W base args ds gs before hval0 hW hcnd _
  have hval : ∀ (j : Nat) t v, Try.f4.params[j]? = some t → args[j]? = some v → Value.okWide Try.prog W .any base t v := hval0
  have hW' := hW
  obtain ⟨p, q, hA0, hV, rfl, hfz, hnd⟩ := hW
  have hA : DataW.TrodAll enc Try.prog W 0 (fun _ => true) true Try.f4.params.toList args.toList ds p := hA0
  rw [Try.params4] at hA hval
  obtain ⟨v0, vs0, d0, ds0, p0, q0, hargs, rfl, rfl, h0, r0⟩ := trodAll_cons hA
  obtain ⟨v1, vs1, d1, ds1, p1, q1, rfl, rfl, rfl, h1, r1⟩ := trodAll_cons r0
  obtain ⟨rfl, rfl, rfl⟩ := trodAll_nil r1
  obtain rfl : args = #[v0, v1] := by cases args; simp_all
  obtain ⟨rfl, rfl⟩ := trodVars_none hV
  obtain ⟨a0, rfl, rfl, rfl, w0⟩ := open_int Try.underlying3 (hval 0 3 v0 rfl rfl) h0
  obtain ⟨a1, len1, cap1, rfl⟩ := okWide_slice Try.underlying32 (hval 1 32 v1 rfl rfl)
  have k1 := h1
  have lt1 : ∀ x ∈ p1, x.block < W.heap.size := by obtain ⟨m, hm⟩ := k1; exact DataW.trod_lt m _ _ _ hm
  obtain ⟨o1, o2, o3⟩ : (a1 = none → len1 = 0 ∧ cap1 = 0) ∧ len1 ≤ 9223372036854775807 ∧ (0 < len1 → ∃ b off, a1 = some ⟨b, off, none⟩ ∧ ∃ G A L C Z, (∀ i, i < len1 → L i ≤ 9223372036854775807) ∧ node.rowC W b off len1 G A L C Z) := by
    obtain ⟨fuel, hf⟩ := h1
    exact node.open_calls (by simpa [Value.cells] using hf)
  clear hA0 hval0
  refine (walk a0 a1 len1 cap1 W o1 o2 o3).mono fun e W' ⟨he, bel⟩ => ?_
  subst he
  exact ⟨_, rfl, _, _, _, [], _, [], hW', trodAll_mk1 (shut_bool Try.underlying4 _), (trodAll_cons_mk (shut_int Try.underlying3 w0) (trodAll_cons_mk (Below.trod laidOut (by kernel_rfl) (of_decide_eq_true (by kernel_rfl)) k1 bel lt1) trodAll_mk0)), rfl, bel.frame _, fun h => by cases h⟩

theorem over : Rows.fnTakePointsKeepsEachSendersFirstPointsRow.holds Try.pinned (OpenSpec.ofChange Rows.fnTakePointsKeepsEachSendersFirstPointsSpec) :=
  OpenClaim.holds_of_wide 4 Try.f4 rfl rfl rfl rfl rfl rfl rfl ⟨rfl, rfl, rfl, rfl, rfl⟩ rfl rfl rfl rfl rfl (by kernel_rfl) Try.func4 (by kernel_rfl)
    (of_decide_eq_true (by kernel_rfl)) (by unfold Func.isWrapper; first | (rw [if_pos (by decide +kernel)]; kernel_rfl) | (rw [if_neg (by decide +kernel)]; exact ⟨rfl, rfl⟩))
    (fun os started H enc _ => lifted os started H enc)

/-- THE STATEMENT -/
theorem proved : Rows.FnTakePointsKeepsEachSendersFirstPointsSaid := over
#print axioms proved
end Go.Proofs.Qxb6614814a.fnTakePointsKeepsEachSendersFirstPoints
