/-
  THE PROOF OF 'Rows.FnWholeSplitsAtAnyCutSaid': the frame after the guide's own shells (proof-skeleton), at this function's number and types; the walks: Qxb6614814aWholeIn, Qxb6614814aWholeMain.
-/
import Derived.Test.Qxb6614814aWholeIn
import Derived.Deep.Slices
namespace Go.Proofs.Qxb6614814a.fnWholeSplitsAtAnyCut
open Go.ChangeShapes Go.WideShapes Go.ChangeAt Go.RowKit
open Go.ChangeMaps (open_string shut_string)
set_option linter.unusedVariables false

theorem own : ownKnob Try.prog.godebug = none := by kernel_rfl
theorem laidOut : laidOutB Try.prog = true := by kernel_rfl

/-- A slice of one-cell elements that came in: nil; or an address, where the first 'len' cells hold V. -/
def IsRow (w : World) (a : Option Addr) (len cap : Nat) (V : Nat → Value) : Prop :=
  len ≤ 9223372036854775807 ∧ ((a = none ∧ len = 0 ∧ cap = 0) ∨ ∃ x, a = some x ∧ ∀ i, i < len → w.cell? (x.add i) = some (V i))

theorem walk (a0 : Option Addr) (n0 c0 : Nat) (S : Nat → Value) (a1 : Option Addr) (n1 c1 : Nat) (f : Nat → Bool) (lo m hi : Int) (w : World)
    (w0 : IsRow w a0 n0 c0 S) (w0' : ∀ i, i < n0 → (S i).oneCell' = true) (w1 : IsRow w a1 n1 c1 (fun i => .bool (f i))) (w4 : (Lit.int .i64 hi).wf = true) :
    Calls Try.prog 5 #[.slice a0 n0 c0, .slice a1 n1 c1, .int .i64 lo, .int .i64 m, .int .i64 hi] w fun e w' => e = .returned (.bool true) ∧ Below w.heap.size w w' := by
  have hb := bounds_i64 w4
  by_cases h : n0 + n1 ≤ 1048576 ∧ n0 ≤ 65536 ∧ n1 ≤ 65536 ∧ 0 ≤ lo ∧ lo ≤ m ∧ m ≤ hi ∧ (a1 = none ∨ hi ≤ n1)
  · obtain ⟨h1, h2, h3, h4, h5, h6, h7⟩ := h
    obtain ⟨lo, rfl⟩ := Int.eq_ofNat_of_zero_le h4
    obtain ⟨m, rfl⟩ := Int.eq_ofNat_of_zero_le (show 0 ≤ m by omega)
    obtain ⟨hi, rfl⟩ := Int.eq_ofNat_of_zero_le (show 0 ≤ hi by omega)
    rcases w0.2 with ⟨rfl, rfl, rfl⟩ | ⟨x0, rfl, hc0⟩
    · rcases w1.2 with ⟨rfl, rfl, rfl⟩ | ⟨x1, rfl, hc1⟩
      · exact whole.main_nn lo m hi w (by omega) (by omega) (by omega)
      · exact whole.main_ns x1 c1 n1 f lo m hi w (by omega) (by omega) (by omega) (by simp at h7; omega) hc1
    · rcases w1.2 with ⟨rfl, rfl, rfl⟩ | ⟨x1, rfl, hc1⟩
      · exact whole.main_sn x0 c0 S n0 lo m hi w (by omega) (by omega) (by omega) hc0 w0' (by omega)
      · exact whole.main_ss x0 c0 S x1 c1 n1 f n0 lo m hi w (by omega) (by omega) (by omega) hc0 w0' (by omega) (by simp at h7; omega) hc1
  · exact whole.main_out a0 a1 n0 c0 n1 c1 lo m hi w w0.1 w1.1 h

/-! ### THE ROW's STEP: WRITTEN OUT: LEAVE IT -/
set_option maxRecDepth 100000 in
theorem lifted (os : Os) (started : os.Started) (H : Type) (enc : TypeId × Value → H) :
    ReturnsInHanded {} Try.checked os 5 .any (Rows.fnWholeSplitsAtAnyCutSpec.pre6 enc Try.prog Try.f5 Rows.fnWholeSplitsAtAnyCutRow.domain false) (Rows.fnWholeSplitsAtAnyCutSpec.post enc Try.prog Try.f5 false true false false) := by
  refine returnsInHanded_of_change (C := Try.checked) own started (by kernel_rfl) Try.func5
    (ChangeSpec.witness6 (enc := enc) (C := Try.checked) false ⟨#[], #[.slice none 0 0, .slice none 0 0, .int .i64 0, .int .i64 0, .int .i64 0], []⟩ 8 (by kernel_rfl) (by kernel_rfl) (by kernel_rfl) (by kernel_rfl)) ?_
  intro W base args ds gs before hval0 hW hcnd _
  have hval : ∀ (j : Nat) t v, Try.f5.params[j]? = some t → args[j]? = some v → Value.okWide Try.prog W .any base t v := hval0
  have hW' := hW
  obtain ⟨p, q, hA0, hV, rfl, hfz, hnd⟩ := hW
  have hA : DataW.TrodAll enc Try.prog W 0 (fun _ => true) true Try.f5.params.toList args.toList ds p := hA0
  rw [Try.params5] at hA hval
  obtain ⟨v0, vs0, d0, ds0, p0, q0, hargs, rfl, rfl, h0, r0⟩ := trodAll_cons hA
  obtain ⟨v1, vs1, d1, ds1, p1, q1, rfl, rfl, rfl, h1, r1⟩ := trodAll_cons r0
  obtain ⟨v2, vs2, d2, ds2, p2, q2, rfl, rfl, rfl, h2, r2⟩ := trodAll_cons r1
  obtain ⟨v3, vs3, d3, ds3, p3, q3, rfl, rfl, rfl, h3, r3⟩ := trodAll_cons r2
  obtain ⟨v4, vs4, d4, ds4, p4, q4, rfl, rfl, rfl, h4, r4⟩ := trodAll_cons r3
  obtain ⟨rfl, rfl, rfl⟩ := trodAll_nil r4
  obtain rfl : args = #[v0, v1, v2, v3, v4] := by cases args; simp_all
  obtain ⟨rfl, rfl⟩ := trodVars_none hV
  obtain ⟨a0, len0, cap0, rfl⟩ := okWide_slice Try.underlying22 (hval 0 22 v0 rfl rfl)
  have k0 := h0
  have lt0 : ∀ x ∈ p0, x.block < W.heap.size := by obtain ⟨m, hm⟩ := k0; exact DataW.trod_lt m _ _ _ hm
  obtain ⟨S, w0, w0'⟩ : ∃ S, IsRow W a0 len0 cap0 S ∧ ∀ i, i < len0 → (S i).oneCell' = true := by
    obtain ⟨fuel, hf⟩ := h0
    rcases open_ints Try.underlying22 Try.underlying5 (by kernel_rfl) hf with ⟨hcs, _⟩ | ⟨x, l, c, zs, hcs, _, hl, hm, hz, _, hcell, hwz⟩
    · simp [Value.cells] at hcs
      obtain ⟨rfl, rfl, rfl⟩ := hcs
      exact ⟨fun _ => undef, ⟨by omega, .inl ⟨rfl, rfl, rfl⟩⟩, fun i hi => absurd hi (Nat.not_lt_zero _)⟩
    · simp [Value.cells] at hcs
      obtain ⟨rfl, rfl, rfl⟩ := hcs
      have hz' : zs.length = cap0 := by simpa using hz
      unfold maxLen at hm
      exact ⟨fun i => .int .u8 (zs.getD i 0), ⟨by omega, .inr ⟨_, rfl, fun i hi => hcell i (by omega)⟩⟩, fun i hi => rfl⟩
  obtain ⟨a1, len1, cap1, rfl⟩ := okWide_slice Try.underlying43 (hval 1 43 v1 rfl rfl)
  have k1 := h1
  have lt1 : ∀ x ∈ p1, x.block < W.heap.size := by obtain ⟨m, hm⟩ := k1; exact DataW.trod_lt m _ _ _ hm
  obtain ⟨f, w1⟩ : ∃ f : Nat → Bool, IsRow W a1 len1 cap1 (fun i => .bool (f i)) := by
    obtain ⟨fuel, hf⟩ := h1
    rcases Deep.open_slice1 Try.underlying43 (by kernel_rfl) hf with ⟨hcs, _⟩ | ⟨x, l, c, mm, n, V, D, Pl, hcs, _, hl, hm, hmm, _, hcell⟩
    · simp [Value.cells] at hcs
      obtain ⟨rfl, rfl, rfl⟩ := hcs
      exact ⟨fun _ => false, by omega, .inl ⟨rfl, rfl, rfl⟩⟩
    · simp [Value.cells] at hcs
      obtain ⟨rfl, rfl, rfl⟩ := hcs
      have hmm' : mm = cap1 := by simpa using hmm
      unfold maxLen at hm
      obtain ⟨f, hf'⟩ := Deep.choose_lt (n := mm) (p := fun i (b : Bool) => V i = .bool b) (fun i hi => by
        obtain ⟨b, e, _⟩ := DataW.trod_bool Try.underlying4 (hcell i hi).2
        exact ⟨b, by simpa using e⟩)
      exact ⟨f, by omega, .inr ⟨_, rfl, fun i hi => by rw [(hcell i (by omega)).1, hf' i (by omega)]⟩⟩
  obtain ⟨a2, rfl, rfl, rfl, w2⟩ := open_int Try.underlying3 (hval 2 3 v2 rfl rfl) h2
  obtain ⟨a3, rfl, rfl, rfl, w3⟩ := open_int Try.underlying3 (hval 3 3 v3 rfl rfl) h3
  obtain ⟨a4, rfl, rfl, rfl, w4⟩ := open_int Try.underlying3 (hval 4 3 v4 rfl rfl) h4
  clear hA0 hval0
  refine (walk a0 len0 cap0 S a1 len1 cap1 f a2 a3 a4 W w0 w0' w1 w4).mono fun e W' ⟨he, bel⟩ => ?_
  subst he
  exact ⟨_, rfl, _, _, _, [], _, [], hW', trodAll_mk1 (shut_bool Try.underlying4 _), (trodAll_cons_mk (Below.trod laidOut (by kernel_rfl) (of_decide_eq_true (by kernel_rfl)) k0 bel lt0) (trodAll_cons_mk (Below.trod laidOut (by kernel_rfl) (of_decide_eq_true (by kernel_rfl)) k1 bel lt1) (trodAll_cons_mk (shut_int Try.underlying3 w2) (trodAll_cons_mk (shut_int Try.underlying3 w3) (trodAll_cons_mk (shut_int Try.underlying3 w4) trodAll_mk0))))), rfl, bel.frame _, fun h => by cases h⟩

theorem over : Rows.fnWholeSplitsAtAnyCutRow.holds Try.pinned (OpenSpec.ofChange Rows.fnWholeSplitsAtAnyCutSpec) :=
  OpenClaim.holds_of_wide 5 Try.f5 rfl rfl rfl rfl rfl rfl rfl ⟨rfl, rfl, rfl, rfl, rfl⟩ rfl rfl rfl rfl rfl (by kernel_rfl) Try.func5 (by kernel_rfl)
    (of_decide_eq_true (by kernel_rfl)) (by unfold Func.isWrapper; first | (rw [if_pos (by decide +kernel)]; kernel_rfl) | (rw [if_neg (by decide +kernel)]; exact ⟨rfl, rfl⟩))
    (fun os started H enc _ => lifted os started H enc)

/-- ████ THE STATEMENT ████ -/
theorem proved : Rows.FnWholeSplitsAtAnyCutSaid := over
#print axioms proved
end Go.Proofs.Qxb6614814a.fnWholeSplitsAtAnyCut
