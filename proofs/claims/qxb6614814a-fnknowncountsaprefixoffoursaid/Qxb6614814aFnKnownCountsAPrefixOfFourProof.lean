/-
  THE PROOF OF 'Rows.FnKnownCountsAPrefixOfFourSaid': the frame is the kit's own shell (written by its program proof-skeleton); the walk is filled in.
-/
import Derived.Test.Qxb6614814aRows
import Derived.WalkKit
import Derived.ProofKit
import Derived.OpenShut
import Derived.ShutString
namespace Go.Proofs.Qxb6614814a.fnKnownCountsAPrefixOfFour
open Go.ChangeShapes Go.WideShapes Go.ChangeAt Go.RowKit
open Go.ChangeMaps (open_string shut_string)
set_option linter.unusedVariables false      -- a walk need not use every 'w<i>' (that an integer argument fits its kind)

theorem own : ownKnob Try.prog.godebug = none := by kernel_rfl

/-! ### STEP 1: THE WALK: the Go text returns true. 'Grown w w'': the world has at most new blocks (Derived/RowKit3.lean). Part the cases AHEAD of 'go_enter' where a test parts the walk; take each callee by a contract of your own. -/
theorem walk (a0 : Int) (w0 : (Lit.int .u8 a0).wf = true) (w : World) :
    Calls Try.prog 8 #[.int .u8 a0] w fun e w' => e = .returned (.bool true) ∧ Grown w w' := by
  have hb : 0 ≤ a0 ∧ a0 ≤ 255 := bounds_u8 w0
  obtain ⟨n, rfl⟩ := Int.eq_ofNat_of_zero_le hb.1
  go_enter Try.func8, Try.ntmps8
  go_wp2
  go_loop [3, 4] (fun c v => ∃ k : Nat, k ≤ n + 1 ∧ v = .int .i64 (k : Int) ∧ c = .int .i64 ((min k 4 : Nat) : Int)) (fun _ v => n + 1 - (intOf v).toNat)
  case atStart => exact ⟨0, Nat.zero_le _, rfl, rfl⟩
  case round =>
    obtain ⟨k, hk, rfl, rfl⟩ := hrel
    by_cases hlt : k ≤ n
    · by_cases h4 : k < 4
      · have hmin : min k 4 = k := by omega
        have hmin' : min (k + 1) 4 = k + 1 := by omega
        rw [hmin]
        clear hmin
        have H : Hid (min (k + 1) 4 = k + 1) := hmin'
        clear hmin'
        go_wp2
        go_round
        case rel => exact ⟨k + 1, by omega, by go_num, by rw [H.out]; go_num⟩
        case measure => simp [intOf]; omega
      · have hmin : min k 4 = 4 := by omega
        have hmin' : min (k + 1) 4 = 4 := by omega
        rw [hmin]
        clear hmin
        have H : Hid (min (k + 1) 4 = 4) := hmin'
        clear hmin'
        go_wp2
        go_round
        case rel => exact ⟨k + 1, by omega, by go_num, by rw [H.out]⟩
        case measure => simp [intOf]; omega
    · by_cases h4 : n < 4
      · have hmin : min k 4 = n + 1 := by omega
        rw [hmin]
        clear hmin
        go_wp2
        go_ret
        exact ⟨rfl, by repeat (first | exact Grown.refl _ | apply Grown.drew | apply Grown.alloc)⟩
      · have hmin : min k 4 = 4 := by omega
        rw [hmin]
        clear hmin
        go_wp2
        go_ret
        exact ⟨rfl, by repeat (first | exact Grown.refl _ | apply Grown.drew | apply Grown.alloc)⟩

/-! ### THE ROW's STEP: WRITTEN OUT: LEAVE IT -/
set_option maxRecDepth 100000 in
theorem lifted (os : Os) (started : os.Started) (H : Type) (enc : TypeId × Value → H) :
    ReturnsInHanded {} Try.checked os 8 .any (Rows.fnKnownCountsAPrefixOfFourSpec.pre6 enc Try.prog Try.f8 Rows.fnKnownCountsAPrefixOfFourRow.domain false) (Rows.fnKnownCountsAPrefixOfFourSpec.post enc Try.prog Try.f8 false true false false) := by
  refine returnsInHanded_of_change (C := Try.checked) own started (by kernel_rfl) Try.func8
    (ChangeSpec.witness6 (enc := enc) (C := Try.checked) false ⟨#[], #[.int .u8 0], []⟩ 8 (by kernel_rfl) (by kernel_rfl) (by kernel_rfl) (by kernel_rfl)) ?_
  intro W base args ds gs before hval0 hW hcnd _
  have hval : ∀ (j : Nat) t v, Try.f8.params[j]? = some t → args[j]? = some v → Value.okWide Try.prog W .any base t v := hval0
  have hW' := hW
  obtain ⟨p, q, hA0, hV, rfl, hfz, hnd⟩ := hW
  have hA : DataW.TrodAll enc Try.prog W 0 (fun _ => true) true Try.f8.params.toList args.toList ds p := hA0
  rw [Try.params8] at hA hval
  obtain ⟨v0, vs0, d0, ds0, p0, q0, hargs, rfl, rfl, h0, r0⟩ := trodAll_cons hA
  obtain ⟨rfl, rfl, rfl⟩ := trodAll_nil r0
  obtain rfl : args = #[v0] := by cases args; simp_all
  obtain ⟨rfl, rfl⟩ := trodVars_none hV
  obtain ⟨a0, rfl, rfl, rfl, w0⟩ := open_int Try.underlying5 (hval 0 5 v0 rfl rfl) h0
  clear hA0 hval0
  simp only [List.append_nil] at hW'
  refine (walk a0 w0 W).mono fun e W' ⟨he, hg⟩ => ?_
  subst he
  exact ⟨_, rfl, post_of_same (pa := []) (pv := []) hW' (fun _ _ _ => (trodAll_cons_mk (shut_bool Try.underlying4 _) trodAll_mk0)) (fun sp _ => (trodAll_cons_mk (shut_int Try.underlying5 w0) trodAll_mk0)) (fun _ _ => rfl) rfl
    (hg.frame _) hg.2.1 (ok_one (by kernel_rfl) rfl (okWide_bool_mk Try.underlying4 _))⟩

theorem over : Rows.fnKnownCountsAPrefixOfFourRow.holds Try.pinned (OpenSpec.ofChange Rows.fnKnownCountsAPrefixOfFourSpec) :=
  OpenClaim.holds_of_wide 8 Try.f8 rfl rfl rfl rfl rfl rfl rfl ⟨rfl, rfl, rfl, rfl, rfl⟩ rfl rfl rfl rfl rfl (by kernel_rfl) Try.func8 (by kernel_rfl)
    (of_decide_eq_true (by kernel_rfl)) (by unfold Func.isWrapper; first | (rw [if_pos (by decide +kernel)]; kernel_rfl) | (rw [if_neg (by decide +kernel)]; exact ⟨rfl, rfl⟩))
    (fun os started H enc _ => lifted os started H enc)

/-- ████ THE STATEMENT ████ -/
theorem proved : Rows.FnKnownCountsAPrefixOfFourSaid :=
  over
#print axioms proved
end Go.Proofs.Qxb6614814a.fnKnownCountsAPrefixOfFour
