import Derived.Test.Qxb6614814aWholeWalks
import Derived.Deep.OwnRows
namespace Go.Proofs.Qxb6614814a.whole
open Go.ChangeShapes Go.WideShapes Go.ChangeAt Go.RowKit
set_option linter.unusedVariables false

theorem info4 : (Try.prog.info? 4).map (fun i => (i.zero, i.size, i.bytes)) = some (some (.bool false), 1, 1) := by kernel_rfl
theorem info5 : (Try.prog.info? 5).map (fun i => (i.zero, i.size, i.bytes)) = some (some (.int .u8 0), 1, 1) := by kernel_rfl
theorem size4 : (Try.prog.info? 4).map (·.size) = some 1 := by kernel_rfl
theorem size5 : (Try.prog.info? 5).map (·.size) = some 1 := by kernel_rfl

theorem bytes_any (sa fa : Option Addr) (sn sc fn fc : Nat) (lo m hi : Int) (w : World) (hs : sn ≤ 9223372036854775807) (hf : fn ≤ 9223372036854775807) :
    Calls Try.prog 23 #[.slice sa sn sc, .slice fa fn fc, .int .i64 lo, .int .i64 m, .int .i64 hi] w fun e w' => e = .returned (.bool (decide (sn + fn ≤ 1048576))) ∧ w = w' := by
  by_cases h1 : sn ≤ 1048576
  · by_cases h2 : fn ≤ 1048576
    · by_cases h3 : sn + fn ≤ 1048576
      · have HV : Hid (decide (sn + fn ≤ 1048576) = true) := decide_eq_true h3
        go_enter Try.func23, Try.ntmps23
        go_wp2
        go_ret
        exact ⟨by rw [HV.out]; rfl, rfl⟩
      · have HV : Hid (decide (sn + fn ≤ 1048576) = false) := decide_eq_false h3
        go_enter Try.func23, Try.ntmps23
        go_wp2
        go_ret
        exact ⟨by rw [HV.out]; rfl, rfl⟩
    · have HV : Hid (decide (sn + fn ≤ 1048576) = false) := decide_eq_false (by omega)
      go_enter Try.func23, Try.ntmps23
      go_wp2
      go_ret
      exact ⟨by rw [HV.out]; rfl, rfl⟩
  · have HV : Hid (decide (sn + fn ≤ 1048576) = false) := decide_eq_false (by omega)
    go_enter Try.func23, Try.ntmps23
    go_wp2
    go_ret
    exact ⟨by rw [HV.out]; rfl, rfl⟩

/-- The early ways out. -/
theorem main_out (sa fa : Option Addr) (sn sc fn fc : Nat) (lo m hi : Int) (w : World) (hs : sn ≤ 9223372036854775807) (hf : fn ≤ 9223372036854775807)
    (h : ¬ (sn + fn ≤ 1048576 ∧ sn ≤ 65536 ∧ fn ≤ 65536 ∧ 0 ≤ lo ∧ lo ≤ m ∧ m ≤ hi ∧ (fa = none ∨ hi ≤ fn))) :
    Calls Try.prog 5 #[.slice sa sn sc, .slice fa fn fc, .int .i64 lo, .int .i64 m, .int .i64 hi] w fun e w' => e = .returned (.bool true) ∧ Below w.heap.size w w' := by
  have hq := fun w t e => run_neq_slice_nil_any (P := Try.prog) w t e fa fn fc 0 0
  by_cases h1 : sn + fn ≤ 1048576
  · have hd : decide (sn + fn ≤ 1048576) = true := decide_eq_true h1
    by_cases h2 : sn ≤ 65536
    · by_cases h3 : fn ≤ 65536
      · by_cases h4 : 0 ≤ lo
        · by_cases h5 : lo ≤ m
          · by_cases h6 : m ≤ hi
            · obtain ⟨x, rfl⟩ : ∃ x, fa = some x := by cases fa with | none => exact absurd ⟨h1, h2, h3, h4, h5, h6, .inl rfl⟩ h | some x => exact ⟨x, rfl⟩
              have h7 : ¬ hi ≤ fn := fun e => h ⟨h1, h2, h3, h4, h5, h6, .inr e⟩
              clear h
              have hn : (!(some x : Option Addr).isNone) = true := rfl
              go_enter Try.func5, Try.ntmps5
              go_wp2_with (go_at_call 23; refine (bytes_any _ _ _ _ _ _ _ _ _ _ hs hf).mono ?_; rintro e w' ⟨rfl, rfl⟩)
              go_ret
              exact ⟨rfl, Below.refl _ _⟩
            · clear h
              have hd1 : decide (lo < 0) = false := decide_eq_false (by omega)
              have hd2 : decide (m < lo) = false := decide_eq_false (by omega)
              go_enter Try.func5, Try.ntmps5
              go_wp2_with (go_at_call 23; refine (bytes_any _ _ _ _ _ _ _ _ _ _ hs hf).mono ?_; rintro e w' ⟨rfl, rfl⟩)
              go_ret
              exact ⟨rfl, Below.refl _ _⟩
          · clear h
            have hd1 : decide (lo < 0) = false := decide_eq_false (by omega)
            have hd2 : decide (m < lo) = true := decide_eq_true (by omega)
            go_enter Try.func5, Try.ntmps5
            go_wp2_with (go_at_call 23; refine (bytes_any _ _ _ _ _ _ _ _ _ _ hs hf).mono ?_; rintro e w' ⟨rfl, rfl⟩)
            go_ret
            exact ⟨rfl, Below.refl _ _⟩
        · clear h
          have hd1 : decide (lo < 0) = true := decide_eq_true (by omega)
          go_enter Try.func5, Try.ntmps5
          go_wp2_with (go_at_call 23; refine (bytes_any _ _ _ _ _ _ _ _ _ _ hs hf).mono ?_; rintro e w' ⟨rfl, rfl⟩)
          go_ret
          exact ⟨rfl, Below.refl _ _⟩
      · clear h
        go_enter Try.func5, Try.ntmps5
        go_wp2_with (go_at_call 23; refine (bytes_any _ _ _ _ _ _ _ _ _ _ hs hf).mono ?_; rintro e w' ⟨rfl, rfl⟩)
        go_ret
        exact ⟨rfl, Below.refl _ _⟩
    · clear h
      go_enter Try.func5, Try.ntmps5
      go_wp2_with (go_at_call 23; refine (bytes_any _ _ _ _ _ _ _ _ _ _ hs hf).mono ?_; rintro e w' ⟨rfl, rfl⟩)
      go_ret
      exact ⟨rfl, Below.refl _ _⟩
  · have hd : decide (sn + fn ≤ 1048576) = false := decide_eq_false h1
    clear h
    go_enter Try.func5, Try.ntmps5
    go_wp2_with (go_at_call 23; refine (bytes_any _ _ _ _ _ _ _ _ _ _ hs hf).mono ?_; rintro e w' ⟨rfl, rfl⟩)
    go_ret
    exact ⟨rfl, Below.refl _ _⟩

end Go.Proofs.Qxb6614814a.whole
