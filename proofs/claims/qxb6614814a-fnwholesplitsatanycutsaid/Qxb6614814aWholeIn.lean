import Derived.Test.Qxb6614814aWholeMain
import Derived.Test.Qxb6614814aAids
namespace Go.Proofs.Qxb6614814a.whole
open Go.ChangeShapes Go.WideShapes Go.ChangeAt Go.RowKit
open Go.Proofs.Qxb6614814a.aids (qArr qRow qRow.cell qRow.below qRow.lt qRow_new run_copy_new cell_below)
set_option linter.unusedVariables false

set_option maxHeartbeats 1000000 in
theorem main_ss (sx : Addr) (sc : Nat) (S : Nat → Value) (fx : Addr) (fc fn : Nat) (f : Nat → Bool) (sn : Nat) (lo m hi : Nat) (w : World) (h1 : lo ≤ m) (h2 : m ≤ hi) (hsn : sn ≤ 65536) (hS : ∀ i, i < sn → w.cell? (sx.add i) = some (S i)) (hS1 : ∀ i, i < sn → (S i).oneCell' = true) (hfn : fn ≤ 65536) (h3 : hi ≤ fn) (hF : ∀ i, i < fn → w.cell? (fx.add i) = some (.bool (f i))) :
    Calls Try.prog 5 #[.slice (some sx) sn sc, .slice (some fx) fn fc, .int .i64 (lo : Int), .int .i64 (m : Int), .int .i64 (hi : Int)] w fun e w' => e = .returned (.bool true) ∧ Below w.heap.size w w' := by
  have hd : decide (sn + fn ≤ 1048576) = true := decide_eq_true (by omega)
  have hd1 : decide ((lo : Int) < 0) = false := decide_eq_false (by omega)
  have hd2 : decide (m < lo) = false := decide_eq_false (by omega)
  have hq1 := fun w t e => run_neq_slice_nil_any (P := Try.prog) w t e (some fx) fn fc 0 0
  have hq2 := fun w t e => run_neq_slice_nil_any (P := Try.prog) w t e (some sx) sn sc 0 0
  have hmk1 := run_make_row' (P := Try.prog) 22 5 (.int .u8 0) 1 Try.underlying22 info5 rfl .i64 .i64 sn (by omega) (by omega)
  have hcp1 := run_copy_new (P := Try.prog) w 22 3 5 Try.underlying22 size5 w.heap.size rfl sn (some sx) sc (madeCells #[.int .u8 0] sn) (size_madeCells _ _) S (fun k hk => ⟨sx, rfl, hS k hk⟩) hS1
  have hmk2 := run_make_row' (P := Try.prog) 43 4 (.bool false) 1 Try.underlying43 info4 rfl .i64 .i64 fn (by omega) (by omega)
  have hcp2 := run_copy_new (P := Try.prog) (w.alloc (Obj.cells (qArr sn S) 5)) 43 3 4 Try.underlying43 size4 (w.heap.size + 1) (by simp) fn (some fx) fc (madeCells #[.bool false] fn) (size_madeCells _ _) (fun i => .bool (f i)) (fun k hk => ⟨fx, rfl, aids.cell_alloc (hF k hk) _⟩) (fun _ _ => rfl)
  clear hS hS1 hF
  go_enter Try.func5, Try.ntmps5
  go_wp2_with (go_at_call 23; refine (bytes_any _ _ _ _ _ _ _ _ _ _ (by omega) (by omega)).mono ?_; rintro e w' ⟨rfl, rfl⟩)
  have hr : qRow ((w.alloc (Obj.cells (qArr sn S) 5)).alloc (Obj.cells (qArr fn fun i => Value.bool (f i)) 4)) (w.heap.size + 1) 4 fn (fun i => .bool (f i)) := by
    have := qRow_new (w.alloc (Obj.cells (qArr sn S) 5)) 4 fn (fun i => .bool (f i))
    simpa using this
  have HB : Below w.heap.size w ((w.alloc (Obj.cells (qArr sn S) 5)).alloc (Obj.cells (qArr fn fun i => Value.bool (f i)) 4)) := (((Below.refl _ _).alloc (Nat.le_refl _) _).alloc (by simp) _)
  generalize ((w.alloc (Obj.cells (qArr sn S) 5)).alloc (Obj.cells (qArr fn fun i => Value.bool (f i)) 4)) = W2 at *
  generalize w.heap.size + 1 = g at *
  clear hcp1 hmk1 hcp2 hmk2
  have hgl := hr.lt
  refine (zzwhole_some _ sn sn (g) fn f lo hi _ (by omega) (by omega) (by omega) hfn (fun i hi' => hr.cell i hi')).mono ?_
  rintro e w3 ⟨rfl, hb3⟩
  have HB3 := HB.trans (hb3.mono HB.size)
  have hr3 := hr.below hb3 hgl
  have hgl3 := hr3.lt
  clear hr hb3 hgl HB
  go_wp2_with fail
  refine (zzwhole_some _ sn sn (g) fn f lo m _ (by omega) (by omega) (by omega) hfn (fun i hi' => hr3.cell i hi')).mono ?_
  rintro e w4 ⟨rfl, hb4⟩
  have HB4 := HB3.trans (hb4.mono HB3.size)
  have hr4 := hr3.below hb4 hgl3
  have hgl4 := hr4.lt
  clear hr3 hb4 hgl3 HB3
  go_wp2_with fail
  refine (zzwhole_some _ sn sn (g) fn f m hi _ (by omega) (by omega) (by omega) hfn (fun i hi' => hr4.cell i hi')).mono ?_
  rintro e w5 ⟨rfl, hb5⟩
  have HB5 := HB4.trans (hb5.mono HB4.size)
  have hr5 := hr4.below hb5 hgl4
  have hgl5 := hr5.lt
  clear hr4 hb5 hgl4 HB4
  have HR : Hid (∀ i, i < fn → w5.cell? ⟨g, i, none⟩ = some (.bool (f i))) := fun i hi' => hr5.cell i hi'
  clear hr5 hgl5
  have hG := wholeB_split sn (some f) lo m hi h1 h2
  have hGd : wholeB sn (some f) lo hi = (decide (hi ≤ sn) && allT (hi - lo) (fun i => f (lo + i))) := rfl
  generalize wholeB sn (some f) lo hi = G at *
  generalize wholeB sn (some f) lo m = L at *
  generalize wholeB sn (some f) m hi = R at *
  have HG : Hid (G = (L && R)) := hG
  have HGd : Hid (G = (decide (hi ≤ sn) && allT (hi - lo) (fun i => f (lo + i)))) := hGd
  clear hG hGd
  have hq3 := fun ww t e => run_neq_slice_nil_any (P := Try.prog) ww t e (some ⟨g, 0, none⟩) fn fn 0 0
  by_cases hc : hi ≤ sn
  · have hcd : decide ((hi : Int) ≤ (sn : Int)) = true := decide_eq_true (by omega)
    go_wp2_with fail
    go_loop [16, 17] (fun b k => b = .bool true ∧ ∃ j : Nat, lo ≤ j ∧ j ≤ hi ∧ k = .int .i64 (j : Int) ∧ ∀ i, lo ≤ i → i < j → f i = true) (fun _ k => hi - (intOf k).toNat)
    case atStart => exact ⟨rfl, lo, Nat.le_refl _, by omega, rfl, fun i a b => by omega⟩
    case round =>
      obtain ⟨rfl, j, hj1, hj2, rfl, hall⟩ := hrel
      have HA : Hid (∀ i, lo ≤ i → i < j → f i = true) := hall
      clear hall
      by_cases hlt : j < hi
      · have hcx := HR.out j (by omega)
        cases hv : f j with
        | true =>
          rw [hv] at hcx
          have HV : Hid (f j = true) := hv
          clear hv
          go_wp2
          go_round
          case rel => exact ⟨rfl, j + 1, by omega, by omega, by go_num, fun i a b => by rcases Nat.lt_succ_iff_lt_or_eq.1 b with h | rfl; exact HA.out i a h; exact HV.out⟩
          case measure => simp [intOf]; omega
        | false =>
          rw [hv] at hcx
          have hGf : G = false := by rw [HGd.out, allT_not (j - lo) (by omega) (by rw [show lo + (j - lo) = j by omega]; exact hv)]; simp
          subst hGf
          have hLR := HG.out
          clear hv HGd HG
          cases L <;> cases R <;> simp at hLR
          all_goals (go_wp2 <;> (go_ret; exact ⟨rfl, HB5⟩))
      · have hGt : G = true := by rw [HGd.out, allT_of (fun i hi' => HA.out (lo + i) (by omega) (by omega))]; simp [hc]
        subst hGt
        have hLR := HG.out
        clear HGd HG
        cases L <;> cases R <;> simp at hLR
        all_goals (go_wp2 <;> (go_ret; exact ⟨rfl, HB5⟩))
  · have hcd : decide ((hi : Int) ≤ (sn : Int)) = false := decide_eq_false (by omega)
    have hGf : G = false := by rw [HGd.out]; simp [hc]
    subst hGf
    have hLR := HG.out
    clear HGd HG
    cases L <;> cases R <;> simp at hLR
    all_goals (go_wp2 <;> (go_ret; exact ⟨rfl, HB5⟩))

set_option maxHeartbeats 1000000 in
theorem main_sn (sx : Addr) (sc : Nat) (S : Nat → Value) (sn : Nat) (lo m hi : Nat) (w : World) (h1 : lo ≤ m) (h2 : m ≤ hi) (hsn : sn ≤ 65536) (hS : ∀ i, i < sn → w.cell? (sx.add i) = some (S i)) (hS1 : ∀ i, i < sn → (S i).oneCell' = true) (h3 : hi ≤ 9223372036854775807) :
    Calls Try.prog 5 #[.slice (some sx) sn sc, .slice none 0 0, .int .i64 (lo : Int), .int .i64 (m : Int), .int .i64 (hi : Int)] w fun e w' => e = .returned (.bool true) ∧ Below w.heap.size w w' := by
  have hd : decide (sn ≤ 1048576) = true := decide_eq_true (by omega)
  have hd1 : decide ((lo : Int) < 0) = false := decide_eq_false (by omega)
  have hd2 : decide (m < lo) = false := decide_eq_false (by omega)
  have hq1 := fun w t e => run_neq_slice_nil_any (P := Try.prog) w t e none 0 0 0 0
  have hq2 := fun w t e => run_neq_slice_nil_any (P := Try.prog) w t e (some sx) sn sc 0 0
  have hmk1 := run_make_row' (P := Try.prog) 22 5 (.int .u8 0) 1 Try.underlying22 info5 rfl .i64 .i64 sn (by omega) (by omega)
  have hcp1 := run_copy_new (P := Try.prog) w 22 3 5 Try.underlying22 size5 w.heap.size rfl sn (some sx) sc (madeCells #[.int .u8 0] sn) (size_madeCells _ _) S (fun k hk => ⟨sx, rfl, hS k hk⟩) hS1
  clear hS hS1
  go_enter Try.func5, Try.ntmps5
  go_wp2_with (go_at_call 23; refine (bytes_any _ _ _ _ _ _ _ _ _ _ (by omega) (by omega)).mono ?_; rintro e w' ⟨rfl, rfl⟩)
  have HB : Below w.heap.size w (w.alloc (Obj.cells (qArr sn S) 5)) := ((Below.refl _ _).alloc (Nat.le_refl _) _)
  generalize (w.alloc (Obj.cells (qArr sn S) 5)) = W2 at *
  clear hcp1 hmk1
  refine (zzwhole_nil _ sn sn lo hi _ (by omega) (by omega) (by omega)).mono ?_
  rintro e w3 ⟨rfl, hb3⟩
  have HB3 := HB.trans (hb3.mono HB.size)
  clear hb3 HB
  go_wp2_with fail
  refine (zzwhole_nil _ sn sn lo m _ (by omega) (by omega) (by omega)).mono ?_
  rintro e w4 ⟨rfl, hb4⟩
  have HB4 := HB3.trans (hb4.mono HB3.size)
  clear hb4 HB3
  go_wp2_with fail
  refine (zzwhole_nil _ sn sn m hi _ (by omega) (by omega) (by omega)).mono ?_
  rintro e w5 ⟨rfl, hb5⟩
  have HB5 := HB4.trans (hb5.mono HB4.size)
  clear hb5 HB4
  have hG := wholeB_split sn none lo m hi h1 h2
  have hGd : wholeB sn none lo hi = (decide (hi ≤ sn) && true) := rfl
  generalize wholeB sn none lo hi = G at *
  generalize wholeB sn none lo m = L at *
  generalize wholeB sn none m hi = R at *
  have HG : Hid (G = (L && R)) := hG
  have HGd : Hid (G = (decide (hi ≤ sn) && true)) := hGd
  clear hG hGd
  by_cases hc : hi ≤ sn
  · have hcd : decide ((hi : Int) ≤ (sn : Int)) = true := decide_eq_true (by omega)
    have hGt : G = true := by rw [HGd.out]; simp; omega
    subst hGt
    have hLR := HG.out
    clear HGd HG
    cases L <;> cases R <;> simp at hLR
    all_goals (go_wp2 <;> (go_ret; exact ⟨rfl, HB5⟩))
  · have hcd : decide ((hi : Int) ≤ (sn : Int)) = false := decide_eq_false (by omega)
    have hGf : G = false := by rw [HGd.out]; simp [hc]
    subst hGf
    have hLR := HG.out
    clear HGd HG
    cases L <;> cases R <;> simp at hLR
    all_goals (go_wp2 <;> (go_ret; exact ⟨rfl, HB5⟩))

set_option maxHeartbeats 1000000 in
theorem main_ns (fx : Addr) (fc fn : Nat) (f : Nat → Bool) (lo m hi : Nat) (w : World) (h1 : lo ≤ m) (h2 : m ≤ hi) (hfn : fn ≤ 65536) (h3 : hi ≤ fn) (hF : ∀ i, i < fn → w.cell? (fx.add i) = some (.bool (f i))) :
    Calls Try.prog 5 #[.slice none 0 0, .slice (some fx) fn fc, .int .i64 (lo : Int), .int .i64 (m : Int), .int .i64 (hi : Int)] w fun e w' => e = .returned (.bool true) ∧ Below w.heap.size w w' := by
  have hd : decide (fn ≤ 1048576) = true := decide_eq_true (by omega)
  have hd1 : decide ((lo : Int) < 0) = false := decide_eq_false (by omega)
  have hd2 : decide (m < lo) = false := decide_eq_false (by omega)
  have hq1 := fun w t e => run_neq_slice_nil_any (P := Try.prog) w t e (some fx) fn fc 0 0
  have hq2 := fun w t e => run_neq_slice_nil_any (P := Try.prog) w t e none 0 0 0 0
  have hmk2 := run_make_row' (P := Try.prog) 43 4 (.bool false) 1 Try.underlying43 info4 rfl .i64 .i64 fn (by omega) (by omega)
  have hcp2 := run_copy_new (P := Try.prog) w 43 3 4 Try.underlying43 size4 (w.heap.size) (by simp) fn (some fx) fc (madeCells #[.bool false] fn) (size_madeCells _ _) (fun i => .bool (f i)) (fun k hk => ⟨fx, rfl, hF k hk⟩) (fun _ _ => rfl)
  clear hF
  go_enter Try.func5, Try.ntmps5
  go_wp2_with (go_at_call 23; refine (bytes_any _ _ _ _ _ _ _ _ _ _ (by omega) (by omega)).mono ?_; rintro e w' ⟨rfl, rfl⟩)
  have hr : qRow (w.alloc (Obj.cells (qArr fn fun i => Value.bool (f i)) 4)) (w.heap.size) 4 fn (fun i => .bool (f i)) := by
    have := qRow_new w 4 fn (fun i => .bool (f i))
    simpa using this
  have HB : Below w.heap.size w (w.alloc (Obj.cells (qArr fn fun i => Value.bool (f i)) 4)) := ((Below.refl _ _).alloc (by simp) _)
  generalize (w.alloc (Obj.cells (qArr fn fun i => Value.bool (f i)) 4)) = W2 at *
  clear hcp2 hmk2
  have hgl := hr.lt
  refine (zzwhole_some _ 0 0 (w.heap.size) fn f lo hi _ (by omega) (by omega) (by omega) hfn (fun i hi' => hr.cell i hi')).mono ?_
  rintro e w3 ⟨rfl, hb3⟩
  have HB3 := HB.trans (hb3.mono HB.size)
  have hr3 := hr.below hb3 hgl
  have hgl3 := hr3.lt
  clear hr hb3 hgl HB
  go_wp2_with fail
  refine (zzwhole_some _ 0 0 (w.heap.size) fn f lo m _ (by omega) (by omega) (by omega) hfn (fun i hi' => hr3.cell i hi')).mono ?_
  rintro e w4 ⟨rfl, hb4⟩
  have HB4 := HB3.trans (hb4.mono HB3.size)
  have hr4 := hr3.below hb4 hgl3
  have hgl4 := hr4.lt
  clear hr3 hb4 hgl3 HB3
  go_wp2_with fail
  refine (zzwhole_some _ 0 0 (w.heap.size) fn f m hi _ (by omega) (by omega) (by omega) hfn (fun i hi' => hr4.cell i hi')).mono ?_
  rintro e w5 ⟨rfl, hb5⟩
  have HB5 := HB4.trans (hb5.mono HB4.size)
  have hr5 := hr4.below hb5 hgl4
  have hgl5 := hr5.lt
  clear hr4 hb5 hgl4 HB4
  have HR : Hid (∀ i, i < fn → w5.cell? ⟨w.heap.size, i, none⟩ = some (.bool (f i))) := fun i hi' => hr5.cell i hi'
  clear hr5 hgl5
  have hG := wholeB_split 0 (some f) lo m hi h1 h2
  have hGd : wholeB 0 (some f) lo hi = (decide (hi ≤ 0) && allT (hi - lo) (fun i => f (lo + i))) := rfl
  generalize wholeB 0 (some f) lo hi = G at *
  generalize wholeB 0 (some f) lo m = L at *
  generalize wholeB 0 (some f) m hi = R at *
  have HG : Hid (G = (L && R)) := hG
  have HGd : Hid (G = (decide (hi ≤ 0) && allT (hi - lo) (fun i => f (lo + i)))) := hGd
  clear hG hGd
  have hq3 := fun ww t e => run_neq_slice_nil_any (P := Try.prog) ww t e (some ⟨w.heap.size, 0, none⟩) fn fn 0 0
  by_cases hc : hi ≤ 0
  · have hcd : decide ((hi : Int) ≤ (0 : Int)) = true := decide_eq_true (by omega)
    go_wp2_with fail
    go_loop [16, 17] (fun b k => b = .bool true ∧ ∃ j : Nat, lo ≤ j ∧ j ≤ hi ∧ k = .int .i64 (j : Int) ∧ ∀ i, lo ≤ i → i < j → f i = true) (fun _ k => hi - (intOf k).toNat)
    case atStart => exact ⟨rfl, lo, Nat.le_refl _, by omega, rfl, fun i a b => by omega⟩
    case round =>
      obtain ⟨rfl, j, hj1, hj2, rfl, hall⟩ := hrel
      have HA : Hid (∀ i, lo ≤ i → i < j → f i = true) := hall
      clear hall
      by_cases hlt : j < hi
      · exact absurd hlt (by omega)
      · have hGt : G = true := by rw [HGd.out, allT_of (fun i hi' => HA.out (lo + i) (by omega) (by omega))]; simp [hc]
        subst hGt
        have hLR := HG.out
        clear HGd HG
        cases L <;> cases R <;> simp at hLR
        all_goals (go_wp2 <;> (go_ret; exact ⟨rfl, HB5⟩))
  · have hcd : decide ((hi : Int) ≤ (0 : Int)) = false := decide_eq_false (by omega)
    have hGf : G = false := by rw [HGd.out]; simp [hc]
    subst hGf
    have hLR := HG.out
    clear HGd HG
    cases L <;> cases R <;> simp at hLR
    all_goals (go_wp2 <;> (go_ret; exact ⟨rfl, HB5⟩))

set_option maxHeartbeats 1000000 in
theorem main_nn (lo m hi : Nat) (w : World) (h1 : lo ≤ m) (h2 : m ≤ hi) (h3 : hi ≤ 9223372036854775807) :
    Calls Try.prog 5 #[.slice none 0 0, .slice none 0 0, .int .i64 (lo : Int), .int .i64 (m : Int), .int .i64 (hi : Int)] w fun e w' => e = .returned (.bool true) ∧ Below w.heap.size w w' := by
  have hd : decide (0 ≤ 1048576) = true := decide_eq_true (by omega)
  have hd1 : decide ((lo : Int) < 0) = false := decide_eq_false (by omega)
  have hd2 : decide (m < lo) = false := decide_eq_false (by omega)
  have hq1 := fun w t e => run_neq_slice_nil_any (P := Try.prog) w t e none 0 0 0 0
  have hq2 := fun w t e => run_neq_slice_nil_any (P := Try.prog) w t e none 0 0 0 0
  go_enter Try.func5, Try.ntmps5
  go_wp2_with (go_at_call 23; refine (bytes_any _ _ _ _ _ _ _ _ _ _ (by omega) (by omega)).mono ?_; rintro e w' ⟨rfl, rfl⟩)
  have HB : Below w.heap.size w w := (Below.refl _ _)
  refine (zzwhole_nil _ 0 0 lo hi _ (by omega) (by omega) (by omega)).mono ?_
  rintro e w3 ⟨rfl, hb3⟩
  have HB3 := HB.trans (hb3.mono HB.size)
  clear hb3 HB
  go_wp2_with fail
  refine (zzwhole_nil _ 0 0 lo m _ (by omega) (by omega) (by omega)).mono ?_
  rintro e w4 ⟨rfl, hb4⟩
  have HB4 := HB3.trans (hb4.mono HB3.size)
  clear hb4 HB3
  go_wp2_with fail
  refine (zzwhole_nil _ 0 0 m hi _ (by omega) (by omega) (by omega)).mono ?_
  rintro e w5 ⟨rfl, hb5⟩
  have HB5 := HB4.trans (hb5.mono HB4.size)
  clear hb5 HB4
  have hG := wholeB_split 0 none lo m hi h1 h2
  have hGd : wholeB 0 none lo hi = (decide (hi ≤ 0) && true) := rfl
  generalize wholeB 0 none lo hi = G at *
  generalize wholeB 0 none lo m = L at *
  generalize wholeB 0 none m hi = R at *
  have HG : Hid (G = (L && R)) := hG
  have HGd : Hid (G = (decide (hi ≤ 0) && true)) := hGd
  clear hG hGd
  by_cases hc : hi ≤ 0
  · have hcd : decide ((hi : Int) ≤ (0 : Int)) = true := decide_eq_true (by omega)
    have hGt : G = true := by rw [HGd.out]; simp; omega
    subst hGt
    have hLR := HG.out
    clear HGd HG
    cases L <;> cases R <;> simp at hLR
    all_goals (go_wp2 <;> (go_ret; exact ⟨rfl, HB5⟩))
  · have hcd : decide ((hi : Int) ≤ (0 : Int)) = false := decide_eq_false (by omega)
    have hGf : G = false := by rw [HGd.out]; simp [hc]
    subst hGf
    have hLR := HG.out
    clear HGd HG
    cases L <;> cases R <;> simp at hLR
    all_goals (go_wp2 <;> (go_ret; exact ⟨rfl, HB5⟩))

end Go.Proofs.Qxb6614814a.whole
