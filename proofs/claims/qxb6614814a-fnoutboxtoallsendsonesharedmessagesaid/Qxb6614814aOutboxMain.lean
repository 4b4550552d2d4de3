import Derived.Test.Qxb6614814aOutboxWalks
import Derived.WalkSmall
import Derived.Lib.Builder
namespace Go.Proofs.Qxb6614814a.outb
open Go.ChangeShapes Go.WideShapes Go.ChangeAt Go.RowKit
open Go.Proofs.Qxb6614814a.byt
set_option linter.unusedVariables false

theorem main_out (kind round : Int) (ao : Option Addr) (n c : Nat) (t1 t2 : Int) (w : World) (hn : n ≤ 9223372036854775807) (h : ¬ n ≤ 1048576) :
    Calls Try.prog 3 #[.int .u8 kind, .int .i64 round, .slice ao n c, .int .i64 t1, .int .i64 t2] w fun e w' => e = .returned (.bool true) ∧ Below w.heap.size w w' := by
  have hd : decide (n ≤ 1048576) = false := decide_eq_false h
  go_enter Try.func3, Try.ntmps3
  go_wp2_with (go_at_call 9; refine (bytes_any _ _ _ _ _ _ _ _ hn).mono ?_; rintro e w' ⟨rfl, rfl⟩)
  go_ret
  exact ⟨rfl, Below.refl _ _⟩

set_option maxHeartbeats 1000000 in
theorem main_nil (kind round : Int) (t1 t2 : Int) (w : World) :
    Calls Try.prog 3 #[.int .u8 kind, .int .i64 round, .slice none 0 0, .int .i64 t1, .int .i64 t2] w fun e w' => e = .returned (.bool true) ∧ Below w.heap.size w w' := by
  have hq := fun w t e => Lib.run_eql_slice_nil (P := Try.prog) w t e none 0 0 0 0
  have hkk : (kind != kind) = false := by simp
  have hrr : (round != round) = false := by simp
  go_enter Try.func3, Try.ntmps3
  go_wp2_with (first | (go_at_call 9; refine (bytes_any _ _ _ _ _ _ _ _ (by omega)).mono ?_; rintro e w' ⟨rfl, rfl⟩) | (go_at_call 10; refine (clone_nil _).mono ?_; rintro e w' ⟨rfl, rfl⟩))
  refine (two kind round none 0 0 t1 t2 _).mono ?_
  rintro e w1 ⟨rfl, hb⟩
  go_wp2_with fail
  refine (same_empty none none 0 0 _).mono ?_
  rintro e w2 ⟨rfl, q, rfl⟩
  go_wp2_with fail
  refine (same_empty none none 0 0 _).mono ?_
  rintro e w2 ⟨rfl, q2, rfl⟩
  go_wp2_with fail
  go_ret
  exact ⟨rfl, below_drewN (bel_alloc (bel_alloc hb)) _⟩

set_option maxHeartbeats 1000000 in
theorem main_some (kind round : Int) (x : Addr) (n c : Nat) (Z : Nat → Int) (t1 t2 : Int) (w : World) (hn : n ≤ 1048576) (hx : bytesAt w (some x) n Z) :
    Calls Try.prog 3 #[.int .u8 kind, .int .i64 round, .slice (some x) n c, .int .i64 t1, .int .i64 t2] w fun e w' => e = .returned (.bool true) ∧ Below w.heap.size w w' := by
  have hd : decide (n ≤ 1048576) = true := decide_eq_true hn
  go_enter Try.func3, Try.ntmps3
  go_wp2_with (go_at_call 9; refine (bytes_any _ _ _ _ _ _ _ _ (by omega)).mono ?_; rintro e w' ⟨rfl, rfl⟩)
  refine (clone_some x n c Z _ hn hx).mono ?_
  rintro e w1 ⟨rfl, hr1, hb1, hs1⟩
  go_wp2_with fail
  refine (clone_some ⟨w.heap.size, 0, none⟩ n n Z _ hn (bytesAt_row hr1)).mono ?_
  rintro e w2 ⟨rfl, hr2, hb2, hs2⟩
  have hr1' := hr1.of_block (hb2.block _ hr1.lt)
  have HB2 := hb1.trans (hb2.mono hb1.size)
  have hg1 : w.heap.size < w2.heap.size := by omega
  have hg2 := hr2.lt
  clear hb1 hb2 hs1 hs2 hr1 hx
  generalize w1.heap.size = g2 at *
  go_wp2_with fail
  refine (two kind round (some ⟨w.heap.size, 0, none⟩) n n t1 t2 _).mono ?_
  rintro e w3 ⟨rfl, hb3⟩
  have HB3 := HB2.trans (hb3.mono HB2.size)
  have HP : Hid (bytesAt w3 (some ⟨w.heap.size, 0, none⟩) n Z) := (bytesAt_row hr1').below hb3
  have HQ : Hid (bytesAt w3 (some ⟨g2, 0, none⟩) n Z) := (bytesAt_row hr2).below hb3
  clear hr1' hr2 hb3 HB2
  have hq := fun w t e a => Lib.run_eql_slice_nil (P := Try.prog) w t e a n n 0 0
  have hkk : (kind != kind) = false := by simp
  have hrr : (round != round) = false := by simp
  go_wp2_with fail
  refine (same_some _ _ n n n Z _ hn ((HP.out.below (bel_alloc (bel_alloc (Below.refl _ _))))) ((HQ.out.below (bel_alloc (bel_alloc (Below.refl _ _)))))).mono ?_
  rintro e w2 ⟨rfl, q, rfl⟩
  go_wp2_with fail
  refine (same_some _ _ n n n Z _ hn ?_ ?_).mono ?_
  · exact ((HP.out.below (below_drewN (bel_alloc (bel_alloc (Below.refl _ _))) _)))
  · exact ((HQ.out.below (below_drewN (bel_alloc (bel_alloc (Below.refl _ _))) _)))
  rintro e w2 ⟨rfl, q2, rfl⟩
  by_cases h0 : n = 0
  · subst h0
    go_wp2_with fail
    go_ret
    exact ⟨rfl, below_drewN (bel_alloc (bel_alloc HB3)) _⟩
  · have hp : (0 : Int) < (n : Int) := by omega
    obtain ⟨j5, hj5, _, _, _⟩ := info_parts info5
    have hpp := fun W => Lib.run_neq_ptr_same (P := Try.prog) W (tp := 31) (te := 5) (j := j5) ⟨w.heap.size, 0, none⟩ Try.underlying31 hj5
    go_wp2_with fail
    go_quiet (fail)
    go_wp2_with fail
    go_ret
    exact ⟨rfl, below_drewN (below_drewN (bel_alloc (bel_alloc HB3)) _) _⟩

end Go.Proofs.Qxb6614814a.outb
