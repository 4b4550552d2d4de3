import Derived.Test.Qxb6614814aKeepParts
import Derived.Test.Qxb6614814aRefusedZ
namespace Go.Proofs.Qxb6614814a.keepu
open Go.ChangeShapes Go.WideShapes Go.ChangeAt Go.RowKit
open Go.Proofs.Qxb6614814a.byt Go.Proofs.Qxb6614814a.node
set_option linter.unusedVariables false

set_option maxRecDepth 100000 in
set_option maxHeartbeats 1000000 in
theorem out_zero (w : World) (n : Int) (ao : Option Addr) (cap : Nat) (hn : ¬ (1 ≤ n ∧ n ≤ 65536)) :
    Calls Try.prog 4 #[.int .i64 n, .slice ao 0 cap] w fun e w' => e = .returned (.bool true) ∧ Below w.heap.size w w' := by
  go_enter Try.func4, Try.ntmps4
  go_wp2_with fail
  refine (bytesK_none _ n ao cap).mono ?_
  rintro e w1 ⟨rfl, rfl⟩
  go_wp2_with fail
  refine wp_loop_rounds 1 ?_
  rw [rounds_succ]
  by_cases h1 : n < 1
  · have hd1 : decide (n < 1) = true := decide_eq_true h1
    go_wp2_with fail
    go_ret
    exact ⟨rfl, Below.refl _ _⟩
  · have hd1 : decide (n < 1) = false := decide_eq_false h1
    have hd2 : decide (65536 < n) = true := decide_eq_true (by omega)
    go_wp2_with fail
    go_ret
    exact ⟨rfl, Below.refl _ _⟩

set_option maxRecDepth 100000 in
set_option maxHeartbeats 4000000 in
theorem in_zero (w : World) (n : Nat) (ao : Option Addr) (cap : Nat) (h : ao = none → cap = 0) (hn1 : 1 ≤ n) (hn2 : n ≤ 65536) :
    Calls Try.prog 4 #[.int .i64 (n : Int), .slice ao 0 cap] w fun e w' => e = .returned (.bool true) ∧ Below w.heap.size w w' := by
  have HA : Hid (ao = none → cap = 0) := h
  clear h
  go_enter Try.func4, Try.ntmps4
  go_wp2_with fail
  refine (bytesK_none _ n ao cap).mono ?_
  rintro e w1 ⟨rfl, rfl⟩
  go_wp2_with fail
  refine wp_loop_rounds 1 ?_
  rw [rounds_succ]
  have hd1 : decide ((n : Int) < 1) = false := decide_eq_false (by omega)
  have hd2 : decide (65536 < (n : Int)) = false := decide_eq_false (by omega)
  go_wp2_with fail
  clear hd1 hd2
  refine wp_loop_rounds 1 ?_
  rw [rounds_succ]
  go_wp2_with fail
  refine (refu.copy_zero _ ao cap HA.out).mono ?_
  rintro e w1 ⟨ao1, cap1, rfl, hc1, hb1⟩
  have HA1 : Hid (ao1 = none → cap1 = 0) := hc1
  clear hc1 HA
  go_wp2_with fail
  refine (refu.copy_zero _ ao1 cap1 HA1.out).mono ?_
  rintro e w2 ⟨ao2, cap2, rfl, hc2, hb2⟩
  clear hc2 HA1
  have hB2 := hb1.trans (hb2.mono hb1.size)
  clear hb1 hb2
  generalize hg1 : w.heap.size = g1 at *
  go_wp2_with fail
  refine (new_any _ n _ false false).mono ?_
  rintro e w3 ⟨rfl, hN, hb3⟩
  have hBd : g1 ≤ w2.heap.size := by have := hB2.size; omega
  have hB3 := hB2.trans (hb3.mono hBd)
  have hs3 : g1 ≤ w3.heap.size := by have := hB3.size; omega
  have HN : Hid (NodeSt w3 w2.heap.size w2.heap.size n false false (fun _ => false) 0 0 []) := hN
  clear hb3 hB2 hN
  generalize w2.heap.size = gf at *
  obtain ⟨i3, hi3, hz0, hz1, hz2⟩ := info_parts info3
  go_wp2_with fail
  refine wp_loop_rounds 1 ?_
  rw [rounds_succ]
  go_wp2_with (at_make; refine wpList_make_own _ rfl _ _ 40 rfl w3.heap.size 3 i3 (.int .i64 0) 1 Try.underlying40 hi3 hz0 hz1 .i64 .i64 _ 0 rfl rfl rfl (by omega) (by unfold maxLen; omega) (Nat.le_refl _) ?_; intro w6 hown hgrow)
  have hB6 : Below w3.heap.size w3 w6 := (Below.refl _ _).grown hgrow (Nat.le_refl _) (fun k hk => by simp at hk)
  have HN6 : Hid (NodeSt w6 gf gf n false false (fun _ => false) 0 0 []) := HN.out.below hB6
  have HB6 : Hid (Below g1 w w6) := hB3.trans (hB6.mono hs3)
  have hs6 : g1 ≤ w6.heap.size := by have := HB6.out.size; omega
  clear hown hgrow hB6 HN hB3 hs3
  generalize w3.heap.size = gk at *
  refine wp_loop_rounds 1 ?_
  rw [rounds_succ]
  go_wp2_with fail
  refine (len_any _ gf gf n false false _ _ _ _ HN6.out).mono ?_
  rintro e w9 ⟨rfl, rfl⟩
  go_wp2_with fail
  refine wp_loop_rounds 1 ?_
  rw [rounds_succ]
  go_wp2_with fail
  refine (size_any _ gf gf n false false _ _ _ _ HN6.out).mono ?_
  rintro e w9 ⟨rfl, rfl⟩
  have hmk := run_make_row' (P := Try.prog) 43 4 (.bool false) 1 Try.underlying43 info4 rfl .i64 .i64 n (by omega) (by omega)
  go_wp2_with fail
  clear hmk
  have hb6 : Below w6.heap.size w6 (w6.alloc (.cells (madeCells #[.bool false] n) 4)) := (Below.refl _ _).alloc (Nat.le_refl _) _
  have HBB : Hid (Below w.heap.size w (w6.alloc (.cells (madeCells #[.bool false] n) 4))) := by rw [hg1]; exact HB6.out.trans (hb6.mono hs6)
  have HROW : Hid ((w6.alloc (.cells (madeCells #[.bool false] n) 4)).rowIs w6.heap.size 4 n (fun x => .bool false)) := World.rowIs_made w6 (.bool false) n 4
  have HN7 : Hid (NodeSt (w6.alloc (.cells (madeCells #[.bool false] n) 4)) gf gf n false false (fun _ => false) 0 0 []) := HN6.out.below hb6
  clear hb6 HN6 HB6 hs6
  generalize w6.alloc (.cells (madeCells #[.bool false] n) 4) = w7 at *
  generalize w6.heap.size = gs at *
  refine wp_loop_rounds 1 ?_
  rw [rounds_succ]
  obtain ⟨vi, vp, a1, a2, a3, a4⟩ := HN7.out
  have c44 := a1.c44
  rcases a3 with ⟨rfl, hsz, _⟩ | ⟨gi, rfl, _, hin⟩
  · have hq := fun w t e => Lib.run_eql_slice_nil (P := Try.prog) w t e none 0 0 0 0
    clear a1 a4 hsz
    go_wp2_with fail
    refine (in_any _ gf none 0 0 c44).mono ?_
    rintro e w9 ⟨rfl, rfl⟩
    go_wp2_with fail
    refine (relayed_any _ gf gf n false false _ _ _ _ HN7.out).mono ?_
    rintro e w9 ⟨rfl, rfl⟩
    go_wp2_with fail
    go_ret
    exact ⟨rfl, HBB.out⟩
  · have hq := fun w t e => Lib.run_eql_slice_nil (P := Try.prog) w t e (some ⟨gi, 0, none⟩) n n 0 0
    have hz : ((n : Int) != (n : Int)) = false := by simp
    have HIN : Hid (w7.rowIs gi 4 n (fun y => .bool false)) := hin
    clear a1 a4 hin
    go_wp2_with fail
    refine (in_any _ gf _ n n c44).mono ?_
    rintro e w9 ⟨rfl, rfl⟩
    go_wp2_with fail
    go_loopw [19] (fun iv wr => ∃ y : Nat, y ≤ n ∧ iv = .int .i64 (y : Int) ∧ ∃ q, wr = w7.drewN q) (fun iv _ => n - (intOf iv).toNat)
    case atStart => exact ⟨0, Nat.zero_le _, rfl, 0, rfl⟩
    case round =>
      obtain ⟨y, hy, rfl, q, rfl⟩ := hrel
      by_cases hlt : y < n
      · have h1 := HIN.out.cell hlt
        have h2 := HROW.out.cell hlt
        have k1 : (y : Int) < (n : Int) := by omega
        have k0 : (0 : Int) ≤ (y : Int) := by omega
        go_wp2_with fail
        go_quiet (fail)
        go_wp2_with fail
        go_roundw
        case rel => exact ⟨y + 1, by omega, by go_num, _, rfl⟩
        case measure => simp [intOf]; omega
      go_wp2_with fail
      refine (relayed_any _ gf gf n false false _ _ _ _ (NodeSt.below HN7.out (below_drewN (Below.refl _ _) _))).mono ?_
      rintro e w9 ⟨rfl, rfl⟩
      go_wp2_with fail
      go_ret
      exact ⟨rfl, below_drewN HBB.out _⟩

end Go.Proofs.Qxb6614814a.keepu
