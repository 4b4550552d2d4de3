import Derived.Test.Qxb6614814aCopy
namespace Go.Proofs.Qxb6614814a.refu
open Go.ChangeShapes Go.WideShapes Go.ChangeAt Go.RowKit
open Go.Proofs.Qxb6614814a.byt Go.Proofs.Qxb6614814a.node
set_option linter.unusedVariables false

theorem copy_zero (w : World) (ao : Option Addr) (cap : Nat) (h : ao = none → cap = 0) :
    Calls Try.prog 14 #[.slice ao 0 cap] w fun e w' => ∃ ao' cap', e = .returned (.slice ao' 0 cap') ∧ (ao' = none → cap' = 0) ∧ Below w.heap.size w w' := by
  cases ao with
  | none =>
    obtain rfl := h rfl
    refine (copy_nil w).mono ?_
    rintro e w' ⟨rfl, rfl⟩
    exact ⟨none, 0, rfl, fun _ => rfl, Below.refl _ _⟩
  | some x =>
    have hq := fun w t e => Lib.run_eql_slice_nil (P := Try.prog) w t e (some x) 0 cap 0 0
    obtain ⟨i35, hi35, hz0, hz1, hz2⟩ := info_parts info35
    go_enter Try.func14, Try.ntmps14
    go_wp2_with (at_make; refine wpList_make_full _ rfl _ _ 32 rfl w.heap.size 35 i35 (.agg #[.int .i64 0, .slice none 0 0]) 2 Try.underlying32 hi35 hz0 hz1 .i64 .i64 _ _ 0 rfl rfl rfl rfl (by omega) (by unfold maxLen; omega) (Nat.le_refl _) ?_; intro w1 hown hgrow)
    have hB1 : Below w.heap.size w w1 := (Below.refl _ _).grown hgrow (Nat.le_refl _) (fun k hk => by simp at hk)
    clear hown hgrow
    refine wp_loop_rounds 1 ?_
    rw [rounds_succ]
    go_wp2_with fail
    go_ret
    exact ⟨_, _, rfl, fun e => by simp at e, hB1⟩

set_option maxRecDepth 100000 in
set_option maxHeartbeats 1000000 in
theorem out_zero (w : World) (n : Int) (ao : Option Addr) (cap : Nat) (hn : ¬ (1 ≤ n ∧ n ≤ 65536)) :
    Calls Try.prog 6 #[.int .i64 n, .slice ao 0 cap] w fun e w' => e = .returned (.bool true) ∧ Below w.heap.size w w' := by
  go_enter Try.func6, Try.ntmps6
  go_wp2_with fail
  refine (bytesR_none _ n ao cap).mono ?_
  rintro e w1 ⟨rfl, rfl⟩
  go_wp2_with fail
  refine wp_loop_rounds 1 ?_
  rw [rounds_succ]
  by_cases h1 : n < 1
  · have hd1 : decide (n < 1) = true := decide_eq_true h1
    go_wp2_with fail
    go_ret
    exact ⟨rfl, Below.refl _ _⟩
  · have hd1 : decide (n < 1) = false := decide_eq_false h1
    have hd2 : decide (65536 < n) = true := decide_eq_true (by omega)
    go_wp2_with fail
    go_ret
    exact ⟨rfl, Below.refl _ _⟩

set_option maxRecDepth 100000 in
set_option maxHeartbeats 4000000 in
theorem in_zero (w : World) (n : Nat) (ao : Option Addr) (cap : Nat) (h : ao = none → cap = 0) (hn1 : 1 ≤ n) (hn2 : n ≤ 65536) :
    Calls Try.prog 6 #[.int .i64 (n : Int), .slice ao 0 cap] w fun e w' => e = .returned (.bool true) ∧ Below w.heap.size w w' := by
  have HA : Hid (ao = none → cap = 0) := h
  clear h
  go_enter Try.func6, Try.ntmps6
  go_wp2_with fail
  refine (bytesR_none _ n ao cap).mono ?_
  rintro e w1 ⟨rfl, rfl⟩
  go_wp2_with fail
  refine wp_loop_rounds 1 ?_
  rw [rounds_succ]
  have hd1 : decide ((n : Int) < 1) = false := decide_eq_false (by omega)
  have hd2 : decide (65536 < (n : Int)) = false := decide_eq_false (by omega)
  go_wp2_with fail
  clear hd1 hd2
  refine wp_loop_rounds 1 ?_
  rw [rounds_succ]
  go_wp2_with fail
  refine (copy_zero _ ao cap HA.out).mono ?_
  rintro e w1 ⟨ao1, cap1, rfl, hc1, hb1⟩
  have HA1 : Hid (ao1 = none → cap1 = 0) := hc1
  clear hc1 HA
  go_wp2_with fail
  refine (copy_zero _ ao1 cap1 HA1.out).mono ?_
  rintro e w2 ⟨ao2, cap2, rfl, hc2, hb2⟩
  clear hc2 HA1
  have hB2 := hb1.trans (hb2.mono hb1.size)
  clear hb1 hb2
  generalize hg1 : w.heap.size = g1 at *
  go_wp2_with fail
  obtain ⟨t, ht⟩ : ∃ t : Nat, ((n : Int) - 1) / 3 = (t : Int) := ⟨(((n : Int) - 1) / 3).toNat, by omega⟩
  have htn : t + 1 ≤ n := by omega
  rw [ht]
  clear ht
  refine (new_any _ n t true true).mono ?_
  rintro e w3 ⟨rfl, hN, hb3⟩
  have hBd : g1 ≤ w2.heap.size := by have := hB2.size; omega
  have hB3 := hB2.trans (hb3.mono hBd)
  clear hb3 hB2
  generalize w2.heap.size = gd at *
  go_wp2_with fail
  go_loopw [11] (fun id wr => ∃ m : Nat, m ≤ t + 1 ∧ id = .int .i64 ((m : Int) + 1) ∧ NodeSt wr gd gd n true true (fun x => decide (x < m)) m 0 [] ∧ Below g1 w wr) (fun id _ => t + 2 - (intOf id).toNat)
  case atStart => exact ⟨0, Nat.zero_le _, rfl, hN.congr (fun x => by simp), hB3⟩
  case round =>
    clear hN hB3
    obtain ⟨m, hm, rfl, hN, hbr⟩ := hrel
    by_cases hlt : m < t + 1
    · go_wp2_with fail
      refine (fromAdd_any _ gd gd n true true _ m 0 [] m hn2 (by omega) (by omega) hN).mono ?_
      rintro e w4 ⟨rfl, hN4, hb4⟩
      have HN4 : Hid (NodeSt w4 gd gd n true true (fun x => decide (x < m + 1)) (m + 1) 0 []) := by
        have e1 : inc (fun x => decide (x < m)) m m = m + 1 := by simp [inc]
        rw [e1] at hN4
        refine hN4.congr fun x => ?_
        by_cases e : x = m
        · subst e; simp [ins]
        · simp [ins, e]; omega
      have HB4 := hbr.trans (hb4.mono hBd)
      clear hN4 hb4 hbr hN
      go_wp2_with fail
      go_roundw
      case rel => exact ⟨m + 1, by omega, by go_num, HN4.out, HB4⟩
      case measure => simp [intOf]; omega
    obtain rfl : m = t + 1 := by omega
    clear hm hlt
    obtain ⟨wb, rfl⟩ : ∃ wb : World, wb = wr := ⟨_, rfl⟩
    go_wp2_with fail
    refine (new_any _ n t false false).mono ?_
    rintro e w5 ⟨rfl, hNf, hb5⟩
    have HND : Hid (NodeSt w5 gd gd n true true (fun x => decide (x < t + 1)) (t + 1) 0 []) := hN.below hb5
    have hBs : g1 ≤ wb.heap.size := by have := hbr.size; omega
    have HB5 : Below g1 w w5 := hbr.trans (hb5.mono hBs)
    clear hN hbr hb5 hBs
    generalize wb.heap.size = gf at *
    go_wp2_with fail
    refine wp_loop_rounds 1 ?_
    rw [rounds_succ]
    have hmk := run_make_row' (P := Try.prog) 43 4 (.bool false) 1 Try.underlying43 info4 rfl .i64 .i64 n (by omega) (by omega)
    go_wp2_with fail
    clear hmk
    have hrow := World.rowIs_made w5 (.bool false) n 4
    have hb6 : Below w5.heap.size w5 (w5.alloc (.cells (madeCells #[.bool false] n) 4)) := (Below.refl _ _).alloc (Nat.le_refl _) _
    have hs5 : g1 ≤ w5.heap.size := by have := HB5.size; omega
    have HBB : Hid (Below w.heap.size w (w5.alloc (.cells (madeCells #[.bool false] n) 4))) := by rw [hg1]; exact HB5.trans (hb6.mono hs5)
    have HND2 : Hid (NodeSt (w5.alloc (.cells (madeCells #[.bool false] n) 4)) gd gd n true true (fun x => decide (x < t + 1)) (t + 1) 0 []) := HND.out.below hb6
    have HNF2 : Hid (NodeSt (w5.alloc (.cells (madeCells #[.bool false] n) 4)) gf gf n false false (fun _ => false) 0 0 []) := hNf.below hb6
    have HROW : Hid ((w5.alloc (.cells (madeCells #[.bool false] n) 4)).rowIs w5.heap.size 4 n (fun x => .bool false)) := hrow
    clear hrow hb6 HND hNf HB5 hs5
    generalize w5.alloc (.cells (madeCells #[.bool false] n) 4) = w6 at *
    generalize w5.heap.size = gs at *
    refine wp_loop_rounds 1 ?_
    rw [rounds_succ]
    go_wp2_with fail
    go_loop [16, 17] (fun c i => ∃ k : Nat, k ≤ n ∧ i = .int .i64 (k : Int) ∧ c = .int .i64 0) (fun _ i => n - (intOf i).toNat)
    case atStart => exact ⟨0, Nat.zero_le _, rfl, rfl⟩
    case round =>
      obtain ⟨k, hk, rfl, rfl⟩ := hrel
      by_cases hlt : k < n
      · have hcx := HROW.out.cell hlt
        go_wp2_with fail
        go_round
        case rel => exact ⟨k + 1, by omega, by go_num, rfl⟩
        case measure => simp [intOf]; omega
      obtain rfl : k = n := by omega
      clear hlt hk
      go_wp2_with fail
      refine (len_any _ gd gd _ true true _ _ _ _ HND2.out).mono ?_
      rintro e w9 ⟨rfl, rfl⟩
      go_wp2_with fail
      refine (size_any _ gd gd _ true true _ _ _ _ HND2.out).mono ?_
      rintro e w9 ⟨rfl, rfl⟩
      go_wp2_with fail
      refine (relayed_any _ gd gd _ true true _ _ _ _ HND2.out).mono ?_
      rintro e w9 ⟨rfl, rfl⟩
      go_wp2_with fail
      refine (len_any _ gf gf _ false false _ _ _ _ HNF2.out).mono ?_
      rintro e w9 ⟨rfl, rfl⟩
      go_wp2_with fail
      refine (size_any _ gf gf _ false false _ _ _ _ HNF2.out).mono ?_
      rintro e w9 ⟨rfl, rfl⟩
      go_wp2_with fail
      go_ret
      exact ⟨rfl, HBB.out⟩

end Go.Proofs.Qxb6614814a.refu
