import Derived.Test.Qxb6615703aBytes
namespace Go.Proofs.Qxb6615703a.st
open Go.ChangeShapes Go.WideShapes Go.ChangeAt Go.RowKit
set_option linter.unusedVariables false

theorem StackSt.own_ge {w : World} {B gS gL gD gB : Nat} {own : Nat → Prop} {P Q : List ByteArray} {ln : Int} (h : StackSt w B gS gL gD gB own P Q ln) (k : Nat) (hk : own k) : B ≤ k ∧ k < w.heap.size := by
  obtain ⟨vp, vq, hm, rfl⟩ := h
  exact hm.own_lt k hk
theorem StackSt.below {w w' : World} {B gS gL gD gB : Nat} {own : Nat → Prop} {P Q : List ByteArray} {ln : Int} (h : StackSt w B gS gL gD gB own P Q ln) (hb : Below w.heap.size w w') : StackSt w' B gS gL gD gB own P Q ln := by
  obtain ⟨vp, vq, hm, e⟩ := h
  exact ⟨vp, vq, hm.below hb, e⟩
theorem StackSt.lt {w : World} {B gS gL gD gB : Nat} {own : Nat → Prop} {P Q : List ByteArray} {ln : Int} (h : StackSt w B gS gL gD gB own P Q ln) : B ≤ w.heap.size := by
  obtain ⟨vp, vq, hm, rfl⟩ := h
  have := hm.own_lt gS (.inl rfl)
  omega

set_option maxRecDepth 100000 in
set_option maxHeartbeats 1000000 in
theorem queue_main (w : World) (ap aq : Option Addr) (np nq cp cq : Nat) (P Q : List ByteArray) (s : ByteArray) (hp : np = P.length) (hq : nq = Q.length) (hnp : np ≤ 9223372036854775807) (hnq : nq ≤ 9223372036854775807) (hs : s.size ≤ 9223372036854775807)
    (hP : strsAt w ap P) (hQ : strsAt w aq Q) (hsP : small 9223372036854775807 P) (hsQ : small 9223372036854775807 Q) :
    Calls Try.prog 3 #[.slice ap np cp, .slice aq nq cq, .string s] w fun e w' => e = .returned (.bool true) ∧ Below w.heap.size w w' := by
  have HP : Hid (strsAt w ap P) := hP
  have HQ : Hid (strsAt w aq Q) := hQ
  have HNP : Hid (np = P.length) := hp
  have HNQ : Hid (nq = Q.length) := hq
  clear hp hq
  go_enter Try.func3, Try.ntmps3
  go_wp2_with fail
  refine (bytesQ_any _ ap aq np nq cp cq P Q s HNP.out HNQ.out hnp hnq hs hP hQ hsP hsQ).mono ?_
  rintro e w1 ⟨rfl, rfl | ⟨rfl, hok⟩⟩
  · go_wp2_with fail
    go_ret
    exact ⟨rfl, Below.refl _ _⟩
  have HSP : Hid (small 1048576 P) := hok.1
  have HSQ : Hid (small 1048576 Q) := hok.2.1
  have hs1 : s.size ≤ 1048576 := hok.2.2.1
  have hnp1 : np ≤ 1048576 := hok.2.2.2.1
  have hnq1 : nq ≤ 1048576 := hok.2.2.2.2
  clear hok hP hQ hsP hsQ hs hnp hnq
  obtain ⟨i9, hi9, hz0, hz1, hz2⟩ := info_parts info9
  go_wp2_with fail
  go_loop [7, 8] (fun t i => ∃ k T : Nat, k ≤ np ∧ T ≤ 1048576 ∧ 16 * k ≤ T ∧ i = .int .i64 (k : Int) ∧ t = .int .i64 (T : Int)) (fun _ i => np - (intOf i).toNat)
  case atStart => exact ⟨0, s.size, Nat.zero_le _, hs1, by omega, rfl, rfl⟩
  case round =>
    obtain ⟨k, T, hk, hT, h16, rfl, rfl⟩ := hrel
    by_cases hlt : k < np
    · obtain ⟨b, off, rfl, hc⟩ := HP.out (by rw [← HNP.out]; omega)
      have hc1 := hc k (by rw [← HNP.out]; exact hlt)
      have hLk := HSP.out k (by rw [← HNP.out]; exact hlt)
      generalize P.getD k ByteArray.empty = x at hc1 hLk
      clear hc
      by_cases hb : T + (16 + x.size) ≤ 1048576
      · go_wp2_with fail
        go_round
        case rel => exact ⟨k + 1, T + (16 + x.size), by omega, by omega, by omega, by go_num, by go_num⟩
        case measure => simp [intOf]; omega
      · go_wp2_with fail
        go_ret
        exact ⟨rfl, Below.refl _ _⟩
    obtain rfl : k = np := by omega
    clear hk hlt
    go_wp2_with fail
    go_loop [7, 9] (fun t i => ∃ m U : Nat, m ≤ nq ∧ U ≤ 1048576 ∧ 16 * k + 16 * m ≤ U ∧ i = .int .i64 (m : Int) ∧ t = .int .i64 (U : Int)) (fun _ i => nq - (intOf i).toNat)
    case atStart => exact ⟨0, T, Nat.zero_le _, hT, by omega, rfl, rfl⟩
    case round =>
      clear hT h16
      obtain ⟨m, U, hm, hU, h16, rfl, rfl⟩ := hrel
      by_cases hlt : m < nq
      · obtain ⟨b, off, rfl, hc⟩ := HQ.out (by rw [← HNQ.out]; omega)
        have hc1 := hc m (by rw [← HNQ.out]; exact hlt)
        have hLk := HSQ.out m (by rw [← HNQ.out]; exact hlt)
        generalize Q.getD m ByteArray.empty = x at hc1 hLk
        clear hc
        by_cases hb : U + (16 + x.size) ≤ 1048576
        · go_wp2_with fail
          go_round
          case rel => exact ⟨m + 1, U + (16 + x.size), by omega, by omega, by omega, by go_num, by go_num⟩
          case measure => simp [intOf]; omega
        · go_wp2_with fail
          go_ret
          exact ⟨rfl, Below.refl _ _⟩
      obtain rfl : m = nq := by omega
      have hsum : k + m ≤ 65536 := by omega
      clear hm hlt h16 hU HSP HSQ
      go_wp2_with fail
      --STOP1
      refine (new_any _).mono ?_
      rintro e w2 ⟨gS, gL, gD, gB, own, rfl, hst, hb2, _⟩
      have HST : Hid (∃ own, StackSt w2 w.heap.size gS gL gD gB own (P.take 0) [] ((0 : Nat) : Int)) := ⟨own, by simpa using hst⟩
      clear hst
      go_wp2_with fail
      go_loopw [11] (fun iv wr => ∃ j : Nat, j ≤ k ∧ iv = .int .i64 (j : Int) ∧ (∃ own, StackSt wr w.heap.size gS gL gD gB own (P.take j) [] (j : Int)) ∧ Below w.heap.size w wr) (fun iv _ => k - (intOf iv).toNat)
      case atStart => exact ⟨0, Nat.zero_le _, rfl, HST.out, hb2⟩
      case round =>
        clear HST hb2
        obtain ⟨j, hj, rfl, ⟨own, hst⟩, hbr⟩ := hrel
        by_cases hlt : j < k
        · obtain ⟨b, off, rfl, hc⟩ := HP.out (by rw [← HNP.out]; omega)
          have hc1 := cell_below hbr (hc j (by rw [← HNP.out]; exact hlt))
          have HT : Hid (P.take (j + 1) = P.take j ++ [P.getD j ByteArray.empty]) := take_snoc P j (by rw [← HNP.out]; exact hlt)
          generalize P.getD j ByteArray.empty = x at *
          clear hc
          have hPl : (P.take j).length ≤ 1048576 := by have := List.length_take_le j P; omega
          go_wp2_with fail
          refine (Push_any _ w.heap.size gS gL gD gB own (P.take j) [] j x hst hPl (by omega) (by omega)).mono ?_
          rintro e w3 ⟨rfl, own', hst3, hk3, _⟩
          have HB3 : Hid (Below w.heap.size w w3) := hbr.trans (hk3.below hbr.size (fun x hx => (hst.own_ge x hx).1))
          have HST3 : Hid (∃ own, StackSt w3 w.heap.size gS gL gD gB own (P.take (j + 1)) [] ((j + 1 : Nat) : Int)) := ⟨own', by rw [HT.out]; exact hst3⟩
          clear hst hst3 hk3 hbr hc1 hPl
          go_wp2_with fail
          go_roundw
          case rel => exact ⟨j + 1, by omega, by go_num, HST3.out, HB3.out⟩
          case measure => simp [intOf]; omega
        obtain rfl : j = k := by omega
        clear hj hlt
        have HST : Hid (∃ own, StackSt wr w.heap.size gS gL gD gB own P (Q.take 0) (((j + 0 : Nat)) : Int)) := ⟨own, by rw [List.take_of_length_le (by rw [← HNP.out]; exact Nat.le_refl _)] at hst; simpa using hst⟩
        clear hst
        go_wp2_with fail
        --STOP2
        go_loopw [12] (fun iv wr => ∃ i : Nat, i ≤ m ∧ iv = .int .i64 (i : Int) ∧ (∃ own, StackSt wr w.heap.size gS gL gD gB own P (Q.take i) ((j + i : Nat) : Int)) ∧ Below w.heap.size w wr) (fun iv _ => m - (intOf iv).toNat)
        case atStart => exact ⟨0, Nat.zero_le _, rfl, HST.out, hbr⟩
        case round =>
          clear HST hbr
          obtain ⟨i, hi, rfl, ⟨own, hst⟩, hbr⟩ := hrel
          by_cases hlt : i < m
          · obtain ⟨b, off, rfl, hc⟩ := HQ.out (by rw [← HNQ.out]; omega)
            have hc1 := cell_below hbr (hc i (by rw [← HNQ.out]; exact hlt))
            have HT : Hid (Q.take (i + 1) = Q.take i ++ [Q.getD i ByteArray.empty]) := take_snoc Q i (by rw [← HNQ.out]; exact hlt)
            generalize Q.getD i ByteArray.empty = x at *
            clear hc
            have hQl : (Q.take i).length ≤ 1048576 := by have := List.length_take_le i Q; omega
            go_wp2_with fail
            refine (Queue_any _ w.heap.size gS gL gD gB own P (Q.take i) _ x hst hQl (by omega) (by omega)).mono ?_
            rintro e w3 ⟨rfl, own', hst3, hk3, _⟩
            have HB3 : Hid (Below w.heap.size w w3) := hbr.trans (hk3.below hbr.size (fun x hx => (hst.own_ge x hx).1))
            have HST3 : Hid (∃ own, StackSt w3 w.heap.size gS gL gD gB own P (Q.take (i + 1)) ((j + (i + 1) : Nat) : Int)) := ⟨own', by rw [HT.out]; exact hst3⟩
            clear hst hst3 hk3 hbr hc1 hQl
            go_wp2_with fail
            go_roundw
            case rel => exact ⟨i + 1, by omega, by go_num, HST3.out, HB3.out⟩
            case measure => simp [intOf]; omega
          obtain rfl : i = m := by omega
          clear hi hlt
          rw [List.take_of_length_le (by rw [← HNQ.out]; exact Nat.le_refl _)] at hst
          have hQl : Q.length ≤ 1048576 := by rw [← HNQ.out]; omega
          go_wp2_with fail
          refine (Queue_any _ w.heap.size gS gL gD gB own P Q _ s hst hQl (by omega) (by omega)).mono ?_
          rintro e w4 ⟨rfl, own', hst4, hk4, _⟩
          have hB4 : Below w.heap.size w w4 := hbr.trans (hk4.below hbr.size (fun x hx => (hst.own_ge x hx).1))
          have HST : Hid (StackSt w4 w.heap.size gS gL gD gB own' P (Q ++ [s]) (((j + i : Nat) : Int) + 1)) := hst4
          clear hst hst4 hk4 hbr hQl
          go_wp2_with fail
          --STOP3
          go_loopw [13, 14] (fun ov iv wr => ∃ l : Nat, l ≤ j ∧ iv = .int .i64 ((l : Int) - 1) ∧ wr.ownsRow w4.heap.size 9 1 ov (j - l) (strc (P.reverse.take (j - l))) ∧ Below w4.heap.size w4 wr) (fun _ iv _ => (intOf iv + 1).toNat)
          case atStart => exact ⟨j, Nat.le_refl _, by first | rfl | go_num, by simpa [strc] using World.ownsRow_nil _ _ 9 1, Below.refl _ _⟩
          case round =>
            obtain ⟨l, hl, rfl, hown, hbr⟩ := hrel
            have HO : Hid (wr.ownsRow w4.heap.size 9 1 u13 (j - l) (strc (P.reverse.take (j - l)))) := hown
            clear hown
            by_cases h0 : 0 < l
            · obtain ⟨k, rfl⟩ : ∃ k, l = k + 1 := ⟨l - 1, by omega⟩
              obtain ⟨b, off, rfl, hc⟩ := HP.out (by rw [← HNP.out]; omega)
              have hkP : k < P.length := by rw [← HNP.out]; omega
              have hc1 := cell_below hbr (cell_below hB4 (hc k hkP))
              have HT : Hid (P.reverse.take (j - k) = P.reverse.take (j - (k + 1)) ++ [P.getD k ByteArray.empty]) := by rw [HNP.out]; exact rev_snoc P k hkP
              have HLEN : Hid (j - (k + 1) + 1 = j - k) := show _ = _ by omega
              generalize P.getD k ByteArray.empty = x at *
              clear hc
              go_wp2_with (at_builtin; refine wpList_append_own _ rfl _ _ 22 rfl w4.heap.size 9 i9 (.string ByteArray.empty) 1 16 Try.underlying22 hi9 hz0 hz1 hz2 rfl (by decide) _ _ _ rfl (HO.out.alloc _) ⟨wr.heap.size, 0, none⟩ 1 1 [.string x] rfl rfl (World.news_of_block (heap_alloc_new _ _)) ?ha ?hb ?hc ?hd ?_)
              case ha => intro u hu; simp at hu; subst hu; rfl
              case hb => unfold maxLen; omega
              case hc => omega
              case hd => have := hbr.size; simp; omega
              intro v' w5 hown' hgrow _
              have HO1 : Hid (w5.ownsRow w4.heap.size 9 1 v' (j - k) (strc (P.reverse.take (j - k)))) := by
                rw [HLEN.out] at hown'
                rw [HT.out, strc_snoc]
                exact hown'
              have HB1 : Hid (Below w4.heap.size w4 w5) := (hbr.alloc hbr.size _).grown hgrow (by have := hbr.size; simp; omega) (fun x hx => (HO.out.lt x hx).1)
              clear hown' hgrow hbr hc1
              go_wp2_with fail
              go_roundw
              case rel => first | exact ⟨k, by omega, by go_num, HO1.out, HB1.out⟩ | ((repeat apply Exists.intro); refine ⟨⟨k, by omega, ?_, HO1.out, HB1.out⟩, rfl⟩; go_num)
              case measure => simp [intOf] <;> omega
            obtain rfl : l = 0 := by omega
            have HO2 : Hid (wr.ownsRow w4.heap.size 9 1 u13 (j + 0) (strc (P.reverse ++ Q.take 0))) := by
              have := HO.out
              rw [Nat.sub_zero, List.take_of_length_le (by rw [List.length_reverse, ← HNP.out]; exact Nat.le_refl _)] at this
              unfold Hid
              simpa using this
            clear HO
            go_wp2_with fail
            --STOP4
            go_loopw [13, 15] (fun ov iv wr => ∃ k : Nat, k ≤ i ∧ iv = .int .i64 (k : Int) ∧ wr.ownsRow w4.heap.size 9 1 ov (j + k) (strc (P.reverse ++ Q.take k)) ∧ Below w4.heap.size w4 wr) (fun _ iv _ => i - (intOf iv).toNat)
            case atStart => exact ⟨0, Nat.zero_le _, rfl, HO2.out, hbr⟩
            case round =>
              clear HO2 hbr
              obtain ⟨k, hk, rfl, hown, hbr⟩ := hrel
              have HO : Hid (wr.ownsRow w4.heap.size 9 1 u13 (j + k) (strc (P.reverse ++ Q.take k))) := hown
              clear hown
              by_cases hlt : k < i
              · obtain ⟨b, off, rfl, hc⟩ := HQ.out (by rw [← HNQ.out]; omega)
                have hkQ : k < Q.length := by rw [← HNQ.out]; omega
                have hc1 := cell_below hbr (cell_below hB4 (hc k hkQ))
                have HT : Hid (P.reverse ++ Q.take (k + 1) = (P.reverse ++ Q.take k) ++ [Q.getD k ByteArray.empty]) := show _ = _ by rw [take_snoc Q k hkQ, List.append_assoc]
                generalize Q.getD k ByteArray.empty = x at *
                clear hc
                go_wp2_with (at_builtin; refine wpList_append_own _ rfl _ _ 22 rfl w4.heap.size 9 i9 (.string ByteArray.empty) 1 16 Try.underlying22 hi9 hz0 hz1 hz2 rfl (by decide) _ _ _ rfl (HO.out.alloc _) ⟨wr.heap.size, 0, none⟩ 1 1 [.string x] rfl rfl (World.news_of_block (heap_alloc_new _ _)) ?ha2 ?hb2 ?hc2 ?hd2 ?_)
                case ha2 => intro u hu; simp at hu; subst hu; rfl
                case hb2 => unfold maxLen; omega
                case hc2 => omega
                case hd2 => have := hbr.size; simp; omega
                intro v' w5 hown' hgrow _
                have HO1 : Hid (w5.ownsRow w4.heap.size 9 1 v' (j + (k + 1)) (strc (P.reverse ++ Q.take (k + 1)))) := by
                  rw [HT.out, strc_snoc]
                  exact hown'
                have HB1 : Hid (Below w4.heap.size w4 w5) := (hbr.alloc hbr.size _).grown hgrow (by have := hbr.size; simp; omega) (fun x hx => (HO.out.lt x hx).1)
                clear hown' hgrow hbr hc1
                go_wp2_with fail
                go_roundw
                case rel => first | exact ⟨k + 1, by omega, by go_num, HO1.out, HB1.out⟩ | ((repeat apply Exists.intro); refine ⟨⟨k + 1, by omega, ?_, HO1.out, HB1.out⟩, rfl⟩; go_num)
                case measure => simp [intOf] <;> omega
              obtain rfl : k = i := by omega
              clear hk hlt
              --STOP5
              go_wp2_with (at_builtin; refine wpList_append_own _ rfl _ _ 22 rfl w4.heap.size 9 i9 (.string ByteArray.empty) 1 16 Try.underlying22 hi9 hz0 hz1 hz2 rfl (by decide) _ _ _ rfl (HO.out.alloc _) ⟨wr.heap.size, 0, none⟩ 1 1 [.string s] rfl rfl (World.news_of_block (heap_alloc_new _ _)) ?ha3 ?hb3 ?hc3 ?hd3 ?_)
              case ha3 => intro u hu; simp at hu; subst hu; rfl
              case hb3 => unfold maxLen; omega
              case hc3 => omega
              case hd3 => have := hbr.size; simp; omega
              intro v' w5 hown' hgrow _
              have HB5 : Hid (Below w4.heap.size w4 w5) := (hbr.alloc hbr.size _).grown hgrow (by have := hbr.size; simp; omega) (fun x hx => (HO.out.lt x hx).1)
              obtain ⟨aw, cw, hv, hnw, hsw⟩ : ∃ aw cw, v' = .slice aw (j + k + 1) cw ∧ j + k + 1 = (P.reverse ++ (Q ++ [s])).length ∧ strsAt w5 aw (P.reverse ++ (Q ++ [s])) := by
                refine strsAt_own (B := w4.heap.size) ?_
                rw [List.take_of_length_le (by rw [← HNQ.out]; exact Nat.le_refl _)] at hown'
                rw [← List.append_assoc, strc_snoc]
                exact hown'
              subst hv
              have HSW : Hid (strsAt w5 aw (P.reverse ++ (Q ++ [s]))) := hsw
              have HNW : Hid (j + k + 1 = (P.reverse ++ (Q ++ [s])).length) := hnw
              have HST5 : Hid (StackSt w5 w.heap.size gS gL gD gB own' P (Q ++ [s]) (((j + k : Nat) : Int) + 1)) := HST.out.below HB5.out
              have HBB : Hid (Below w.heap.size w w5) := hB4.trans (HB5.out.mono hB4.size)
              clear hsw hnw hown' hgrow hbr HO HST hB4 HB5
              go_wp2_with fail
              --STOP6
              refine (top_any _ w.heap.size gS gL gD gB own' P (Q ++ [s]) _ (by rw [← HNP.out]; omega) (by rw [List.length_append, ← HNQ.out]; simp; omega) HST5.out).mono ?_
              rintro e w6 ⟨v, rfl, hown6, hb6⟩
              obtain ⟨ag, cg, hv, hng, hsg⟩ := strsAt_own hown6
              subst hv
              have HL : Hid (P.length + (Q ++ [s]).length = j + k + 1) := show _ = _ by rw [List.length_append, ← HNP.out, ← HNQ.out]; simp; omega
              rw [HL.out]
              have HSG : Hid (strsAt w6 ag (P.reverse ++ (Q ++ [s]))) := hsg
              have HSW6 : Hid (strsAt w6 aw (P.reverse ++ (Q ++ [s]))) := HSW.out.below hb6
              have HST6 : Hid (StackSt w6 w.heap.size gS gL gD gB own' P (Q ++ [s]) (((j + k : Nat) : Int) + 1)) := HST5.out.below hb6
              have HB6 : Hid (Below w.heap.size w w6) := HBB.out.trans (hb6.mono HBB.out.size)
              clear hown6 hb6 hng hsg HST5 HSW HBB
              go_wp2_with fail
              refine (sameS_any _ _ _ _ _ (P.reverse ++ (Q ++ [s])) HNW.out _ (by omega) HSG.out HSW6.out).mono ?_
              rintro e w7 ⟨rfl, q7, rfl⟩
              go_wp2_with fail
              refine (lines_any _ w.heap.size gS gL gD gB own' P (Q ++ [s]) _ (HST6.out.below (below_drewN (Below.refl _ _) _))).mono ?_
              rintro e w8 ⟨rfl, q8, rfl⟩
              go_wp2_with fail
              go_ret
              exact ⟨rfl, below_drewN HB6.out _⟩

end Go.Proofs.Qxb6615703a.st
