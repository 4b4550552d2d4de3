import Derived.Test.Qxb6615703aScriptParts
namespace Go.Proofs.Qxb6615703a.st
open Go.ChangeShapes Go.WideShapes Go.ChangeAt Go.RowKit
set_option linter.unusedVariables false

theorem strs_one (X : List ByteArray) : ∀ u ∈ strc X, u.oneCell' = true := by
  intro u hu
  simp only [strc, List.mem_map] at hu
  obtain ⟨s, _, rfl⟩ := hu
  rfl

theorem strs_at {w w' : World} {B n cm : Nat} {am : Option Addr} {X : List ByteArray} (h : w.ownsRow B 9 1 (.slice am n cm) n (strc X)) (hb : Below w.heap.size w w') : ∀ ad, am = some ad → ∀ j u, (strc X)[j]? = some u → w'.cell? (ad.add j) = some u := by
  intro ad e j u hu
  subst e
  rcases h.2 with ⟨e, _⟩ | ⟨g, cap, cur, e, _, hh, _⟩
  · simp at e
  · simp at e
    obtain ⟨rfl, rfl⟩ := e
    exact cell_below hb (h.cells (g := g) rfl j u hu)

theorem am_nil {w : World} {B n cm : Nat} {am : Option Addr} {X : List ByteArray} (h : w.ownsRow B 9 1 (.slice am n cm) n (strc X)) : am = none → n = 0 ∧ cm = 0 := by
  rintro rfl
  rcases h.2 with ⟨e, _⟩ | ⟨g, cap, cur, e, _⟩
  · simp at e; exact e
  · simp at e

set_option maxRecDepth 100000 in
set_option maxHeartbeats 4000000 in
theorem script_main (w : World) (ao ap : Option Addr) (no np co cp : Nat) (Z : Nat → Int) (P0 : List ByteArray) (hp : np = P0.length) (hno : no ≤ 9223372036854775807) (hnp : np ≤ 9223372036854775807)
    (hO : opsAt w ao no Z) (hP : strsAt w ap P0) (hsP : small 9223372036854775807 P0) :
    Calls Try.prog 4 #[.slice ao no co, .slice ap np cp] w fun e w' => e = .returned (.bool true) ∧ Below w.heap.size w w' := by
  have HO : Hid (opsAt w ao no Z) := hO
  have HP : Hid (strsAt w ap P0) := hP
  have HNP : Hid (np = P0.length) := hp
  clear hp
  go_enter Try.func4, Try.ntmps4
  go_wp2_with fail
  refine (bytesS_any _ ao ap no np co cp P0 HNP.out hno hnp hP hsP).mono ?_
  rintro e w1 ⟨rfl, rfl | ⟨rfl, hok⟩⟩
  · go_wp2_with fail
    go_ret
    exact ⟨rfl, Below.refl _ _⟩
  have HSP : Hid (small 1048576 P0) := hok.1
  have hnp1 : np ≤ 1048576 := hok.2.2
  have hno1 : no ≤ 1048576 := hok.2.1
  clear hok hP hO hsP hnp hno
  by_cases hlong : no ≤ 4096
  rotate_left
  · go_wp2_with fail
    go_ret
    exact ⟨rfl, Below.refl _ _⟩
  obtain ⟨i9, hi9, hz0, hz1, hz2⟩ := info_parts info9
  go_wp2_with fail
  go_loop [5, 6] (fun t i => ∃ k T : Nat, k ≤ np ∧ T ≤ 1048576 ∧ i = .int .i64 (k : Int) ∧ t = .int .i64 (T : Int)) (fun _ i => np - (intOf i).toNat)
  case atStart => exact ⟨0, no, Nat.zero_le _, hno1, rfl, rfl⟩
  case round =>
    obtain ⟨k, T, hk, hT, rfl, rfl⟩ := hrel
    by_cases hlt : k < np
    · obtain ⟨b, off, rfl, hc⟩ := HP.out (by rw [← HNP.out]; omega)
      have hc1 := hc k (by rw [← HNP.out]; exact hlt)
      have hLk := HSP.out k (by rw [← HNP.out]; exact hlt)
      generalize P0.getD k ByteArray.empty = x at hc1 hLk
      clear hc
      by_cases hb : T + (16 + x.size) ≤ 1048576
      · go_wp2_with fail
        go_round
        case rel => exact ⟨k + 1, T + (16 + x.size), by omega, by omega, by go_num, by go_num⟩
        case measure => simp [intOf]; omega
      · go_wp2_with fail
        go_ret
        exact ⟨rfl, Below.refl _ _⟩
    obtain rfl : k = np := by omega
    clear hk hlt hT HSP
    go_wp2_with fail
    refine (new_any _).mono ?_
    rintro e w2 ⟨gS, gL, gD, gB, own, rfl, hst, hb2, _⟩
    have HR0 : Hid (Rel w w2 gS gL 0 none 0 0) := ⟨[], [], [], gD, gB, own, rfl, rfl, Nat.le_refl _, hst, World.ownsRow_nil _ _ _ _, fun k hk => by simp [Value.ownBlock] at hk, hb2⟩
    clear hst hb2
    go_wp2_with fail
    --STOP1
    go_loopw [8, 9] (fun mv iv wr => ∃ i n cm : Nat, ∃ am, i ≤ no ∧ iv = .int .i64 (i : Int) ∧ mv = .slice am n cm ∧ Rel w wr gS gL i am n cm) (fun _ iv _ => no - (intOf iv).toNat)
    case atStart => exact ⟨0, 0, 0, none, Nat.zero_le _, rfl, rfl, HR0.out⟩
    case round =>
      clear HR0
      obtain ⟨i, n, cm, am, hi, rfl, rfl, hR⟩ := hrel
      have HRR : Hid (Rel w wr gS gL i am n cm) := hR
      obtain ⟨X, P, R, gD, gB, own, hn, hX, hni, hst, hown, hdis, hbr⟩ := hR
      have HN : Hid (n = X.length) := hn
      have HX : Hid (X = P.reverse ++ R) := hX
      have HST : Hid (StackSt wr w.heap.size gS gL gD gB own P R (n : Int)) := hst
      have HM : Hid (wr.ownsRow w.heap.size 9 1 (.slice am n cm) n (strc X)) := hown
      have HD : Hid (∀ k, (Value.slice am n cm).ownBlock = some k → ¬ own k) := hdis
      have hlenPR : P.length + R.length = n := by rw [hn, hX]; simp
      have hPl : P.length ≤ 1048576 := by omega
      have hRl : R.length ≤ 1048576 := by omega
      clear hn hX hst hown hdis hlenPR
      by_cases hlt : i < no
      · obtain ⟨b, off, rfl, hco⟩ := HO.out (by omega)
        obtain ⟨hc0, hz1', hz2'⟩ := hco i hlt
        replace hc0 := cell_below hbr hc0
        generalize Z i = z at hc0 hz1' hz2'
        clear hco
        by_cases hin : i < k
        · obtain ⟨b2, off2, rfl, hcl⟩ := HP.out (by rw [← HNP.out]; omega)
          have hc2 := cell_below hbr (hcl i (by rw [← HNP.out]; exact hin))
          generalize P0.getD i ByteArray.empty = x at hc2
          clear hcl
          by_cases ho0 : z = 0
          · subst ho0
            go_wp2_with fail
            refine (Push_any _ w.heap.size gS gL gD gB own P R _ x HST.out hPl (by omega) (by omega)).mono ?_
            rintro e w3 ⟨rfl, own', hst3, hk3, hx3⟩
            have hb3 : Below w.heap.size wr w3 := hk3.below hbr.size (fun k hk => (HST.out.own_ge k hk).1)
            have hm3 : w3.ownsRow w.heap.size 9 1 (.slice am n cm) n (strc X) := owns_of_block HM.out (fun k hk => hk3.block k (HM.out.lt k hk).2 (HD.out k hk))
            have HM3 : Hid (w3.ownsRow w.heap.size 9 1 (.slice am n cm) n (strc X)) := hm3
            have HST3 : Hid (StackSt w3 w.heap.size gS gL gD gB own' (P ++ [x]) R ((n : Int) + 1)) := hst3
            have HB3 : Hid (Below w.heap.size wr w3) := hb3
            have HBR : Hid (Below w.heap.size w wr) := hbr
            clear hst3 hk3 hx3 hb3 hm3 hbr hc0
            go_wp2_with (first | (at_make; refine wpList_make_own _ rfl _ _ 22 rfl w3.heap.size 9 i9 (.string ByteArray.empty) 1 Try.underlying22 hi9 hz0 hz1 .i64 .i64 _ (n + 1) rfl rfl (by omega) (by rw [hz2]; omega) (by unfold maxLen; omega) (Nat.le_refl _) ?_; intro w4 hown4 hgrow4) | (at_builtin; refine wpList_append_fits _ rfl (.tmp 76) (.tmp 78) 22 rfl w3.heap.size 9 i9 1 Try.underlying22 hi9 hz1 w3.heap.size 0 (n + 1) [] rfl (hown4.alloc _) ⟨w4.heap.size, 0, none⟩ 1 1 [.string x] rfl rfl (World.news_of_block (heap_alloc_new _ _)) (by simp [Value.oneCell']) (by omega) ?_; intro w5 hown5 hgrow5; simp only [Nat.zero_add, List.nil_append] at hown5; have hb4 : Below w3.heap.size w3 w4 := (Below.refl _ _).grown hgrow4 (Nat.le_refl _) (fun k hk => by simp at hk); have hb5 : Below w3.heap.size w3 w5 := (hb4.alloc hb4.size _).grown hgrow5 (by have := hb4.size; simp; omega) (fun k hk => by simp at hk; omega)) | (at_builtin; refine wpList_append_fits_any _ rfl (.tmp 80) (.tmp 81) 22 rfl w3.heap.size 9 i9 1 Try.underlying22 hi9 hz1 w3.heap.size 1 (n + 1) [.string x] rfl hown5 am n cm (strc X) rfl (by rw [strc_len, ← HN.out]; simp) (am_nil HM3.out) (strs_at HM3.out hb5) (strs_one X) (by omega) ?_; intro w6 hown6 hgrow6))
            --STOP2
            have hb6 : Below w3.heap.size w3 w6 := hb5.grown hgrow6 hb5.size (fun k hk => by simp at hk; omega)
            have HB6 : Hid (Below w3.heap.size w3 w6) := hb6
            have HOW6 : Hid (w6.ownsRow w3.heap.size 9 1 (.slice (some ⟨w3.heap.size, 0, none⟩) (1 + n) (n + 1)) (1 + n) ([.string x] ++ strc X)) := hown6
            clear hown4 hown5 hown6 hgrow4 hgrow5 hgrow6 hb4 hb5 hb6
            go_wp2_with fail
            refine (lines_any _ w.heap.size gS gL gD gB own' _ _ _ (HST3.out.below HB6.out)).mono ?_
            rintro e w8 ⟨rfl, q8, rfl⟩
            have HRN : Hid (Rel w (w6.drewN q8) gS gL (i + 1) (some ⟨w3.heap.size, 0, none⟩) (1 + n) (n + 1)) := Rel.push (own := own) HN.out HX.out hni HBR.out HB3.out HST3.out HB6.out HOW6.out q8
            go_wp2_with fail
            go_roundw
            case rel => first | exact ⟨i + 1, 1 + n, n + 1, _, by omega, by go_num, rfl, HRN.out⟩ | ((repeat apply Exists.intro); refine ⟨⟨i + 1, 1 + n, n + 1, _, by omega, ?_, rfl, HRN.out⟩, rfl⟩; go_num)
            case measure => simp [intOf] <;> omega
          by_cases ho1 : z = 1
          · subst ho1
            go_wp2_with fail
            refine (Queue_any _ w.heap.size gS gL gD gB own P R _ x HST.out hRl (by omega) (by omega)).mono ?_
            rintro e w3 ⟨rfl, own', hst3, hk3, hx3⟩
            have hb3 : Below w.heap.size wr w3 := hk3.below hbr.size (fun k hk => (HST.out.own_ge k hk).1)
            have hm3 : w3.ownsRow w.heap.size 9 1 (.slice am n cm) n (strc X) := owns_of_block HM.out (fun k hk => hk3.block k (HM.out.lt k hk).2 (HD.out k hk))
            have HM3 : Hid (w3.ownsRow w.heap.size 9 1 (.slice am n cm) n (strc X)) := hm3
            have HST3 : Hid (StackSt w3 w.heap.size gS gL gD gB own' P (R ++ [x]) ((n : Int) + 1)) := hst3
            have HX3 : Hid (Nexts wr own own') := hx3
            have HB3 : Hid (Below w.heap.size wr w3) := hb3
            have HBR : Hid (Below w.heap.size w wr) := hbr
            have hB3s : w.heap.size ≤ w3.heap.size := (hbr.trans hb3).size
            clear hst3 hk3 hx3 hb3 hm3 hbr hc0
            go_wp2_with (at_builtin; refine wpList_append_lies _ rfl _ _ 22 rfl w.heap.size 9 i9 (.string ByteArray.empty) 1 16 Try.underlying22 hi9 hz0 hz1 hz2 rfl (by decide) (.slice am n cm) n (strc X) rfl (HM3.out.alloc _) ⟨w3.heap.size, 0, none⟩ 1 1 [.string x] rfl rfl (World.news_of_block (heap_alloc_new _ _)) ?haL ?hmL ?hbL ?hcL ?hdL _ rfl ?_)
            case haL => intro u hu; simp at hu; subst hu; rfl
            case hmL => decide
            case hbL => unfold maxLen; omega
            case hcL => omega
            case hdL => simp; omega
            intro g cap w5 hown5 hgrow5 hat hlt5
            have hb4 : Below w3.heap.size w3 (w3.alloc (Obj.cells #[Value.string x] 9)) := (Below.refl _ _).alloc (Nat.le_refl _) _
            have hat' : (Value.slice am n cm).ownBlock = some g ∨ w3.heap.size ≤ g := by rcases hat with h | h; exact .inl h; exact .inr (by rw [h]; simp)
            have HRQ : Hid (∀ q, Rel w (w5.drewN q) gS gL (i + 1) (some ⟨g, 0, none⟩) (n + 1) cap) := fun q => Rel.queue HN.out HX.out hni HBR.out HD.out HM.out HB3.out HX3.out HST3.out hb4 hown5 hgrow5 hat' q
            have HS5 : Hid (StackSt w5 w.heap.size gS gL gD gB own' P (R ++ [x]) ((n : Int) + 1)) := by
              refine StackSt.of_blocks HST3.out fun k hk => ?_
              have hk3 := (HST3.out.own_ge k hk).2
              refine (hgrow5.block k (Nat.lt_of_lt_of_le hk3 hb4.size) (fun e => ?_)).trans (hb4.block k hk3)
              rcases HX3.out k hk with h | h
              · exact HD.out k e.symm h
              · have := (HM.out.lt k e.symm).2; omega
            clear hown5 hgrow5 hat hat' hlt5 hb4
            go_wp2_with fail
            refine (lines_any _ w.heap.size gS gL gD gB own' _ _ _ HS5.out).mono ?_
            rintro e w8 ⟨rfl, q8, rfl⟩
            have HRN := HRQ.out q8
            go_wp2_with fail
            go_roundw
            case rel => first | exact ⟨i + 1, n + 1, cap, _, by omega, by go_num, rfl, HRN⟩ | ((repeat apply Exists.intro); refine ⟨⟨i + 1, n + 1, cap, _, by omega, ?_, rfl, HRN⟩, rfl⟩; go_num)
            case measure => simp [intOf] <;> omega
          by_cases ho2 : z = 2
          · subst ho2
            go_wp2_with fail
            refine (drop_all _ w.heap.size gS gL gD gB own P R _ HST.out).mono ?_
            rintro e w3 ⟨rfl, gD', gB', own', hst3, hk3, hx3⟩
            have hb3 : Below w.heap.size wr w3 := hk3.below hbr.size (fun k hk => (HST.out.own_ge k hk).1)
            have HRQ : Hid (∀ q, Rel w (w3.drewN q) gS gL (i + 1) none 0 0) := fun q => Rel.drop (own := own) hbr hb3 hst3 q
            have HS3 : Hid (StackSt w3 w.heap.size gS gL gD' gB' own' [] [] 0) := hst3
            clear hst3 hk3 hx3 hb3 hbr hc0
            go_wp2_with fail
            refine (lines_any _ w.heap.size gS gL gD' gB' own' _ _ _ HS3.out).mono ?_
            rintro e w8 ⟨rfl, q8, rfl⟩
            have HRN := HRQ.out q8
            go_wp2_with fail
            go_roundw
            case rel => first | exact ⟨i + 1, 0, 0, none, by omega, by go_num, rfl, HRN⟩ | ((repeat apply Exists.intro); refine ⟨⟨i + 1, 0, 0, none, by omega, ?_, rfl, HRN⟩, rfl⟩; go_num)
            case measure => simp [intOf] <;> omega
          have hb0 : (z == 0) = false := beq_eq_false_iff_ne.2 ho0
          have hb1 : (z == 1) = false := beq_eq_false_iff_ne.2 ho1
          have hb2 : (z == 2) = false := beq_eq_false_iff_ne.2 ho2
          go_wp2_with fail
          refine (drop_no _ w.heap.size gS gL gD gB own P R _ _ HST.out (by omega)).mono ?_
          rintro e w3 ⟨rfl, q3, rfl⟩
          have hnn : ((n : Int) != (n : Int)) = false := by simp
          clear hbr hc0
          go_wp2_with fail
          refine (lines_any _ w.heap.size gS gL gD gB own _ _ _ (HST.out.below (below_drewN (Below.refl _ _) _))).mono ?_
          rintro e w8 ⟨rfl, q8, rfl⟩
          have HRN : Hid (∀ q, Rel w (wr.drewN q) gS gL (i + 1) am n cm) := fun q => Rel.drewN HRR.out q
          go_wp2_with fail
          go_roundw
          case rel => first | exact ⟨i + 1, n, cm, am, by omega, by go_num, rfl, HRN.out _⟩ | ((repeat apply Exists.intro); refine ⟨⟨i + 1, n, cm, am, by omega, ?_, rfl, HRN.out _⟩, rfl⟩; go_num)
          case measure => simp [intOf] <;> omega
        · have hin' : k ≤ i := by omega
          by_cases ho0 : z = 0
          · subst ho0
            go_wp2_with fail
            refine (Push_any _ w.heap.size gS gL gD gB own P R _ (⟨#[]⟩ : ByteArray) HST.out hPl (by omega) (by omega)).mono ?_
            rintro e w3 ⟨rfl, own', hst3, hk3, hx3⟩
            have hb3 : Below w.heap.size wr w3 := hk3.below hbr.size (fun k hk => (HST.out.own_ge k hk).1)
            have hm3 : w3.ownsRow w.heap.size 9 1 (.slice am n cm) n (strc X) := owns_of_block HM.out (fun k hk => hk3.block k (HM.out.lt k hk).2 (HD.out k hk))
            have HM3 : Hid (w3.ownsRow w.heap.size 9 1 (.slice am n cm) n (strc X)) := hm3
            have HST3 : Hid (StackSt w3 w.heap.size gS gL gD gB own' (P ++ [(⟨#[]⟩ : ByteArray)]) R ((n : Int) + 1)) := hst3
            have HB3 : Hid (Below w.heap.size wr w3) := hb3
            have HBR : Hid (Below w.heap.size w wr) := hbr
            clear hst3 hk3 hx3 hb3 hm3 hbr hc0
            go_wp2_with (first | (at_make; refine wpList_make_own _ rfl _ _ 22 rfl w3.heap.size 9 i9 (.string ByteArray.empty) 1 Try.underlying22 hi9 hz0 hz1 .i64 .i64 _ (n + 1) rfl rfl (by omega) (by rw [hz2]; omega) (by unfold maxLen; omega) (Nat.le_refl _) ?_; intro w4 hown4 hgrow4) | (at_builtin; refine wpList_append_fits _ rfl (.tmp 76) (.tmp 78) 22 rfl w3.heap.size 9 i9 1 Try.underlying22 hi9 hz1 w3.heap.size 0 (n + 1) [] rfl (hown4.alloc _) ⟨w4.heap.size, 0, none⟩ 1 1 [.string (⟨#[]⟩ : ByteArray)] rfl rfl (World.news_of_block (heap_alloc_new _ _)) (by simp [Value.oneCell']) (by omega) ?_; intro w5 hown5 hgrow5; simp only [Nat.zero_add, List.nil_append] at hown5; have hb4 : Below w3.heap.size w3 w4 := (Below.refl _ _).grown hgrow4 (Nat.le_refl _) (fun k hk => by simp at hk); have hb5 : Below w3.heap.size w3 w5 := (hb4.alloc hb4.size _).grown hgrow5 (by have := hb4.size; simp; omega) (fun k hk => by simp at hk; omega)) | (at_builtin; refine wpList_append_fits_any _ rfl (.tmp 80) (.tmp 81) 22 rfl w3.heap.size 9 i9 1 Try.underlying22 hi9 hz1 w3.heap.size 1 (n + 1) [.string (⟨#[]⟩ : ByteArray)] rfl hown5 am n cm (strc X) rfl (by rw [strc_len, ← HN.out]; simp) (am_nil HM3.out) (strs_at HM3.out hb5) (strs_one X) (by omega) ?_; intro w6 hown6 hgrow6))
            --STOP2
            have hb6 : Below w3.heap.size w3 w6 := hb5.grown hgrow6 hb5.size (fun k hk => by simp at hk; omega)
            have HB6 : Hid (Below w3.heap.size w3 w6) := hb6
            have HOW6 : Hid (w6.ownsRow w3.heap.size 9 1 (.slice (some ⟨w3.heap.size, 0, none⟩) (1 + n) (n + 1)) (1 + n) ([.string (⟨#[]⟩ : ByteArray)] ++ strc X)) := hown6
            clear hown4 hown5 hown6 hgrow4 hgrow5 hgrow6 hb4 hb5 hb6
            go_wp2_with fail
            refine (lines_any _ w.heap.size gS gL gD gB own' _ _ _ (HST3.out.below HB6.out)).mono ?_
            rintro e w8 ⟨rfl, q8, rfl⟩
            have HRN : Hid (Rel w (w6.drewN q8) gS gL (i + 1) (some ⟨w3.heap.size, 0, none⟩) (1 + n) (n + 1)) := Rel.push (own := own) HN.out HX.out hni HBR.out HB3.out HST3.out HB6.out HOW6.out q8
            go_wp2_with fail
            go_roundw
            case rel => first | exact ⟨i + 1, 1 + n, n + 1, _, by omega, by go_num, rfl, HRN.out⟩ | ((repeat apply Exists.intro); refine ⟨⟨i + 1, 1 + n, n + 1, _, by omega, ?_, rfl, HRN.out⟩, rfl⟩; go_num)
            case measure => simp [intOf] <;> omega
          by_cases ho1 : z = 1
          · subst ho1
            go_wp2_with fail
            refine (Queue_any _ w.heap.size gS gL gD gB own P R _ (⟨#[]⟩ : ByteArray) HST.out hRl (by omega) (by omega)).mono ?_
            rintro e w3 ⟨rfl, own', hst3, hk3, hx3⟩
            have hb3 : Below w.heap.size wr w3 := hk3.below hbr.size (fun k hk => (HST.out.own_ge k hk).1)
            have hm3 : w3.ownsRow w.heap.size 9 1 (.slice am n cm) n (strc X) := owns_of_block HM.out (fun k hk => hk3.block k (HM.out.lt k hk).2 (HD.out k hk))
            have HM3 : Hid (w3.ownsRow w.heap.size 9 1 (.slice am n cm) n (strc X)) := hm3
            have HST3 : Hid (StackSt w3 w.heap.size gS gL gD gB own' P (R ++ [(⟨#[]⟩ : ByteArray)]) ((n : Int) + 1)) := hst3
            have HX3 : Hid (Nexts wr own own') := hx3
            have HB3 : Hid (Below w.heap.size wr w3) := hb3
            have HBR : Hid (Below w.heap.size w wr) := hbr
            have hB3s : w.heap.size ≤ w3.heap.size := (hbr.trans hb3).size
            clear hst3 hk3 hx3 hb3 hm3 hbr hc0
            go_wp2_with (at_builtin; refine wpList_append_lies _ rfl _ _ 22 rfl w.heap.size 9 i9 (.string ByteArray.empty) 1 16 Try.underlying22 hi9 hz0 hz1 hz2 rfl (by decide) (.slice am n cm) n (strc X) rfl (HM3.out.alloc _) ⟨w3.heap.size, 0, none⟩ 1 1 [.string (⟨#[]⟩ : ByteArray)] rfl rfl (World.news_of_block (heap_alloc_new _ _)) ?haE ?hmE ?hbE ?hcE ?hdE _ rfl ?_)
            case haE => intro u hu; simp at hu; subst hu; rfl
            case hmE => decide
            case hbE => unfold maxLen; omega
            case hcE => omega
            case hdE => simp; omega
            intro g cap w5 hown5 hgrow5 hat hlt5
            have hb4 : Below w3.heap.size w3 (w3.alloc (Obj.cells #[Value.string (⟨#[]⟩ : ByteArray)] 9)) := (Below.refl _ _).alloc (Nat.le_refl _) _
            have hat' : (Value.slice am n cm).ownBlock = some g ∨ w3.heap.size ≤ g := by rcases hat with h | h; exact .inl h; exact .inr (by rw [h]; simp)
            have HRQ : Hid (∀ q, Rel w (w5.drewN q) gS gL (i + 1) (some ⟨g, 0, none⟩) (n + 1) cap) := fun q => Rel.queue HN.out HX.out hni HBR.out HD.out HM.out HB3.out HX3.out HST3.out hb4 hown5 hgrow5 hat' q
            have HS5 : Hid (StackSt w5 w.heap.size gS gL gD gB own' P (R ++ [(⟨#[]⟩ : ByteArray)]) ((n : Int) + 1)) := by
              refine StackSt.of_blocks HST3.out fun k hk => ?_
              have hk3 := (HST3.out.own_ge k hk).2
              refine (hgrow5.block k (Nat.lt_of_lt_of_le hk3 hb4.size) (fun e => ?_)).trans (hb4.block k hk3)
              rcases HX3.out k hk with h | h
              · exact HD.out k e.symm h
              · have := (HM.out.lt k e.symm).2; omega
            clear hown5 hgrow5 hat hat' hlt5 hb4
            go_wp2_with fail
            refine (lines_any _ w.heap.size gS gL gD gB own' _ _ _ HS5.out).mono ?_
            rintro e w8 ⟨rfl, q8, rfl⟩
            have HRN := HRQ.out q8
            go_wp2_with fail
            go_roundw
            case rel => first | exact ⟨i + 1, n + 1, cap, _, by omega, by go_num, rfl, HRN⟩ | ((repeat apply Exists.intro); refine ⟨⟨i + 1, n + 1, cap, _, by omega, ?_, rfl, HRN⟩, rfl⟩; go_num)
            case measure => simp [intOf] <;> omega
          by_cases ho2 : z = 2
          · subst ho2
            go_wp2_with fail
            refine (drop_all _ w.heap.size gS gL gD gB own P R _ HST.out).mono ?_
            rintro e w3 ⟨rfl, gD', gB', own', hst3, hk3, hx3⟩
            have hb3 : Below w.heap.size wr w3 := hk3.below hbr.size (fun k hk => (HST.out.own_ge k hk).1)
            have HRQ : Hid (∀ q, Rel w (w3.drewN q) gS gL (i + 1) none 0 0) := fun q => Rel.drop (own := own) hbr hb3 hst3 q
            have HS3 : Hid (StackSt w3 w.heap.size gS gL gD' gB' own' [] [] 0) := hst3
            clear hst3 hk3 hx3 hb3 hbr hc0
            go_wp2_with fail
            refine (lines_any _ w.heap.size gS gL gD' gB' own' _ _ _ HS3.out).mono ?_
            rintro e w8 ⟨rfl, q8, rfl⟩
            have HRN := HRQ.out q8
            go_wp2_with fail
            go_roundw
            case rel => first | exact ⟨i + 1, 0, 0, none, by omega, by go_num, rfl, HRN⟩ | ((repeat apply Exists.intro); refine ⟨⟨i + 1, 0, 0, none, by omega, ?_, rfl, HRN⟩, rfl⟩; go_num)
            case measure => simp [intOf] <;> omega
          have hb0 : (z == 0) = false := beq_eq_false_iff_ne.2 ho0
          have hb1 : (z == 1) = false := beq_eq_false_iff_ne.2 ho1
          have hb2 : (z == 2) = false := beq_eq_false_iff_ne.2 ho2
          go_wp2_with fail
          refine (drop_no _ w.heap.size gS gL gD gB own P R _ _ HST.out (by omega)).mono ?_
          rintro e w3 ⟨rfl, q3, rfl⟩
          have hnn : ((n : Int) != (n : Int)) = false := by simp
          clear hbr hc0
          go_wp2_with fail
          refine (lines_any _ w.heap.size gS gL gD gB own _ _ _ (HST.out.below (below_drewN (Below.refl _ _) _))).mono ?_
          rintro e w8 ⟨rfl, q8, rfl⟩
          have HRN : Hid (∀ q, Rel w (wr.drewN q) gS gL (i + 1) am n cm) := fun q => Rel.drewN HRR.out q
          go_wp2_with fail
          go_roundw
          case rel => first | exact ⟨i + 1, n, cm, am, by omega, by go_num, rfl, HRN.out _⟩ | ((repeat apply Exists.intro); refine ⟨⟨i + 1, n, cm, am, by omega, ?_, rfl, HRN.out _⟩, rfl⟩; go_num)
          case measure => simp [intOf] <;> omega
      obtain rfl : i = no := by omega
      clear hi hlt
      --STOP3
      go_wp2_with fail
      refine (top_any _ w.heap.size gS gL gD gB own P R _ hPl hRl HST.out).mono ?_
      rintro e w6 ⟨v, rfl, hown6, hb6⟩
      obtain ⟨ag, cg, hv, hng, hsg⟩ := strsAt_own hown6
      subst hv
      have HL : Hid (P.length + R.length = n) := show _ = _ by rw [HN.out, HX.out]; simp
      rw [HL.out]
      obtain ⟨aw, cw, hv2, hnw, hsw⟩ := strsAt_own HM.out
      simp at hv2
      obtain ⟨rfl, rfl⟩ := hv2
      have HSG : Hid (strsAt w6 ag X) := by rw [HX.out]; exact hsg
      have HSW : Hid (strsAt w6 am X) := hsw.below hb6
      have HB6 : Hid (Below w.heap.size w w6) := hbr.trans (hb6.mono hbr.size)
      clear hown6 hb6 hng hsg hnw hsw hbr
      go_wp2_with fail
      refine (sameS_any _ _ _ _ _ X HN.out _ (by omega) HSG.out HSW.out).mono ?_
      rintro e w7 ⟨rfl, q7, rfl⟩
      go_wp2_with fail
      go_ret
      exact ⟨rfl, below_drewN HB6.out _⟩

end Go.Proofs.Qxb6615703a.st
