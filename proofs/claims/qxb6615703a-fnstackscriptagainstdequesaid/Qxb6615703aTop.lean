import Derived.Test.Qxb6615703aOps
namespace Go.Proofs.Qxb6615703a.st
open Go.ChangeShapes Go.WideShapes Go.ChangeAt Go.RowKit
set_option linter.unusedVariables false

/-- A []string that holds l. -/
def strsAt (w : World) (ao : Option Addr) (l : List ByteArray) : Prop :=
  0 < l.length → ∃ b off, ao = some ⟨b, off, none⟩ ∧ ∀ k, k < l.length → w.cell? ⟨b, off + k, none⟩ = some (.string (l.getD k ByteArray.empty))

theorem strsAt.below {w w' : World} {ao : Option Addr} {l : List ByteArray} (h : strsAt w ao l) (hb : Below w.heap.size w w') : strsAt w' ao l := by
  intro h0
  obtain ⟨b, off, e, hc⟩ := h h0
  exact ⟨b, off, e, fun i hi => cell_below hb (hc i hi)⟩

theorem strsAt_own {w : World} {B n : Nat} {v : Value} {l : List ByteArray} (h : w.ownsRow B 9 1 v n (strc l)) : ∃ ao c, v = .slice ao n c ∧ n = l.length ∧ strsAt w ao l := by
  have hn : n = l.length := by have := h.1; simp [strc_len] at this; omega
  rcases own_form h with ⟨rfl, e⟩ | ⟨g, cap, rfl⟩
  · exact ⟨none, 0, by rw [e], hn, fun h0 => by omega⟩
  · exact ⟨_, cap, rfl, hn, fun _ => ⟨g, 0, rfl, fun k hk => by simpa using owns_strs h k hk⟩⟩

theorem sameS_empty (a b : Option Addr) (ca cb : Nat) (w : World) : Calls Try.prog 10 #[.slice a 0 ca, .slice b 0 cb] w fun e w' => e = .returned (.bool true) ∧ ∃ q, w' = w.drewN q := by
  go_enter Try.func10, Try.ntmps10
  go_wp2
  refine wp_loop_rounds 1 ?_
  rw [rounds_succ]
  go_wp2
  go_ret
  exact ⟨rfl, 0, rfl⟩

set_option maxHeartbeats 400000 in
theorem sameS_any (a b : Option Addr) (n ca cb : Nat) (l : List ByteArray) (hl : n = l.length) (w : World) (hn : n ≤ 4194304) (ha : strsAt w a l) (hb : strsAt w b l) :
    Calls Try.prog 10 #[.slice a n ca, .slice b n cb] w fun e w' => e = .returned (.bool true) ∧ ∃ q, w' = w.drewN q := by
  by_cases h0 : n = 0
  · subst h0
    exact sameS_empty a b ca cb w
  · obtain ⟨b1, o1, rfl, hc1⟩ := ha (by omega)
    obtain ⟨b2, o2, rfl, hc2⟩ := hb (by omega)
    have H1 : Hid (∀ k, k < l.length → w.cell? ⟨b1, o1 + k, none⟩ = some (.string (l.getD k ByteArray.empty))) := hc1
    have H2 : Hid (∀ k, k < l.length → w.cell? ⟨b2, o2 + k, none⟩ = some (.string (l.getD k ByteArray.empty))) := hc2
    have HN : Hid (n = l.length) := hl
    clear hc1 hc2 ha hb hl
    go_enter Try.func10, Try.ntmps10
    go_wp2
    go_loopw [5] (fun i wr => ∃ k : Nat, k ≤ n ∧ i = .int .i64 (k : Int) ∧ ∃ q, wr = w.drewN q) (fun i _ => n - (intOf i).toNat)
    case atStart => exact ⟨0, Nat.zero_le _, rfl, 0, rfl⟩
    case round =>
      obtain ⟨k, hk, rfl, q, rfl⟩ := hrel
      by_cases hlt : k < n
      · have hcx1 := H1.out k (by rw [← HN.out]; exact hlt)
        have hcx2 := H2.out k (by rw [← HN.out]; exact hlt)
        generalize l.getD k ByteArray.empty = s at hcx1 hcx2
        have hi1 : (k : Int) < (n : Int) := by omega
        have hi0 : (0 : Int) ≤ (k : Int) := by omega
        go_wp2
        go_quiet (fail)
        go_wp2
        go_roundw
        case rel => exact ⟨k + 1, by omega, by go_num, q + nq, by simp⟩
        case measure => simp [intOf]; omega
      · go_wp2
        go_ret
        exact ⟨rfl, q, rfl⟩

set_option maxRecDepth 100000 in
set_option maxHeartbeats 1000000 in
theorem top_ss (w : World) (B gS gL gD gB : Nat) (gp cp : Nat) (P : List ByteArray) (gq cq : Nat) (Q : List ByteArray) (ln : Int) (hP : P.length ≤ 1048576) (hQ : Q.length ≤ 1048576) (hm : Mem w B gS gL gD gB (.slice (some ⟨gp, 0, none⟩) P.length cp) (.slice (some ⟨gq, 0, none⟩) Q.length cq) P Q ln) :
    Calls Try.prog 9 #[.pointer (some ⟨gS, 0, none⟩)] w fun e w' => ∃ v, e = .returned (.tuple #[v, .bool true]) ∧ w'.ownsRow w.heap.size 9 1 v (P.length + Q.length) (strc (P.reverse ++ Q)) ∧ Below w.heap.size w w' := by
  obtain ⟨i9, hi9, hz0, hz1, hz2⟩ := info_parts info9
  have HM : Hid (Mem w B gS gL gD gB (.slice (some ⟨gp, 0, none⟩) P.length cp) (.slice (some ⟨gq, 0, none⟩) Q.length cq) P Q ln) := hm
  clear hm
  go_enter Try.func9, Try.ntmps9
  go_wp2_with fail
  refine (buffers_any _ B gS gL gD gB _ _ _ ln ⟨_, _, HM.out, rfl⟩).mono ?_
  rintro e w1 ⟨rfl, q1, rfl⟩
  go_wp2_with fail
  refine (pushed_any _ B gS gL gD gB _ _ _ _ ln (by exact HM.out.below (below_drewN (Below.refl _ _) _))).mono ?_
  rintro e w2 ⟨rfl, q2, rfl⟩
  go_wp2_with fail
  refine (queued_any _ B gS gL gD gB _ _ _ _ ln (by exact HM.out.below (below_drewN (Below.refl _ _) _))).mono ?_
  rintro e w3 ⟨rfl, q3, rfl⟩
  go_wp2_with fail
  refine (head_any _ B gS gL gD gB _ _ _ _ ln (by exact HM.out.below (below_drewN (Below.refl _ _) _))).mono ?_
  rintro e w4 ⟨rfl, q4, rfl⟩
  go_wp2_with fail
  -- STOPA
  go_loopw [7, 8] (fun ov iv wr => ∃ j : Nat, j ≤ P.length ∧ iv = .int .i64 ((j : Int) - 1) ∧ wr.ownsRow w.heap.size 9 1 ov (P.length - j) (strc (P.reverse.take (P.length - j))) ∧ Below w.heap.size w wr) (fun _ iv _ => (intOf iv + 1).toNat)
  case atStart => exact ⟨P.length, Nat.le_refl _, by first | rfl | go_num, by simpa [strc] using World.ownsRow_nil _ _ 9 1, below_drewN (Below.refl _ _) _⟩
  case round =>
    obtain ⟨j, hj, rfl, hown, hbr⟩ := hrel
    have HO : Hid (wr.ownsRow w.heap.size 9 1 u7 (P.length - j) (strc (P.reverse.take (P.length - j)))) := hown
    clear hown
    by_cases h0 : 0 < j
    · obtain ⟨k, rfl⟩ : ∃ k, j = k + 1 := ⟨j - 1, by omega⟩
      have hc := cell_below hbr (owns_strs HM.out.P' k (by omega))
      have HT : Hid (P.reverse.take (P.length - k) = P.reverse.take (P.length - (k + 1)) ++ [P.getD k ByteArray.empty]) := rev_snoc P k (by omega)
      generalize P.getD k ByteArray.empty = s at *
      have hlen : P.length - (k + 1) + 1 = P.length - k := by omega
      have HLEN : Hid (P.length - (k + 1) + 1 = P.length - k) := hlen
      clear hlen
      go_wp2_with (at_builtin; refine wpList_append_own _ rfl _ _ 22 rfl w.heap.size 9 i9 (.string ByteArray.empty) 1 16 Try.underlying22 hi9 hz0 hz1 hz2 rfl (by decide) _ _ _ rfl (HO.out.alloc _) ⟨wr.heap.size, 0, none⟩ 1 1 [.string s] rfl rfl (World.news_of_block (heap_alloc_new _ _)) ?ha ?hb ?hc ?hd ?_)
      case ha => intro u hu; simp at hu; subst hu; rfl
      case hb => unfold maxLen; omega
      case hc => omega
      case hd => have := hbr.size; simp; omega
      intro v' w1 hown' hgrow _
      have HO1 : Hid (w1.ownsRow w.heap.size 9 1 v' (P.length - k) (strc (P.reverse.take (P.length - k)))) := by
        rw [HLEN.out] at hown'
        rw [HT.out, strc_snoc]
        exact hown'
      have HB1 : Hid (Below w.heap.size w w1) := (hbr.alloc hbr.size _).grown hgrow (by have := hbr.size; simp; omega) (fun x hx => (HO.out.lt x hx).1)
      clear hown' hgrow hbr hc
      go_wp2_with fail
      go_roundw
      case rel => first | exact ⟨k, by omega, by go_num, HO1.out, HB1.out⟩ | ((repeat apply Exists.intro); refine ⟨⟨k, by omega, ?_, HO1.out, HB1.out⟩, rfl⟩; go_num)
      case measure => simp [intOf] <;> omega
    obtain rfl : j = 0 := by omega
    have HO2 : Hid (wr.ownsRow w.heap.size 9 1 u7 (P.length + 0) (strc (P.reverse ++ Q.take 0))) := by
      have := HO.out
      rw [Nat.sub_zero, List.take_of_length_le (by simp)] at this
      unfold Hid
      simpa using this
    clear HO
    go_wp2_with fail
    -- STOPB
    go_loopw [7, 9] (fun ov iv wr => ∃ k : Nat, k ≤ Q.length ∧ iv = .int .i64 (k : Int) ∧ wr.ownsRow w.heap.size 9 1 ov (P.length + k) (strc (P.reverse ++ Q.take k)) ∧ Below w.heap.size w wr) (fun _ iv _ => Q.length - (intOf iv).toNat)
    case atStart => exact ⟨0, Nat.zero_le _, rfl, HO2.out, hbr⟩
    case round =>
      clear HO2 hbr
      obtain ⟨k, hk, rfl, hown, hbr⟩ := hrel
      have HO : Hid (wr.ownsRow w.heap.size 9 1 u7 (P.length + k) (strc (P.reverse ++ Q.take k))) := hown
      clear hown
      by_cases hlt : k < Q.length
      · have hc := cell_below hbr (owns_strs HM.out.Q' k hlt)
        have HT : Hid (P.reverse ++ Q.take (k + 1) = (P.reverse ++ Q.take k) ++ [Q.getD k ByteArray.empty]) := show _ = _ by rw [take_snoc Q k hlt, List.append_assoc]
        generalize Q.getD k ByteArray.empty = s at *
        go_wp2_with (at_builtin; refine wpList_append_own _ rfl _ _ 22 rfl w.heap.size 9 i9 (.string ByteArray.empty) 1 16 Try.underlying22 hi9 hz0 hz1 hz2 rfl (by decide) _ _ _ rfl (HO.out.alloc _) ⟨wr.heap.size, 0, none⟩ 1 1 [.string s] rfl rfl (World.news_of_block (heap_alloc_new _ _)) ?ha2 ?hb2 ?hc2 ?hd2 ?_)
        case ha2 => intro u hu; simp at hu; subst hu; rfl
        case hb2 => unfold maxLen; omega
        case hc2 => omega
        case hd2 => have := hbr.size; simp; omega
        intro v' w1 hown' hgrow _
        have HO1 : Hid (w1.ownsRow w.heap.size 9 1 v' (P.length + (k + 1)) (strc (P.reverse ++ Q.take (k + 1)))) := by
          rw [HT.out, strc_snoc]
          exact hown'
        have HB1 : Hid (Below w.heap.size w w1) := (hbr.alloc hbr.size _).grown hgrow (by have := hbr.size; simp; omega) (fun x hx => (HO.out.lt x hx).1)
        clear hown' hgrow hbr hc
        go_wp2_with fail
        go_roundw
        case rel => first | exact ⟨k + 1, by omega, by go_num, HO1.out, HB1.out⟩ | ((repeat apply Exists.intro); refine ⟨⟨k + 1, by omega, ?_, HO1.out, HB1.out⟩, rfl⟩; go_num)
        case measure => simp [intOf] <;> omega
      obtain rfl : k = Q.length := by omega
      have HO3 : Hid (wr.ownsRow w.heap.size 9 1 u7 (P.length + Q.length) (strc (P.reverse ++ Q))) := by
        have := HO.out
        rw [List.take_length] at this
        exact this
      clear HO
      go_wp2_with fail
      go_ret2
      exact ⟨_, rfl, HO3.out, hbr⟩

set_option maxRecDepth 100000 in
set_option maxHeartbeats 1000000 in
theorem top_sn (w : World) (B gS gL gD gB : Nat) (gp cp : Nat) (P : List ByteArray) (ln : Int) (hP : P.length ≤ 1048576) (hm : Mem w B gS gL gD gB (.slice (some ⟨gp, 0, none⟩) P.length cp) (.slice none 0 0) P [] ln) :
    Calls Try.prog 9 #[.pointer (some ⟨gS, 0, none⟩)] w fun e w' => ∃ v, e = .returned (.tuple #[v, .bool true]) ∧ w'.ownsRow w.heap.size 9 1 v (P.length + 0) (strc (P.reverse ++ [])) ∧ Below w.heap.size w w' := by
  obtain ⟨i9, hi9, hz0, hz1, hz2⟩ := info_parts info9
  have HM : Hid (Mem w B gS gL gD gB (.slice (some ⟨gp, 0, none⟩) P.length cp) (.slice none 0 0) P [] ln) := hm
  clear hm
  go_enter Try.func9, Try.ntmps9
  go_wp2_with fail
  refine (buffers_any _ B gS gL gD gB _ _ _ ln ⟨_, _, HM.out, rfl⟩).mono ?_
  rintro e w1 ⟨rfl, q1, rfl⟩
  go_wp2_with fail
  refine (pushed_any _ B gS gL gD gB _ _ _ _ ln (by exact HM.out.below (below_drewN (Below.refl _ _) _))).mono ?_
  rintro e w2 ⟨rfl, q2, rfl⟩
  go_wp2_with fail
  refine (queued_any _ B gS gL gD gB _ _ _ _ ln (by exact HM.out.below (below_drewN (Below.refl _ _) _))).mono ?_
  rintro e w3 ⟨rfl, q3, rfl⟩
  go_wp2_with fail
  refine (head_any _ B gS gL gD gB _ _ _ _ ln (by exact HM.out.below (below_drewN (Below.refl _ _) _))).mono ?_
  rintro e w4 ⟨rfl, q4, rfl⟩
  go_wp2_with fail
  -- STOPA
  go_loopw [7, 8] (fun ov iv wr => ∃ j : Nat, j ≤ P.length ∧ iv = .int .i64 ((j : Int) - 1) ∧ wr.ownsRow w.heap.size 9 1 ov (P.length - j) (strc (P.reverse.take (P.length - j))) ∧ Below w.heap.size w wr) (fun _ iv _ => (intOf iv + 1).toNat)
  case atStart => exact ⟨P.length, Nat.le_refl _, by first | rfl | go_num, by simpa [strc] using World.ownsRow_nil _ _ 9 1, below_drewN (Below.refl _ _) _⟩
  case round =>
    obtain ⟨j, hj, rfl, hown, hbr⟩ := hrel
    have HO : Hid (wr.ownsRow w.heap.size 9 1 u7 (P.length - j) (strc (P.reverse.take (P.length - j)))) := hown
    clear hown
    by_cases h0 : 0 < j
    · obtain ⟨k, rfl⟩ : ∃ k, j = k + 1 := ⟨j - 1, by omega⟩
      have hc := cell_below hbr (owns_strs HM.out.P' k (by omega))
      have HT : Hid (P.reverse.take (P.length - k) = P.reverse.take (P.length - (k + 1)) ++ [P.getD k ByteArray.empty]) := rev_snoc P k (by omega)
      generalize P.getD k ByteArray.empty = s at *
      have hlen : P.length - (k + 1) + 1 = P.length - k := by omega
      have HLEN : Hid (P.length - (k + 1) + 1 = P.length - k) := hlen
      clear hlen
      go_wp2_with (at_builtin; refine wpList_append_own _ rfl _ _ 22 rfl w.heap.size 9 i9 (.string ByteArray.empty) 1 16 Try.underlying22 hi9 hz0 hz1 hz2 rfl (by decide) _ _ _ rfl (HO.out.alloc _) ⟨wr.heap.size, 0, none⟩ 1 1 [.string s] rfl rfl (World.news_of_block (heap_alloc_new _ _)) ?ha ?hb ?hc ?hd ?_)
      case ha => intro u hu; simp at hu; subst hu; rfl
      case hb => unfold maxLen; omega
      case hc => omega
      case hd => have := hbr.size; simp; omega
      intro v' w1 hown' hgrow _
      have HO1 : Hid (w1.ownsRow w.heap.size 9 1 v' (P.length - k) (strc (P.reverse.take (P.length - k)))) := by
        rw [HLEN.out] at hown'
        rw [HT.out, strc_snoc]
        exact hown'
      have HB1 : Hid (Below w.heap.size w w1) := (hbr.alloc hbr.size _).grown hgrow (by have := hbr.size; simp; omega) (fun x hx => (HO.out.lt x hx).1)
      clear hown' hgrow hbr hc
      go_wp2_with fail
      go_roundw
      case rel => first | exact ⟨k, by omega, by go_num, HO1.out, HB1.out⟩ | ((repeat apply Exists.intro); refine ⟨⟨k, by omega, ?_, HO1.out, HB1.out⟩, rfl⟩; go_num)
      case measure => simp [intOf] <;> omega
    obtain rfl : j = 0 := by omega
    have HO2 : Hid (wr.ownsRow w.heap.size 9 1 u7 (P.length + 0) (strc (P.reverse ++ ([] : List ByteArray).take 0))) := by
      have := HO.out
      rw [Nat.sub_zero, List.take_of_length_le (by simp)] at this
      unfold Hid
      simpa using this
    clear HO
    go_wp2_with fail
    -- STOPB
    go_loopw [7, 9] (fun ov iv wr => ∃ k : Nat, k ≤ 0 ∧ iv = .int .i64 (k : Int) ∧ wr.ownsRow w.heap.size 9 1 ov (P.length + k) (strc (P.reverse ++ ([] : List ByteArray).take k)) ∧ Below w.heap.size w wr) (fun _ iv _ => 0 - (intOf iv).toNat)
    case atStart => exact ⟨0, Nat.zero_le _, rfl, HO2.out, hbr⟩
    case round =>
      clear HO2 hbr
      obtain ⟨k, hk, rfl, hown, hbr⟩ := hrel
      have HO : Hid (wr.ownsRow w.heap.size 9 1 u7 (P.length + k) (strc (P.reverse ++ ([] : List ByteArray).take k))) := hown
      clear hown
      obtain rfl : k = 0 := by omega
      have HO3 : Hid (wr.ownsRow w.heap.size 9 1 u7 (P.length + 0) (strc (P.reverse ++ []))) := by
        have := HO.out
        exact this
      clear HO
      go_wp2_with fail
      go_ret2
      exact ⟨_, rfl, HO3.out, hbr⟩

set_option maxRecDepth 100000 in
set_option maxHeartbeats 1000000 in
theorem top_ns (w : World) (B gS gL gD gB : Nat) (gq cq : Nat) (Q : List ByteArray) (ln : Int) (hQ : Q.length ≤ 1048576) (hm : Mem w B gS gL gD gB (.slice none 0 0) (.slice (some ⟨gq, 0, none⟩) Q.length cq) [] Q ln) :
    Calls Try.prog 9 #[.pointer (some ⟨gS, 0, none⟩)] w fun e w' => ∃ v, e = .returned (.tuple #[v, .bool true]) ∧ w'.ownsRow w.heap.size 9 1 v (0 + Q.length) (strc (([] : List ByteArray).reverse ++ Q)) ∧ Below w.heap.size w w' := by
  obtain ⟨i9, hi9, hz0, hz1, hz2⟩ := info_parts info9
  have HM : Hid (Mem w B gS gL gD gB (.slice none 0 0) (.slice (some ⟨gq, 0, none⟩) Q.length cq) [] Q ln) := hm
  clear hm
  go_enter Try.func9, Try.ntmps9
  go_wp2_with fail
  refine (buffers_any _ B gS gL gD gB _ _ _ ln ⟨_, _, HM.out, rfl⟩).mono ?_
  rintro e w1 ⟨rfl, q1, rfl⟩
  go_wp2_with fail
  refine (pushed_any _ B gS gL gD gB _ _ _ _ ln (by exact HM.out.below (below_drewN (Below.refl _ _) _))).mono ?_
  rintro e w2 ⟨rfl, q2, rfl⟩
  go_wp2_with fail
  refine (queued_any _ B gS gL gD gB _ _ _ _ ln (by exact HM.out.below (below_drewN (Below.refl _ _) _))).mono ?_
  rintro e w3 ⟨rfl, q3, rfl⟩
  go_wp2_with fail
  refine (head_any _ B gS gL gD gB _ _ _ _ ln (by exact HM.out.below (below_drewN (Below.refl _ _) _))).mono ?_
  rintro e w4 ⟨rfl, q4, rfl⟩
  go_wp2_with fail
  -- STOPA
  go_loopw [7, 8] (fun ov iv wr => ∃ j : Nat, j ≤ 0 ∧ iv = .int .i64 ((j : Int) - 1) ∧ wr.ownsRow w.heap.size 9 1 ov (0 - j) (strc (([] : List ByteArray).reverse.take (0 - j))) ∧ Below w.heap.size w wr) (fun _ iv _ => (intOf iv + 1).toNat)
  case atStart => exact ⟨0, Nat.le_refl _, by first | rfl | go_num, by simpa [strc] using World.ownsRow_nil _ _ 9 1, below_drewN (Below.refl _ _) _⟩
  case round =>
    obtain ⟨j, hj, rfl, hown, hbr⟩ := hrel
    have HO : Hid (wr.ownsRow w.heap.size 9 1 u7 (0 - j) (strc (([] : List ByteArray).reverse.take (0 - j)))) := hown
    clear hown
    obtain rfl : j = 0 := by omega
    have HO2 : Hid (wr.ownsRow w.heap.size 9 1 u7 (0 + 0) (strc (([] : List ByteArray).reverse ++ Q.take 0))) := by
      have := HO.out
      rw [Nat.sub_zero, List.take_of_length_le (by simp)] at this
      unfold Hid
      simpa using this
    clear HO
    go_wp2_with fail
    -- STOPB
    go_loopw [7, 9] (fun ov iv wr => ∃ k : Nat, k ≤ Q.length ∧ iv = .int .i64 (k : Int) ∧ wr.ownsRow w.heap.size 9 1 ov (0 + k) (strc (([] : List ByteArray).reverse ++ Q.take k)) ∧ Below w.heap.size w wr) (fun _ iv _ => Q.length - (intOf iv).toNat)
    case atStart => exact ⟨0, Nat.zero_le _, rfl, HO2.out, hbr⟩
    case round =>
      clear HO2 hbr
      obtain ⟨k, hk, rfl, hown, hbr⟩ := hrel
      have HO : Hid (wr.ownsRow w.heap.size 9 1 u7 (0 + k) (strc (([] : List ByteArray).reverse ++ Q.take k))) := hown
      clear hown
      by_cases hlt : k < Q.length
      · have hc := cell_below hbr (owns_strs HM.out.Q' k hlt)
        have HT : Hid (([] : List ByteArray).reverse ++ Q.take (k + 1) = (([] : List ByteArray).reverse ++ Q.take k) ++ [Q.getD k ByteArray.empty]) := show _ = _ by rw [take_snoc Q k hlt, List.append_assoc]
        generalize Q.getD k ByteArray.empty = s at *
        go_wp2_with (at_builtin; refine wpList_append_own _ rfl _ _ 22 rfl w.heap.size 9 i9 (.string ByteArray.empty) 1 16 Try.underlying22 hi9 hz0 hz1 hz2 rfl (by decide) _ _ _ rfl (HO.out.alloc _) ⟨wr.heap.size, 0, none⟩ 1 1 [.string s] rfl rfl (World.news_of_block (heap_alloc_new _ _)) ?ha2 ?hb2 ?hc2 ?hd2 ?_)
        case ha2 => intro u hu; simp at hu; subst hu; rfl
        case hb2 => unfold maxLen; omega
        case hc2 => omega
        case hd2 => have := hbr.size; simp; omega
        intro v' w1 hown' hgrow _
        have HO1 : Hid (w1.ownsRow w.heap.size 9 1 v' (0 + (k + 1)) (strc (([] : List ByteArray).reverse ++ Q.take (k + 1)))) := by
          rw [HT.out, strc_snoc]
          unfold Hid
          simpa using hown'
        have HB1 : Hid (Below w.heap.size w w1) := (hbr.alloc hbr.size _).grown hgrow (by have := hbr.size; simp; omega) (fun x hx => (HO.out.lt x hx).1)
        clear hown' hgrow hbr hc
        go_wp2_with fail
        go_roundw
        case rel => first | exact ⟨k + 1, by omega, by go_num, HO1.out, HB1.out⟩ | ((repeat apply Exists.intro); refine ⟨⟨k + 1, by omega, ?_, HO1.out, HB1.out⟩, rfl⟩; go_num)
        case measure => simp [intOf] <;> omega
      obtain rfl : k = Q.length := by omega
      have HO3 : Hid (wr.ownsRow w.heap.size 9 1 u7 (0 + Q.length) (strc (([] : List ByteArray).reverse ++ Q))) := by
        have := HO.out
        rw [List.take_length] at this
        exact this
      clear HO
      go_wp2_with fail
      go_ret2
      exact ⟨_, rfl, HO3.out, hbr⟩

set_option maxRecDepth 100000 in
set_option maxHeartbeats 1000000 in
theorem top_nn (w : World) (B gS gL gD gB : Nat) (ln : Int) (hm : Mem w B gS gL gD gB (.slice none 0 0) (.slice none 0 0) [] [] ln) :
    Calls Try.prog 9 #[.pointer (some ⟨gS, 0, none⟩)] w fun e w' => ∃ v, e = .returned (.tuple #[v, .bool true]) ∧ w'.ownsRow w.heap.size 9 1 v (0 + 0) (strc (([] : List ByteArray).reverse ++ [])) ∧ Below w.heap.size w w' := by
  obtain ⟨i9, hi9, hz0, hz1, hz2⟩ := info_parts info9
  have HM : Hid (Mem w B gS gL gD gB (.slice none 0 0) (.slice none 0 0) [] [] ln) := hm
  clear hm
  go_enter Try.func9, Try.ntmps9
  go_wp2_with fail
  refine (buffers_any _ B gS gL gD gB _ _ _ ln ⟨_, _, HM.out, rfl⟩).mono ?_
  rintro e w1 ⟨rfl, q1, rfl⟩
  go_wp2_with fail
  refine (pushed_any _ B gS gL gD gB _ _ _ _ ln (by exact HM.out.below (below_drewN (Below.refl _ _) _))).mono ?_
  rintro e w2 ⟨rfl, q2, rfl⟩
  go_wp2_with fail
  refine (queued_any _ B gS gL gD gB _ _ _ _ ln (by exact HM.out.below (below_drewN (Below.refl _ _) _))).mono ?_
  rintro e w3 ⟨rfl, q3, rfl⟩
  go_wp2_with fail
  refine (head_any _ B gS gL gD gB _ _ _ _ ln (by exact HM.out.below (below_drewN (Below.refl _ _) _))).mono ?_
  rintro e w4 ⟨rfl, q4, rfl⟩
  go_wp2_with fail
  -- STOPA
  go_loopw [7, 8] (fun ov iv wr => ∃ j : Nat, j ≤ 0 ∧ iv = .int .i64 ((j : Int) - 1) ∧ wr.ownsRow w.heap.size 9 1 ov (0 - j) (strc (([] : List ByteArray).reverse.take (0 - j))) ∧ Below w.heap.size w wr) (fun _ iv _ => (intOf iv + 1).toNat)
  case atStart => exact ⟨0, Nat.le_refl _, by first | rfl | go_num, by simpa [strc] using World.ownsRow_nil _ _ 9 1, below_drewN (Below.refl _ _) _⟩
  case round =>
    obtain ⟨j, hj, rfl, hown, hbr⟩ := hrel
    have HO : Hid (wr.ownsRow w.heap.size 9 1 u7 (0 - j) (strc (([] : List ByteArray).reverse.take (0 - j)))) := hown
    clear hown
    obtain rfl : j = 0 := by omega
    have HO2 : Hid (wr.ownsRow w.heap.size 9 1 u7 (0 + 0) (strc (([] : List ByteArray).reverse ++ ([] : List ByteArray).take 0))) := by
      have := HO.out
      rw [Nat.sub_zero, List.take_of_length_le (by simp)] at this
      unfold Hid
      simpa using this
    clear HO
    go_wp2_with fail
    -- STOPB
    go_loopw [7, 9] (fun ov iv wr => ∃ k : Nat, k ≤ 0 ∧ iv = .int .i64 (k : Int) ∧ wr.ownsRow w.heap.size 9 1 ov (0 + k) (strc (([] : List ByteArray).reverse ++ ([] : List ByteArray).take k)) ∧ Below w.heap.size w wr) (fun _ iv _ => 0 - (intOf iv).toNat)
    case atStart => exact ⟨0, Nat.zero_le _, rfl, HO2.out, hbr⟩
    case round =>
      clear HO2 hbr
      obtain ⟨k, hk, rfl, hown, hbr⟩ := hrel
      have HO : Hid (wr.ownsRow w.heap.size 9 1 u7 (0 + k) (strc (([] : List ByteArray).reverse ++ ([] : List ByteArray).take k))) := hown
      clear hown
      obtain rfl : k = 0 := by omega
      have HO3 : Hid (wr.ownsRow w.heap.size 9 1 u7 (0 + 0) (strc (([] : List ByteArray).reverse ++ []))) := by
        have := HO.out
        exact this
      clear HO
      go_wp2_with fail
      go_ret2
      exact ⟨_, rfl, HO3.out, hbr⟩

theorem top_any (w : World) (B gS gL gD gB : Nat) (own : Nat → Prop) (P Q : List ByteArray) (ln : Int) (hP : P.length ≤ 1048576) (hQ : Q.length ≤ 1048576) (h : StackSt w B gS gL gD gB own P Q ln) :
    Calls Try.prog 9 #[.pointer (some ⟨gS, 0, none⟩)] w fun e w' => ∃ v, e = .returned (.tuple #[v, .bool true]) ∧ w'.ownsRow w.heap.size 9 1 v (P.length + Q.length) (strc (P.reverse ++ Q)) ∧ Below w.heap.size w w' := by
  obtain ⟨vp, vq, hm, _⟩ := h
  rcases own_form hm.P' with ⟨rfl, e⟩ | ⟨gp, cp, rfl⟩
  · obtain rfl : P = [] := List.eq_nil_of_length_eq_zero e
    rcases own_form hm.Q' with ⟨rfl, e⟩ | ⟨gq, cq, rfl⟩
    · obtain rfl : Q = [] := List.eq_nil_of_length_eq_zero e
      exact top_nn w B gS gL gD gB ln hm
    · exact top_ns w B gS gL gD gB gq cq Q ln hQ hm
  · rcases own_form hm.Q' with ⟨rfl, e⟩ | ⟨gq, cq, rfl⟩
    · obtain rfl : Q = [] := List.eq_nil_of_length_eq_zero e
      exact top_sn w B gS gL gD gB gp cp P ln hP hm
    · exact top_ss w B gS gL gD gB gp cp P gq cq Q ln hP hQ hm

end Go.Proofs.Qxb6615703a.st
