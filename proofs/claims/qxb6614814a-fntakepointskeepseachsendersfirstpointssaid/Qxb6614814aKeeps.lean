import Derived.Test.Qxb6614814aKeepParts
namespace Go.Proofs.Qxb6614814a.keepu
open Go.ChangeShapes Go.WideShapes Go.ChangeAt Go.RowKit
open Go.Proofs.Qxb6614814a.byt Go.Proofs.Qxb6614814a.node
set_option linter.unusedVariables false

set_option maxRecDepth 100000 in
set_option maxHeartbeats 1000000 in
theorem out_some (w : World) (n : Int) (b off len cap : Nat) (G : Nat → Int) (A : Nat → Option Addr) (L C : Nat → Nat) (Z : Nat → Nat → Int) (hlen : len ≤ 9223372036854775807) (hL : ∀ i, i < len → L i ≤ 9223372036854775807) (h : rowC w b off len G A L C Z)
    (hn : ¬ (1 ≤ n ∧ n ≤ 65536) ∨ ¬ len ≤ 4096) :
    Calls Try.prog 4 #[.int .i64 n, .slice (some ⟨b, off, none⟩) len cap] w fun e w' => e = .returned (.bool true) ∧ Below w.heap.size w w' := by
  have H : Hid (rowC w b off len G A L C Z) := h
  have HL : Hid (∀ i, i < len → L i ≤ 9223372036854775807) := hL
  clear h hL
  go_enter Try.func4, Try.ntmps4
  go_wp2_with fail
  refine (bytesK_some _ n b off len cap G A L C Z hlen HL.out H.out).mono ?_
  rintro e w1 ⟨rfl, rfl | ⟨rfl, hL⟩⟩
  · go_wp2_with fail
    go_ret
    exact ⟨rfl, Below.refl _ _⟩
  have HL2 : Hid (∀ i, i < len → L i ≤ 1048576) := hL
  clear hL
  by_cases hlen2 : len ≤ 4096
  · replace hn : ¬ (1 ≤ n ∧ n ≤ 65536) := by rcases hn with h | h; exact h; exact absurd hlen2 h
    go_wp2_with fail
    go_loop [5, 6] (fun t i => ∃ k T : Nat, k ≤ len ∧ T ≤ 1048576 ∧ i = .int .i64 (k : Int) ∧ t = .int .i64 (T : Int)) (fun _ i => len - (intOf i).toNat)
    case atStart => exact ⟨0, 0, Nat.zero_le _, by omega, rfl, rfl⟩
    case round =>
      obtain ⟨k, T, hk, hT, rfl, rfl⟩ := hrel
      by_cases hlt : k < len
      · have hc1 := (H.out k hlt).2.1
        have hLk := HL2.out k hlt
        by_cases hb : T + (16 + L k) ≤ 1048576
        · go_wp2
          go_round
          case rel => exact ⟨k + 1, T + (16 + L k), by omega, by omega, by go_num, by go_num⟩
          case measure => simp [intOf]; omega
        · go_wp2
          go_ret
          exact ⟨rfl, Below.refl _ _⟩
      · by_cases h1 : n < 1
        · have hd1 : decide (n < 1) = true := decide_eq_true h1
          go_wp2
          go_ret
          exact ⟨rfl, Below.refl _ _⟩
        · have hd1 : decide (n < 1) = false := decide_eq_false h1
          have hd2 : decide (65536 < n) = true := decide_eq_true (by omega)
          go_wp2
          go_ret
          exact ⟨rfl, Below.refl _ _⟩
  · go_wp2_with fail
    go_ret
    exact ⟨rfl, Below.refl _ _⟩

set_option maxRecDepth 100000 in
set_option maxHeartbeats 4000000 in
theorem in_some (w : World) (n : Nat) (b off len cap : Nat) (G : Nat → Int) (A : Nat → Option Addr) (L C : Nat → Nat) (Z : Nat → Nat → Int) (h0 : 0 < len) (hlen : len ≤ 4096) (hL : ∀ i, i < len → L i ≤ 9223372036854775807) (h : rowC w b off len G A L C Z)
    (hn1 : 1 ≤ n) (hn2 : n ≤ 65536) :
    Calls Try.prog 4 #[.int .i64 (n : Int), .slice (some ⟨b, off, none⟩) len cap] w fun e w' => e = .returned (.bool true) ∧ Below w.heap.size w w' := by
  have H : Hid (rowC w b off len G A L C Z) := h
  have HL : Hid (∀ i, i < len → L i ≤ 9223372036854775807) := hL
  clear h hL
  go_enter Try.func4, Try.ntmps4
  go_wp2_with fail
  refine (bytesK_some _ n b off len cap G A L C Z (by omega) HL.out H.out).mono ?_
  rintro e w1 ⟨rfl, rfl | ⟨rfl, hL⟩⟩
  · go_wp2_with fail
    go_ret
    exact ⟨rfl, Below.refl _ _⟩
  have HL2 : Hid (∀ i, i < len → L i ≤ 1048576) := hL
  clear hL
  go_wp2_with fail
  go_loop [5, 6] (fun t i => ∃ k T : Nat, k ≤ len ∧ T ≤ 1048576 ∧ i = .int .i64 (k : Int) ∧ t = .int .i64 (T : Int)) (fun _ i => len - (intOf i).toNat)
  case atStart => exact ⟨0, 0, Nat.zero_le _, by omega, rfl, rfl⟩
  case round =>
    obtain ⟨k, T, hk, hT, rfl, rfl⟩ := hrel
    by_cases hlt : k < len
    · have hc1 := (H.out k hlt).2.1
      have hLk := HL2.out k hlt
      by_cases hb : T + (16 + L k) ≤ 1048576
      · go_wp2
        go_round
        case rel => exact ⟨k + 1, T + (16 + L k), by omega, by omega, by go_num, by go_num⟩
        case measure => simp [intOf]; omega
      · go_wp2
        go_ret
        exact ⟨rfl, Below.refl _ _⟩
    obtain rfl : k = len := by omega
    clear hk hlt
    have hd1 : decide ((n : Int) < 1) = false := decide_eq_false (by omega)
    have hd2 : decide (65536 < (n : Int)) = false := decide_eq_false (by omega)
    go_wp2_with fail
    clear hd1 hd2
    go_loop [7] (fun i => ∃ j : Nat, j ≤ k ∧ i = .int .i64 (j : Int) ∧ ∀ l, l < j → 1 ≤ G l ∧ G l ≤ n) (fun i => k - (intOf i).toNat)
    case atStart => exact ⟨0, Nat.zero_le _, rfl, fun l hl => absurd hl (Nat.not_lt_zero _)⟩
    case round =>
      obtain ⟨j, hj, rfl, hall⟩ := hrel
      have HA : Hid (∀ l, l < j → 1 ≤ G l ∧ G l ≤ n) := hall
      clear hall
      by_cases hlt : j < k
      · have hc1 := (H.out j hlt).1
        by_cases ha : G j < 1
        · have hda : decide (G j < 1) = true := decide_eq_true ha
          go_wp2
          go_ret
          exact ⟨rfl, Below.refl _ _⟩
        · have hda : decide (G j < 1) = false := decide_eq_false ha
          by_cases hb : (n : Int) < G j
          · go_wp2
            go_ret
            exact ⟨rfl, Below.refl _ _⟩
          · go_wp2
            go_round
            case rel => exact ⟨j + 1, by omega, by go_num, fun l hl => by rcases Nat.lt_succ_iff_lt_or_eq.1 hl with h | rfl; exact HA.out l h; omega⟩
            case measure => simp [intOf]; omega
      obtain rfl : j = k := by omega
      clear hj hlt
      -- every sender is one of the nodes
      obtain ⟨F, hF⟩ : ∃ F : Nat → Nat, ∀ i, i < j → G i = (F i : Int) + 1 ∧ F i < n := ⟨fun i => (G i - 1).toNat, fun i hi => by have := HA.out i hi; dsimp only; omega⟩
      have HF : Hid (∀ i, i < j → F i < n) := fun i hi => (hF i hi).2
      have H2 : Hid (rowC w b off j (fun i => (F i : Int) + 1) A L C Z) := fun i hi => by have := H.out i hi; rwa [(hF i hi).1] at this
      clear hF H HA HL
      go_wp2_with fail
      refine (copy_some _ b off j cap _ A L C Z h0 hlen HL2.out H2.out).mono ?_
      rintro e w1 ⟨rfl, ⟨A1, C1, hr1⟩, hb1⟩
      clear H2
      go_wp2_with fail
      refine (copy_some _ w.heap.size 0 j j _ A1 L C1 Z h0 hlen HL2.out hr1).mono ?_
      rintro e w2 ⟨rfl, ⟨A2, C2, hr2⟩, hb2⟩
      replace hr1 := hr1.below hb2
      have hB2 := hb1.trans (hb2.mono hb1.size)
      clear hb1 hb2
      generalize w1.heap.size = g2 at *
      generalize hg1 : w.heap.size = g1 at *
      go_wp2_with fail
      --STOP1
      refine (new_any _ n _ false false).mono ?_
      rintro e w5 ⟨rfl, hNf, hb5⟩
      have hBd : g1 ≤ w2.heap.size := by have := hB2.size; omega
      have hK0 : nodeK w5 w2.heap.size w2.heap.size n F A1 L C1 (kept F L 0) := by
        unfold nodeK
        simpa [kept, memb_nil, cols] using hNf
      clear hNf
      generalize hgf : w2.heap.size = gf at *
      have HGF : Hid (w2.heap.size = gf) := hgf
      clear hgf
      have HR1 : Hid (rowC w2 g1 0 j (fun i => (F i : Int) + 1) A1 L C1 Z) := hr1
      have HR2 : Hid (rowC w2 g2 0 j (fun i => (F i : Int) + 1) A2 L C2 Z) := hr2
      clear hr1 hr2
      go_wp2_with fail
      go_loopw [10] (fun i wr => ∃ m : Nat, m ≤ j ∧ i = .int .i64 (m : Int) ∧ nodeK wr gf gf n F A1 L C1 (kept F L m) ∧ Below gf w2 wr) (fun i _ => j - (intOf i).toNat)
      case atStart => exact ⟨0, Nat.zero_le _, rfl, hK0, hb5⟩
      case round =>
        clear hK0 hb5
        obtain ⟨m, hm, rfl, hK, hbr⟩ := hrel
        have hbr' : Below w2.heap.size w2 wr := by rw [HGF.out]; exact hbr
        by_cases hlt : m < j
        · obtain ⟨c0, c1, _, _⟩ := HR1.out.below hbr' m hlt
          have hl1 : (m : Int) < (j : Int) := by omega
          have hl0 : (0 : Int) ≤ (m : Int) := by omega
          have hFm := HF.out m hlt
          have hKl := kept_le F L m
          have hg1f : g1 < gf := by rw [← HGF.out]; exact World.block_lt_of_cell? w2 _ (HR1.out m hlt).1
          have HK : Hid (nodeK wr gf gf n F A1 L C1 (kept F L m)) := hK
          simp only [Nat.zero_add] at c0 c1
          clear hbr' hK
          go_wp2_with fail
          go_region_held3 (fun w' => w'.cell? ⟨g1, m * 2, none⟩ = some (.int .i64 ((F m : Int) + 1)) ∧ w'.cell? ⟨g1, m * 2 + 1, none⟩ = some (.slice (A1 m) (L m) (C1 m))) (go_keep) ((go_at_call 16; refine (zztake_fresh _ gf gf n F A1 L C1 (kept F L m) m hn2 (by omega) hFm (by exact NodeSt.below HK.out (Below.refl _ _).drew)).mono ?_; rintro e w7 ⟨rfl, hK7, hb7⟩; have d0 : w7.cell? ⟨g1, m * 2, none⟩ = some (.int .i64 ((F m : Int) + 1)) := (hb7.cell hg1f).trans c0; have d1 : w7.cell? ⟨g1, m * 2 + 1, none⟩ = some (.slice (A1 m) (L m) (C1 m)) := (hb7.cell hg1f).trans c1))
          have HK7 : Hid (nodeK w7 gf gf n F A1 L C1 (kept F L (m + 1))) := hK7
          have HB7 : Hid (Below gf w2 w7) := hbr.trans ((Below.refl _ _).drew.trans hb7)
          clear hK7 hb7 d0 d1 c0 c1 hbr HK
          go_wp2_with fail
          go_roundw
          case rel => exact ⟨m + 1, by omega, by go_num, HK7.out, HB7.out⟩
          case measure => simp [intOf]; omega
        obtain rfl : m = j := by omega
        clear hm hlt
        have HKf : Hid (nodeK wr gf gf n F A1 L C1 (kept F L m)) := hK
        have HRA : Hid (rowC wr g1 0 m (fun i => (F i : Int) + 1) A1 L C1 Z) := HR1.out.below hbr'
        have HRB : Hid (rowC wr g2 0 m (fun i => (F i : Int) + 1) A2 L C2 Z) := HR2.out.below hbr'
        have HBf : Hid (Below g1 w wr) := hB2.trans (hbr.mono hBd)
        have hwrs : g1 ≤ wr.heap.size := by have := HBf.out.size; omega
        clear hK hbr hbr' HR1 HR2 hB2 HGF
        obtain ⟨wc, rfl⟩ : ∃ wc : World, wc = wr := ⟨_, rfl⟩
        obtain ⟨i3, hi3, hz0, hz1, hz2⟩ := info_parts info3
        go_wp2_with (at_make; refine wpList_make_own _ rfl _ _ 40 rfl wc.heap.size 3 i3 (.int .i64 0) 1 Try.underlying40 hi3 hz0 hz1 .i64 .i64 _ m rfl rfl rfl (by rw [hz2]; omega) (by unfold maxLen; omega) (Nat.le_refl _) ?_; intro w6 hown hgrow)
        --STOP2
        have hB6 : Below wc.heap.size wc w6 := (Below.refl _ _).grown hgrow (Nat.le_refl _) (fun k hk => by simp at hk)
        clear hgrow
        generalize hgk : wc.heap.size = gk at *
        have HGK : Hid (wc.heap.size = gk) := hgk
        clear hgk
        have HOWN : Hid (w6.ownsRow gk 3 1 (.slice (some ⟨gk, 0, none⟩) 0 m) 0 []) := hown
        clear hown
        go_loopw [11, 12] (fun kv iv wr => ∃ i : Nat, i ≤ m ∧ iv = .int .i64 (i : Int) ∧ kv = .slice (some ⟨gk, 0, none⟩) (kept F L i).length m ∧ wr.ownsRow gk 3 1 (.slice (some ⟨gk, 0, none⟩) (kept F L i).length m) (kept F L i).length (intc (kept F L i)) ∧ Below gk wc wr) (fun _ iv _ => m - (intOf iv).toNat)
        case atStart => exact ⟨0, Nat.zero_le _, rfl, rfl, HOWN.out, hB6⟩
        case round =>
          clear HOWN hB6
          obtain ⟨i, hi, rfl, rfl, hown, hbr⟩ := hrel
          have hbr' : Below wc.heap.size wc wr := by rw [HGK.out]; exact hbr
          have HO : Hid (wr.ownsRow gk 3 1 (.slice (some ⟨gk, 0, none⟩) (kept F L i).length m) (kept F L i).length (intc (kept F L i))) := hown
          have hKl := kept_le F L i
          clear hown
          by_cases hlt : i < m
          · obtain ⟨c0, c1, _, _⟩ := HRB.out.below hbr' i hlt
            simp only [Nat.zero_add] at c0 c1
            by_cases hz : L i = 0
            · have hd : ((L i : Int) == 0) = true := by rw [hz]; rfl
              have HE : Hid (kept F L (i + 1) = kept F L i) := kept_zero F L i hz
              go_wp2_with fail
              go_roundw
              case rel => exact ⟨i + 1, by omega, by go_num, by rw [HE.out], by rw [HE.out]; exact HO.out, hbr⟩
              case measure => simp [intOf]; omega
            have hd : ((L i : Int) == 0) = false := beq_eq_false_iff_ne.2 (by omega)
            obtain ⟨wo, rfl⟩ : ∃ wo : World, wo = wr := ⟨_, rfl⟩
            have HW : Hid (rowC wo g2 0 m (fun i => (F i : Int) + 1) A2 L C2 Z) := HRB.out.below hbr'
            go_wp2_with fail
            --STOP3
            go_loopw [13, 14] (fun fv jv wr => fv = .bool true ∧ ∃ x : Nat, x ≤ i ∧ jv = .int .i64 (x : Int) ∧ (∀ y, y < x → ¬ (F y = F i ∧ 0 < L y)) ∧ ∃ q, wr = wo.drewN q) (fun _ jv _ => i - (intOf jv).toNat)
            case atStart => exact ⟨rfl, 0, Nat.zero_le _, rfl, fun y hy => absurd hy (Nat.not_lt_zero _), 0, rfl⟩
            case round =>
              obtain ⟨rfl, x, hx, rfl, hall, q, rfl⟩ := hrel
              have HA : Hid (∀ y, y < x → ¬ (F y = F i ∧ 0 < L y)) := hall
              clear hall
              by_cases hxl : x < i
              · obtain ⟨e0, e1, _, _⟩ := HW.out x (by omega)
                simp only [Nat.zero_add] at e0 e1
                have k1 : (x : Int) < (m : Int) := by omega
                have k0 : (0 : Int) ≤ (x : Int) := by omega
                have k3 : (i : Int) < (m : Int) := by omega
                have k2 : (0 : Int) ≤ (i : Int) := by omega
                by_cases hf : F x = F i
                · by_cases hp : 0 < L x
                  · have HE : Hid (kept F L (i + 1) = kept F L i) := kept_seen F L i x hxl hp hf
                    have hb1 : ((F x : Int) + 1 == (F i : Int) + 1) = true := by rw [hf]; simp
                    have hb2 : decide ((0 : Int) < (L x : Int)) = true := decide_eq_true (by omega)
                    go_wp2_with fail
                    go_quiet (fail)
                    go_wp2_with fail
                    --STOP4
                    go_roundw
                    case rel => exact ⟨i + 1, by omega, by go_num, by rw [HE.out], by rw [HE.out]; exact owns_of_block HO.out (fun _ _ => rfl), below_drewN hbr _⟩
                    case measure => simp [intOf]; omega
                  · have HV : Hid (¬ (F x = F i ∧ 0 < L x)) := fun e => hp e.2
                    have hb1 : ((F x : Int) + 1 == (F i : Int) + 1) = true := by rw [hf]; simp
                    have hb2 : decide ((0 : Int) < (L x : Int)) = false := decide_eq_false (by omega)
                    clear hf
                    go_wp2_with fail
                    go_quiet (fail)
                    go_wp2_with fail
                    go_roundw
                    case rel => exact ⟨rfl, x + 1, by omega, by go_num, fun y hy => by rcases Nat.lt_succ_iff_lt_or_eq.1 hy with h | rfl; exact HA.out y h; exact HV.out, _, rfl⟩
                    case measure => simp [intOf]; omega
                · have HV : Hid (¬ (F x = F i ∧ 0 < L x)) := fun e => hf e.1
                  have hb1 : ((F x : Int) + 1 == (F i : Int) + 1) = false := beq_eq_false_iff_ne.2 (by omega)
                  go_wp2_with fail
                  go_quiet (fail)
                  go_wp2_with fail
                  go_roundw
                  case rel => exact ⟨rfl, x + 1, by omega, by go_num, fun y hy => by rcases Nat.lt_succ_iff_lt_or_eq.1 hy with h | rfl; exact HA.out y h; exact HV.out, _, rfl⟩
                  case measure => simp [intOf]; omega
              obtain rfl : x = i := by omega
              clear hx hxl
              have HE : Hid (kept F L (x + 1) = kept F L x ++ [x]) := kept_new F L x hz HA.out
              have hcap : (kept F L x).length + 1 ≤ m := by omega
              have hown2 : (wo.drewN q).ownsRow gk 3 1 (.slice (some ⟨gk, 0, none⟩) (kept F L x).length m) (kept F L x).length (intc (kept F L x)) := owns_of_block HO.out (fun _ _ => rfl)
              have HOW2 : Hid ((wo.drewN q).ownsRow gk 3 1 (.slice (some ⟨gk, 0, none⟩) (kept F L x).length m) (kept F L x).length (intc (kept F L x))) := hown2
              clear hown2
              go_wp2_with (at_builtin; refine wpList_append_fits _ rfl _ _ 40 rfl gk 3 i3 1 Try.underlying40 hi3 hz1 gk (kept F L x).length m (intc (kept F L x)) rfl (HOW2.out.alloc _) ⟨wo.heap.size, 0, none⟩ 1 1 [.int .i64 (x : Int)] rfl rfl (World.news_of_block (heap_alloc_new' _ _ _ rfl)) (by simp [Value.oneCell']) hcap ?_; intro w8 hown8 hgrow8)
              --STOP5
              have HO8 : Hid (w8.ownsRow gk 3 1 (.slice (some ⟨gk, 0, none⟩) (kept F L (x + 1)).length m) (kept F L (x + 1)).length (intc (kept F L (x + 1)))) := by
                rw [HE.out, intc_snoc]
                unfold Hid
                simpa using hown8
              have HB8 : Hid (Below gk wc w8) := ((below_drewN hbr q).alloc (by have := hbr.size; have := HGK.out; simp; omega) _).grown hgrow8 (by have := hbr.size; have := HGK.out; simp; omega) (fun k hk => by simp at hk; omega)
              clear hown8 hgrow8 HOW2 HO
              go_wp2_with fail
              go_roundw
              case rel => exact ⟨x + 1, by omega, by go_num, by rw [HE.out]; simp, HO8.out, HB8.out⟩
              case measure => simp [intOf]; omega
          obtain rfl : i = m := by omega
          clear hi hlt
          -- the two lists agree: compare them
          have HK2 : Hid (nodeK wr gf gf n F A1 L C1 (kept F L i)) := NodeSt.below HKf.out hbr'
          have HA2 : Hid (rowC wr g1 0 i (fun i => (F i : Int) + 1) A1 L C1 Z) := HRA.out.below hbr'
          have HW2 : Hid (rowC wr g2 0 i (fun i => (F i : Int) + 1) A2 L C2 Z) := HRB.out.below hbr'
          have HBB : Hid (Below g1 w wr) := HBf.out.trans (hbr.mono (by have := HGK.out; omega))
          have HC2 : Hid (∀ k, k < (kept F L i).length → wr.cell? ⟨gk, k, none⟩ = some (.int .i64 ((kept F L i).getD k 0 : Nat))) := fun k hk => owns_cells HO.out _ _ (intc_get _ k hk)
          have HLT : Hid (∀ k, k < (kept F L i).length → (kept F L i).getD k 0 < i) := fun k hk => getD_lt F L i k hk
          have hs1 : g1 ≤ wr.heap.size := by have := HBB.out.size; omega
          clear hbr hbr' HO HKf HRA HRB HBf HGK hwrs
          generalize kept F L i = K at *
          obtain ⟨wd, rfl⟩ : ∃ wd : World, wd = wr := ⟨_, rfl⟩
          have hne : ((K.length : Int) != (K.length : Int)) = false := by simp
          go_wp2_with fail
          refine (len_any _ gf gf n false false _ _ _ _ HK2.out).mono ?_
          rintro e w9 ⟨rfl, rfl⟩
          go_wp2_with fail
          --STOP6
          go_loopw [15] (fun kv wr => ∃ k : Nat, k ≤ K.length ∧ kv = .int .i64 (k : Int) ∧ ∃ q, wr = wd.drewN q) (fun kv _ => K.length - (intOf kv).toNat)
          case atStart => exact ⟨0, Nat.zero_le _, rfl, 0, rfl⟩
          case round =>
            obtain ⟨k, hk, rfl, q, rfl⟩ := hrel
            by_cases hlt : k < K.length
            · obtain ⟨x, hx⟩ : ∃ x, K.getD k 0 = x := ⟨_, rfl⟩
              have hck := HC2.out k hlt
              have hxl := HLT.out k hlt
              rw [hx] at hck hxl
              have HX : Hid (K.getD k 0 = x) := hx
              clear hx
              obtain ⟨_, cw, _, bw⟩ := HW2.out x hxl
              obtain ⟨_, _, _, ba⟩ := HA2.out x hxl
              have HBW : Hid (bytesAt wd (A2 x) (L x) (Z x)) := bw
              have HBA : Hid (bytesAt wd (A1 x) (L x) (Z x)) := ba
              clear bw ba
              simp only [Nat.zero_add] at cw
              have hLx := HL2.out x hxl
              have k1 : (x : Int) < (i : Int) := by omega
              have k0 : (0 : Int) ≤ (x : Int) := by omega
              have k3 : (k : Int) < (K.length : Int) := by omega
              have k2 : (0 : Int) ≤ (k : Int) := by omega
              have hq := fun w t e => run_neq_slice_nil_any (P := Try.prog) w t e none 0 0 0 0
              go_wp2_with fail
              go_region_held3 (fun w' => w'.cell? ⟨gk, k, none⟩ = some (.int .i64 (x : Int)) ∧ w'.cell? ⟨g2, x * 2 + 1, none⟩ = some (.slice (A2 x) (L x) (C2 x))) (go_keep) ((first | (go_at_call 18; refine (symbols_any _ gf gf n F A1 L C1 K k x HX.out hlt (by omega) (by exact NodeSt.below HK2.out (below_drewN (Below.refl _ _) _))).mono ?_; rintro e w7 ⟨rfl, hw7⟩; subst hw7) | (go_at_call 12; refine (same_some _ _ (L x) _ _ (Z x) _ hLx (by exact HBA.out.below (below_drewN (Below.refl _ _) _)) (by exact HBW.out.below (below_drewN (Below.refl _ _) _))).mono ?_; rintro e w7 ⟨rfl, q7, rfl⟩)))
              go_wp2_with fail
              refine (found_any _ gf gf n F A1 L C1 K k hlt (by omega) (NodeSt.below HK2.out (below_drewN (Below.refl _ _) _))).mono ?_
              rintro e w9 ⟨rfl, hw9⟩
              subst hw9
              go_wp2_with fail
              go_roundw
              case rel => exact ⟨k + 1, by omega, by go_num, _, rfl⟩
              case measure => simp [intOf]; omega
            obtain rfl : k = K.length := by omega
            clear hk hlt
            --STOP7
            have hbq : Below wd.heap.size wd (wd.drewN q) := below_drewN (Below.refl _ _) q
            have HK3 : Hid (nodeK (wd.drewN q) gf gf n F A1 L C1 K) := NodeSt.below HK2.out hbq
            have HW3 : Hid (rowC (wd.drewN q) g2 0 i (fun i => (F i : Int) + 1) A2 L C2 Z) := HW2.out.below hbq
            have HC3 : Hid (∀ k, k < K.length → (wd.drewN q).cell? ⟨gk, k, none⟩ = some (.int .i64 (K.getD k 0 : Nat))) := fun k hk => HC2.out k hk
            have HB3 : Hid (Below g1 w (wd.drewN q)) := below_drewN HBB.out q
            have hs3 : g1 ≤ (wd.drewN q).heap.size := hs1
            clear hbq HK2 HA2 HW2 HBB HC2 hs1
            generalize wd.drewN q = we at *
            have hmk := run_make_row' (P := Try.prog) 43 4 (.bool false) 1 Try.underlying43 info4 rfl .i64 .i64 n (by omega) (by omega)
            go_wp2_with fail
            refine (size_any _ gf gf n false false _ _ _ _ HK3.out).mono ?_
            rintro e w9 ⟨rfl, rfl⟩
            go_wp2_with fail
            clear hmk
            go_loopw [17] (fun kv wr => ∃ k : Nat, k ≤ K.length ∧ kv = .int .i64 (k : Int) ∧ wr.rowIs we.heap.size 4 n (fun y => .bool (memb F (K.take k) y)) ∧ Below we.heap.size we wr) (fun kv _ => K.length - (intOf kv).toNat)
            case atStart => exact ⟨0, Nat.zero_le _, rfl, (World.rowIs_made we (.bool false) n 4).congr (fun y hy => by simp [memb]), (Below.refl _ _).alloc (Nat.le_refl _) _⟩
            case round =>
              obtain ⟨k, hk, rfl, hrow, hbr⟩ := hrel
              by_cases hlt : k < K.length
              · obtain ⟨x, hx⟩ : ∃ x, K.getD k 0 = x := ⟨_, rfl⟩
                have hck := aids.cell_below hbr (HC3.out k hlt)
                have hxl := HLT.out k hlt
                rw [hx] at hck hxl
                obtain ⟨cw, _, _, _⟩ := HW3.out.below hbr x hxl
                simp only [Nat.zero_add] at cw
                have hFx := HF.out x hxl
                have t1 := hrow.cell hFx
                have f1 := hrow.frozen (F x)
                have HR : Hid ((wr.setCell ⟨we.heap.size, F x, none⟩ (.bool true)).rowIs we.heap.size 4 n (fun y => .bool (memb F (K.take (k + 1)) y))) := by
                  rw [memb_take F K k hlt, hx]
                  refine (hrow.set (F x) (.bool true)).congr fun y hy => ?_
                  by_cases e : y = F x <;> simp [ins, e]
                have HB : Hid (Below we.heap.size we (wr.setCell ⟨we.heap.size, F x, none⟩ (.bool true))) := hbr.setCell (Nat.le_refl _) _
                clear hrow hbr hx
                go_wp2_with fail
                go_roundw
                case rel => exact ⟨k + 1, by omega, by go_num, HR.out, HB.out⟩
                case measure => simp [intOf]; omega
              obtain rfl : k = K.length := by omega
              clear hk hlt
              rw [List.take_length] at hrow
              have HND : Hid (nodeK wr gf gf n F A1 L C1 K) := NodeSt.below HK3.out hbr
              have HBB : Hid (Below w.heap.size w wr) := by rw [hg1]; exact HB3.out.trans (hbr.mono hs3)
              have HROW : Hid (wr.rowIs we.heap.size 4 n (fun y => .bool (memb F K y))) := hrow
              clear hrow hbr HK3 HW3 HC3 HB3 hs3
              generalize we.heap.size = gm at *
              obtain ⟨wf, rfl⟩ : ∃ wf : World, wf = wr := ⟨_, rfl⟩
              obtain ⟨vi, vp, a1, a2, a3, a4⟩ := HND.out
              have c44 := a1.c44
              rcases a3 with ⟨rfl, hsz, _⟩ | ⟨gi, rfl, _, hin⟩
              · have hq := fun w t e => Lib.run_eql_slice_nil (P := Try.prog) w t e none 0 0 0 0
                have hz : ((K.length : Int) != 0) = false := by rw [hsz]; rfl
                clear a1 a4 hsz
                go_wp2_with fail
                refine (in_any _ gf none 0 0 c44).mono ?_
                rintro e w9 ⟨rfl, rfl⟩
                go_wp2_with fail
                refine (relayed_any _ gf gf n false false _ _ _ _ HND.out).mono ?_
                rintro e w9 ⟨rfl, rfl⟩
                go_wp2_with fail
                go_ret
                exact ⟨rfl, HBB.out⟩
              · have hq := fun w t e => Lib.run_eql_slice_nil (P := Try.prog) w t e (some ⟨gi, 0, none⟩) n n 0 0
                have hz : ((n : Int) != (n : Int)) = false := by simp
                have HIN : Hid (wf.rowIs gi 4 n (fun y => .bool (memb F K y))) := hin
                clear a1 a4 hin
                go_wp2_with fail
                refine (in_any _ gf _ n n c44).mono ?_
                rintro e w9 ⟨rfl, rfl⟩
                go_wp2_with fail
                --STOP8
                go_loopw [19] (fun iv wr => ∃ y : Nat, y ≤ n ∧ iv = .int .i64 (y : Int) ∧ ∃ q, wr = wf.drewN q) (fun iv _ => n - (intOf iv).toNat)
                case atStart => exact ⟨0, Nat.zero_le _, rfl, 0, rfl⟩
                case round =>
                  obtain ⟨y, hy, rfl, q, rfl⟩ := hrel
                  by_cases hlt : y < n
                  · have h1 := HIN.out.cell hlt
                    have h2 := HROW.out.cell hlt
                    generalize memb F K y = bb at h1 h2
                    have k1 : (y : Int) < (n : Int) := by omega
                    have k0 : (0 : Int) ≤ (y : Int) := by omega
                    have hbb : (bb != bb) = false := by simp
                    go_wp2_with fail
                    go_quiet (fail)
                    go_wp2_with fail
                    go_roundw
                    case rel => exact ⟨y + 1, by omega, by go_num, _, rfl⟩
                    case measure => simp [intOf]; omega
                  go_wp2_with fail
                  refine (relayed_any _ gf gf n false false _ _ _ _ (NodeSt.below HND.out (below_drewN (Below.refl _ _) _))).mono ?_
                  rintro e w9 ⟨rfl, rfl⟩
                  go_wp2_with fail
                  go_ret
                  exact ⟨rfl, below_drewN HBB.out _⟩

end Go.Proofs.Qxb6614814a.keepu
