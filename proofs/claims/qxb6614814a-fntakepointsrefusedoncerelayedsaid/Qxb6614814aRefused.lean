import Derived.Test.Qxb6614814aCopy
namespace Go.Proofs.Qxb6614814a.refu
open Go.ChangeShapes Go.WideShapes Go.ChangeAt Go.RowKit
open Go.Proofs.Qxb6614814a.byt Go.Proofs.Qxb6614814a.node
set_option linter.unusedVariables false

set_option maxRecDepth 100000 in
set_option maxHeartbeats 1000000 in
theorem out_some (w : World) (n : Int) (b off len cap : Nat) (G : Nat → Int) (A : Nat → Option Addr) (L C : Nat → Nat) (Z : Nat → Nat → Int) (hlen : len ≤ 9223372036854775807) (hL : ∀ i, i < len → L i ≤ 9223372036854775807) (h : rowC w b off len G A L C Z)
    (hn : ¬ (1 ≤ n ∧ n ≤ 65536) ∨ ¬ len ≤ 4096) :
    Calls Try.prog 6 #[.int .i64 n, .slice (some ⟨b, off, none⟩) len cap] w fun e w' => e = .returned (.bool true) ∧ Below w.heap.size w w' := by
  have H : Hid (rowC w b off len G A L C Z) := h
  have HL : Hid (∀ i, i < len → L i ≤ 9223372036854775807) := hL
  clear h hL
  go_enter Try.func6, Try.ntmps6
  go_wp2_with fail
  refine (bytesR_some _ n b off len cap G A L C Z hlen HL.out H.out).mono ?_
  rintro e w1 ⟨rfl, rfl | ⟨rfl, hL⟩⟩
  · go_wp2_with fail
    go_ret
    exact ⟨rfl, Below.refl _ _⟩
  have HL2 : Hid (∀ i, i < len → L i ≤ 1048576) := hL
  clear hL
  by_cases hlen2 : len ≤ 4096
  · replace hn : ¬ (1 ≤ n ∧ n ≤ 65536) := by rcases hn with h | h; exact h; exact absurd hlen2 h
    go_wp2_with fail
    go_loop [5, 6] (fun t i => ∃ k T : Nat, k ≤ len ∧ T ≤ 1048576 ∧ i = .int .i64 (k : Int) ∧ t = .int .i64 (T : Int)) (fun _ i => len - (intOf i).toNat)
    case atStart => exact ⟨0, 0, Nat.zero_le _, by omega, rfl, rfl⟩
    case round =>
      obtain ⟨k, T, hk, hT, rfl, rfl⟩ := hrel
      by_cases hlt : k < len
      · have hc1 := (H.out k hlt).2.1
        have hLk := HL2.out k hlt
        by_cases hb : T + (16 + L k) ≤ 1048576
        · go_wp2
          go_round
          case rel => exact ⟨k + 1, T + (16 + L k), by omega, by omega, by go_num, by go_num⟩
          case measure => simp [intOf]; omega
        · go_wp2
          go_ret
          exact ⟨rfl, Below.refl _ _⟩
      · by_cases h1 : n < 1
        · have hd1 : decide (n < 1) = true := decide_eq_true h1
          go_wp2
          go_ret
          exact ⟨rfl, Below.refl _ _⟩
        · have hd1 : decide (n < 1) = false := decide_eq_false h1
          have hd2 : decide (65536 < n) = true := decide_eq_true (by omega)
          go_wp2
          go_ret
          exact ⟨rfl, Below.refl _ _⟩
  · go_wp2_with fail
    go_ret
    exact ⟨rfl, Below.refl _ _⟩

set_option maxRecDepth 100000 in
set_option maxHeartbeats 4000000 in
theorem in_some (w : World) (n : Nat) (b off len cap : Nat) (G : Nat → Int) (A : Nat → Option Addr) (L C : Nat → Nat) (Z : Nat → Nat → Int) (h0 : 0 < len) (hlen : len ≤ 4096) (hL : ∀ i, i < len → L i ≤ 9223372036854775807) (h : rowC w b off len G A L C Z)
    (hn1 : 1 ≤ n) (hn2 : n ≤ 65536) :
    Calls Try.prog 6 #[.int .i64 (n : Int), .slice (some ⟨b, off, none⟩) len cap] w fun e w' => e = .returned (.bool true) ∧ Below w.heap.size w w' := by
  have H : Hid (rowC w b off len G A L C Z) := h
  have HL : Hid (∀ i, i < len → L i ≤ 9223372036854775807) := hL
  clear h hL
  go_enter Try.func6, Try.ntmps6
  go_wp2_with fail
  refine (bytesR_some _ n b off len cap G A L C Z (by omega) HL.out H.out).mono ?_
  rintro e w1 ⟨rfl, rfl | ⟨rfl, hL⟩⟩
  · go_wp2_with fail
    go_ret
    exact ⟨rfl, Below.refl _ _⟩
  have HL2 : Hid (∀ i, i < len → L i ≤ 1048576) := hL
  clear hL
  go_wp2_with fail
  go_loop [5, 6] (fun t i => ∃ k T : Nat, k ≤ len ∧ T ≤ 1048576 ∧ i = .int .i64 (k : Int) ∧ t = .int .i64 (T : Int)) (fun _ i => len - (intOf i).toNat)
  case atStart => exact ⟨0, 0, Nat.zero_le _, by omega, rfl, rfl⟩
  case round =>
    obtain ⟨k, T, hk, hT, rfl, rfl⟩ := hrel
    by_cases hlt : k < len
    · have hc1 := (H.out k hlt).2.1
      have hLk := HL2.out k hlt
      by_cases hb : T + (16 + L k) ≤ 1048576
      · go_wp2
        go_round
        case rel => exact ⟨k + 1, T + (16 + L k), by omega, by omega, by go_num, by go_num⟩
        case measure => simp [intOf]; omega
      · go_wp2
        go_ret
        exact ⟨rfl, Below.refl _ _⟩
    obtain rfl : k = len := by omega
    clear hk hlt
    have hd1 : decide ((n : Int) < 1) = false := decide_eq_false (by omega)
    have hd2 : decide (65536 < (n : Int)) = false := decide_eq_false (by omega)
    go_wp2_with fail
    clear hd1 hd2
    go_loop [7] (fun i => ∃ j : Nat, j ≤ k ∧ i = .int .i64 (j : Int) ∧ ∀ l, l < j → 1 ≤ G l ∧ G l ≤ n) (fun i => k - (intOf i).toNat)
    case atStart => exact ⟨0, Nat.zero_le _, rfl, fun l hl => absurd hl (Nat.not_lt_zero _)⟩
    case round =>
      obtain ⟨j, hj, rfl, hall⟩ := hrel
      have HA : Hid (∀ l, l < j → 1 ≤ G l ∧ G l ≤ n) := hall
      clear hall
      by_cases hlt : j < k
      · have hc1 := (H.out j hlt).1
        by_cases ha : G j < 1
        · have hda : decide (G j < 1) = true := decide_eq_true ha
          go_wp2
          go_ret
          exact ⟨rfl, Below.refl _ _⟩
        · have hda : decide (G j < 1) = false := decide_eq_false ha
          by_cases hb : (n : Int) < G j
          · go_wp2
            go_ret
            exact ⟨rfl, Below.refl _ _⟩
          · go_wp2
            go_round
            case rel => exact ⟨j + 1, by omega, by go_num, fun l hl => by rcases Nat.lt_succ_iff_lt_or_eq.1 hl with h | rfl; exact HA.out l h; omega⟩
            case measure => simp [intOf]; omega
      obtain rfl : j = k := by omega
      clear hj hlt
      -- every sender is one of the nodes
      obtain ⟨F, hF⟩ : ∃ F : Nat → Nat, ∀ i, i < j → G i = (F i : Int) + 1 ∧ F i < n := ⟨fun i => (G i - 1).toNat, fun i hi => by have := HA.out i hi; dsimp only; omega⟩
      have HF : Hid (∀ i, i < j → F i < n) := fun i hi => (hF i hi).2
      have H2 : Hid (rowC w b off j (fun i => (F i : Int) + 1) A L C Z) := fun i hi => by have := H.out i hi; rwa [(hF i hi).1] at this
      clear hF H HA HL
      go_wp2_with fail
      refine (copy_some _ b off j cap _ A L C Z h0 hlen HL2.out H2.out).mono ?_
      rintro e w1 ⟨rfl, ⟨A1, C1, hr1⟩, hb1⟩
      clear H2
      go_wp2_with fail
      refine (copy_some _ w.heap.size 0 j j _ A1 L C1 Z h0 hlen HL2.out hr1).mono ?_
      rintro e w2 ⟨rfl, ⟨A2, C2, hr2⟩, hb2⟩
      replace hr1 := hr1.below hb2
      have hB2 := hb1.trans (hb2.mono hb1.size)
      clear hb1 hb2
      generalize w1.heap.size = g2 at *
      generalize hg1 : w.heap.size = g1 at *
      go_wp2_with fail
      --STOP1
      obtain ⟨t, ht⟩ : ∃ t : Nat, ((n : Int) - 1) / 3 = (t : Int) := ⟨(((n : Int) - 1) / 3).toNat, by omega⟩
      have htn : t + 1 ≤ n := by omega
      rw [ht]
      have HT : Hid (((n : Int) - 1) / 3 = (t : Int)) := ht
      clear ht
      refine (new_any _ n t true true).mono ?_
      rintro e w3 ⟨rfl, hN, hb3⟩
      have hBd : g1 ≤ w2.heap.size := by have := hB2.size; omega
      generalize hgd : w2.heap.size = gd at *
      have HGD : Hid (w2.heap.size = gd) := hgd
      clear hgd
      go_wp2_with fail
      go_loopw [11] (fun id wr => ∃ m : Nat, m ≤ t + 1 ∧ id = .int .i64 ((m : Int) + 1) ∧ NodeSt wr gd gd n true true (fun x => decide (x < m)) m 0 [] ∧ Below gd w3 wr) (fun id _ => t + 2 - (intOf id).toNat)
      case atStart => exact ⟨0, Nat.zero_le _, rfl, hN.congr (fun x => by simp), Below.refl _ _⟩
      case round =>
        clear hN
        obtain ⟨m, hm, rfl, hN, hbr⟩ := hrel
        by_cases hlt : m < t + 1
        · go_wp2_with fail
          refine (fromAdd_any _ gd gd n true true _ m 0 [] m hn2 (by omega) (by omega) hN).mono ?_
          rintro e w4 ⟨rfl, hN4, hb4⟩
          have HN4 : Hid (NodeSt w4 gd gd n true true (fun x => decide (x < m + 1)) (m + 1) 0 []) := by
            have e1 : inc (fun x => decide (x < m)) m m = m + 1 := by simp [inc]
            rw [e1] at hN4
            refine hN4.congr fun x => ?_
            by_cases e : x = m
            · subst e; simp [ins]
            · simp [ins, e]; omega
          have HB4 := hbr.trans hb4
          clear hN4 hb4 hbr hN
          go_wp2_with fail
          go_roundw
          case rel => exact ⟨m + 1, by omega, by go_num, HN4.out, HB4⟩
          case measure => simp [intOf]; omega
        obtain rfl : m = t + 1 := by omega
        clear hm hlt
        have hB2r : Below gd w2 wr := hb3.trans hbr
        replace hr1 := hr1.below (by rw [HGD.out]; exact hB2r)
        replace hr2 := hr2.below (by rw [HGD.out]; exact hB2r)
        have hBw : Below g1 w wr := hB2.trans (hB2r.mono hBd)
        have hBs : g1 ≤ wr.heap.size := by have := hBw.size; omega
        clear hB2r hb3 hbr hB2
        obtain ⟨wb, rfl⟩ : ∃ wb : World, wb = wr := ⟨_, rfl⟩
        go_wp2_with fail
        --STOP2
        refine (new_any _ n t false false).mono ?_
        rintro e w5 ⟨rfl, hNf, hb5⟩
        generalize hgf : wb.heap.size = gf at *
        have HGF : Hid (wb.heap.size = gf) := hgf
        clear hgf
        have HR1 : Hid (rowC wb g1 0 j (fun i => (F i : Int) + 1) A1 L C1 Z) := hr1
        have HR2 : Hid (rowC wb g2 0 j (fun i => (F i : Int) + 1) A2 L C2 Z) := hr2
        have HN : Hid (NodeSt wb gd gd n true true (fun x => decide (x < t + 1)) (t + 1) 0 []) := hN
        clear hr1 hr2 hN
        have hK0 : nodeK w5 gf gf n F A1 L C1 (kept F L 0) := by
          unfold nodeK
          simpa [kept, memb_nil, cols] using hNf
        clear hNf
        go_wp2_with fail
        go_loopw [13] (fun i wr => ∃ m : Nat, m ≤ j ∧ i = .int .i64 (m : Int) ∧ nodeK wr gf gf n F A1 L C1 (kept F L m) ∧ Below gf wb wr) (fun i _ => j - (intOf i).toNat)
        case atStart => exact ⟨0, Nat.zero_le _, rfl, hK0, hb5⟩
        case round =>
          clear hK0 hb5
          obtain ⟨m, hm, rfl, hK, hbr⟩ := hrel
          have hbr' : Below wb.heap.size wb wr := by rw [HGF.out]; exact hbr
          by_cases hlt : m < j
          · obtain ⟨c0, c1, _, _⟩ := HR1.out.below hbr' m hlt
            have c47 := (HN.out.below hbr').c47
            have hl1 : (m : Int) < (j : Int) := by omega
            have hl0 : (0 : Int) ≤ (m : Int) := by omega
            have hFm := HF.out m hlt
            have hKl := kept_le F L m
            have hg1f : g1 < gf := by rw [← HGF.out]; exact World.block_lt_of_cell? wb _ (HR1.out m hlt).1
            have HK : Hid (nodeK wr gf gf n F A1 L C1 (kept F L m)) := hK
            simp only [Nat.zero_add] at c0 c1
            clear hbr' hK
            go_wp2_with fail
            go_region_held3 (fun w' => w'.cell? ⟨g1, m * 2, none⟩ = some (.int .i64 ((F m : Int) + 1)) ∧ w'.cell? ⟨g1, m * 2 + 1, none⟩ = some (.slice (A1 m) (L m) (C1 m))) (go_keep) ((go_at_call 16; refine (zztake_done wr.drew gd _ _ _ _ c47).mono ?_; rintro e w6 ⟨rfl, q, rfl⟩))
            --STOP3
            go_wp2_with fail
            go_region_held3 (fun w' => w'.cell? ⟨g1, m * 2, none⟩ = some (.int .i64 ((F m : Int) + 1)) ∧ w'.cell? ⟨g1, m * 2 + 1, none⟩ = some (.slice (A1 m) (L m) (C1 m))) (go_keep) ((go_at_call 16; refine (zztake_fresh _ gf gf n F A1 L C1 (kept F L m) m hn2 (by omega) hFm (by exact NodeSt.below HK.out (below_drewN (Below.refl _ _) _))).mono ?_; rintro e w7 ⟨rfl, hK7, hb7⟩; have d0 : w7.cell? ⟨g1, m * 2, none⟩ = some (.int .i64 ((F m : Int) + 1)) := (hb7.cell hg1f).trans c0; have d1 : w7.cell? ⟨g1, m * 2 + 1, none⟩ = some (.slice (A1 m) (L m) (C1 m)) := (hb7.cell hg1f).trans c1))
            --STOP4
            have HK7 : Hid (nodeK w7 gf gf n F A1 L C1 (kept F L (m + 1))) := hK7
            have HB7 : Hid (Below gf wb w7) := hbr.trans ((below_drewN (Below.refl _ _) _).trans hb7)
            clear hK7 hb7 d0 d1 c0 c1 c47 hbr HK
            go_wp2_with fail
            go_roundw
            case rel => exact ⟨m + 1, by omega, by go_num, HK7.out, HB7.out⟩
            case measure => simp [intOf]; omega
          obtain rfl : m = j := by omega
          clear hm hlt
          have HKf : Hid (nodeK wr gf gf n F A1 L C1 (kept F L m)) := hK
          have HNf : Hid (NodeSt wr gd gd n true true (fun x => decide (x < t + 1)) (t + 1) 0 []) := HN.out.below hbr'
          have HRf : Hid (rowC wr g2 0 m (fun i => (F i : Int) + 1) A2 L C2 Z) := HR2.out.below hbr'
          have HBf : Hid (Below g1 w wr) := hBw.trans (hbr.mono hBs)
          have hwrs : g1 ≤ wr.heap.size := by have := HBf.out.size; omega
          clear hK hbr hbr' HN HR1 HR2 hBw hBs HGF HGD
          obtain ⟨wc, rfl⟩ : ∃ wc : World, wc = wr := ⟨_, rfl⟩
          have hmk := run_make_row' (P := Try.prog) 43 4 (.bool false) 1 Try.underlying43 info4 rfl .i64 .i64 n (by omega) (by omega)
          go_wp2_with fail
          clear hmk
          go_loopw [15] (fun i wr => ∃ l : Nat, l ≤ m ∧ i = .int .i64 (l : Int) ∧ wr.rowIs wc.heap.size 4 n (fun x => .bool (memb F (kept F L l) x)) ∧ Below wc.heap.size wc wr) (fun i _ => m - (intOf i).toNat)
          case atStart =>
            exact ⟨0, Nat.zero_le _, rfl, (World.rowIs_made wc (.bool false) n 4).congr (fun i hi => by simp [kept, memb]), (Below.refl _ _).alloc (Nat.le_refl _) _⟩
          case round =>
            obtain ⟨l, hl, rfl, hrow, hbr⟩ := hrel
            by_cases hlt : l < m
            · obtain ⟨c0, c1, _, _⟩ := HRf.out.below hbr l hlt
              simp only [Nat.zero_add] at c0 c1
              have hFl := HF.out l hlt
              by_cases hz : L l = 0
              · have hd : ¬ 0 < L l := by omega
                have HR : Hid (wr.rowIs wc.heap.size 4 n (fun x => .bool (memb F (kept F L (l + 1)) x))) := by rw [memb_kept_zero F L l hz]; exact hrow
                clear hrow
                go_wp2_with fail
                go_roundw
                case rel => exact ⟨l + 1, by omega, by go_num, HR.out, hbr⟩
                case measure => simp [intOf]; omega
              · have hd : 0 < L l := by omega
                have t1 := hrow.cell hFl
                have f1 := hrow.frozen (F l)
                have HR : Hid ((wr.setCell ⟨wc.heap.size, F l, none⟩ (.bool true)).rowIs wc.heap.size 4 n (fun x => .bool (memb F (kept F L (l + 1)) x))) := by
                  rw [memb_kept_pos F L l hz]
                  refine (hrow.set (F l) (.bool true)).congr fun x hx => ?_
                  by_cases e : x = F l <;> simp [ins, e]
                have HB : Hid (Below wc.heap.size wc (wr.setCell ⟨wc.heap.size, F l, none⟩ (.bool true))) := hbr.setCell (Nat.le_refl _) _
                clear hrow hbr
                go_wp2_with fail
                go_roundw
                case rel => exact ⟨l + 1, by omega, by go_num, HR.out, HB.out⟩
                case measure => simp [intOf]; omega
            obtain rfl : l = m := by omega
            clear hl hlt
            --STOP5
            have HND : Hid (NodeSt wr gd gd n true true (fun x => decide (x < t + 1)) (t + 1) 0 []) := HNf.out.below hbr
            have HNF : Hid (NodeSt wr gf gf n false false (memb F (kept F L l)) (kept F L l).length (kept F L l).length (cols A1 L C1 (kept F L l))) := NodeSt.below HKf.out hbr
            have HBB : Hid (Below w.heap.size w wr) := by rw [hg1]; exact HBf.out.trans (hbr.mono hwrs)
            have HLEN : Hid ((kept F L l).length = cnt (memb F (kept F L l)) n) := kept_len F L n l HF.out
            have HROW : Hid (wr.rowIs wc.heap.size 4 n (fun x => .bool (memb F (kept F L l) x))) := hrow
            have hNl := kept_le F L l
            clear hrow hbr HKf HNf HBf HRf
            generalize memb F (kept F L l) = M at *
            generalize (kept F L l).length = N at *
            generalize cols A1 L C1 (kept F L l) = xs at *
            generalize wc.heap.size = gs at *
            go_wp2_with fail
            go_loop [16, 17] (fun c i => ∃ k : Nat, k ≤ n ∧ i = .int .i64 (k : Int) ∧ c = .int .i64 (cnt M k : Int)) (fun _ i => n - (intOf i).toNat)
            case atStart => exact ⟨0, Nat.zero_le _, rfl, rfl⟩
            case round =>
              obtain ⟨k, hk, rfl, rfl⟩ := hrel
              have hcl := cnt_le M k
              by_cases hlt : k < n
              · have hcx := HROW.out.cell hlt
                cases hv : M k with
                | true =>
                  simp only [hv] at hcx
                  have HC : Hid (cnt M (k + 1) = cnt M k + 1) := show _ = _ by simp [cnt, hv]
                  clear hv
                  go_wp2_with fail
                  go_round
                  case rel => exact ⟨k + 1, by omega, by go_num, by rw [HC.out]; go_num⟩
                  case measure => simp [intOf]; omega
                | false =>
                  simp only [hv] at hcx
                  have HC : Hid (cnt M (k + 1) = cnt M k) := show _ = _ by simp [cnt, hv]
                  clear hv
                  go_wp2_with fail
                  go_round
                  case rel => exact ⟨k + 1, by omega, by go_num, by rw [HC.out]⟩
                  case measure => simp [intOf]; omega
              obtain rfl : k = n := by omega
              clear hlt hk
              rw [← HLEN.out]
              clear hcl
              go_wp2_with fail
              refine (len_any _ gd gd _ true true _ _ _ _ HND.out).mono ?_
              rintro e w9 ⟨rfl, rfl⟩
              go_wp2_with fail
              refine (size_any _ gd gd _ true true _ _ _ _ HND.out).mono ?_
              rintro e w9 ⟨rfl, rfl⟩
              go_wp2_with fail
              refine (relayed_any _ gd gd _ true true _ _ _ _ HND.out).mono ?_
              rintro e w9 ⟨rfl, rfl⟩
              go_wp2_with fail
              refine (len_any _ gf gf _ false false _ _ _ _ HNF.out).mono ?_
              rintro e w9 ⟨rfl, rfl⟩
              go_wp2_with fail
              refine (size_any _ gf gf _ false false _ _ _ _ HNF.out).mono ?_
              rintro e w9 ⟨rfl, rfl⟩
              go_wp2_with fail
              go_ret
              exact ⟨rfl, HBB.out⟩

end Go.Proofs.Qxb6614814a.refu
