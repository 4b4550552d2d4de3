import Derived.Test.Qxb6614814aCalls
namespace Go.Proofs.Qxb6614814a.node
open Go.ChangeShapes Go.WideShapes Go.ChangeAt Go.RowKit
open Go.Proofs.Qxb6614814a.byt
set_option linter.unusedVariables false

/-- A []TakeCall of 'len' elements at block b from offset off on: element i holds the sender G i and a slice of L i bytes Z i. -/
def rowC (w : World) (b off len : Nat) (G : Nat → Int) (A : Nat → Option Addr) (L C : Nat → Nat) (Z : Nat → Nat → Int) : Prop :=
  ∀ i, i < len → w.cell? ⟨b, off + i * 2, none⟩ = some (.int .i64 (G i)) ∧ w.cell? ⟨b, off + i * 2 + 1, none⟩ = some (.slice (A i) (L i) (C i)) ∧ (A i = none → L i = 0 ∧ C i = 0) ∧ bytesAt w (A i) (L i) (Z i)

theorem rowC.below {w w' : World} {b off len : Nat} {G : Nat → Int} {A : Nat → Option Addr} {L C : Nat → Nat} {Z : Nat → Nat → Int} (h : rowC w b off len G A L C Z) (hb : Below w.heap.size w w') : rowC w' b off len G A L C Z := by
  intro i hi
  obtain ⟨h1, h2, h3, h4⟩ := h i hi
  exact ⟨(hb.cell (World.block_lt_of_cell? w _ h1)).trans h1, (hb.cell (World.block_lt_of_cell? w _ h2)).trans h2, h3, h4.below hb⟩

set_option maxHeartbeats 400000 in
theorem bytesR_some (w : World) (n : Int) (b off len cap : Nat) (G : Nat → Int) (A : Nat → Option Addr) (L C : Nat → Nat) (Z : Nat → Nat → Int) (hlen : len ≤ 9223372036854775807) (hL : ∀ i, i < len → L i ≤ 9223372036854775807) (h : rowC w b off len G A L C Z) :
    Calls Try.prog 25 #[.int .i64 n, .slice (some ⟨b, off, none⟩) len cap] w fun e w' => w = w' ∧ (e = .returned (.bool false) ∨ (e = .returned (.bool true) ∧ ∀ i, i < len → L i ≤ 1048576)) := by
  have H : Hid (rowC w b off len G A L C Z) := h
  have HL : Hid (∀ i, i < len → L i ≤ 9223372036854775807) := hL
  clear h hL
  by_cases hbig : len ≤ 1048576
  · go_enter Try.func25, Try.ntmps25
    go_wp2
    go_loop [5, 6] (fun t i => ∃ k T : Nat, k ≤ len ∧ T ≤ 1048576 ∧ i = .int .i64 (k : Int) ∧ t = .int .i64 (T : Int) ∧ ∀ j, j < k → L j ≤ 1048576) (fun _ i => len - (intOf i).toNat)
    case atStart => exact ⟨0, len, Nat.zero_le _, hbig, rfl, rfl, fun j hj => absurd hj (Nat.not_lt_zero _)⟩
    case round =>
      obtain ⟨k, T, hk, hT, rfl, rfl, hall⟩ := hrel
      have HA : Hid (∀ j, j < k → L j ≤ 1048576) := hall
      clear hall
      by_cases hlt : k < len
      · have hc1 := (H.out k hlt).2.1
        have hLk := HL.out k hlt
        by_cases ha : L k ≤ 1048576
        · by_cases hb : T + L k ≤ 1048576
          · go_wp2
            go_round
            case rel => exact ⟨k + 1, T + L k, by omega, by omega, by go_num, by go_num, fun j hj => by rcases Nat.lt_succ_iff_lt_or_eq.1 hj with h | rfl; exact HA.out j h; exact ha⟩
            case measure => simp [intOf]; omega
          · go_wp2
            go_ret
            exact ⟨rfl, .inl rfl⟩
        · go_wp2
          go_ret
          exact ⟨rfl, .inl rfl⟩
      · go_wp2
        go_ret
        exact ⟨rfl, .inr ⟨rfl, fun i hi => HA.out i (by omega)⟩⟩
  · go_enter Try.func25, Try.ntmps25
    go_wp2
    go_ret
    exact ⟨rfl, .inl rfl⟩

theorem bytesR_none (w : World) (n : Int) (ao : Option Addr) (cap : Nat) :
    Calls Try.prog 25 #[.int .i64 n, .slice ao 0 cap] w fun e w' => w = w' ∧ e = .returned (.bool true) := by
  go_enter Try.func25, Try.ntmps25
  go_wp2
  refine wp_loop_rounds 1 ?_
  rw [rounds_succ]
  go_wp2
  go_ret
  exact ⟨rfl, rfl⟩

set_option maxHeartbeats 400000 in
theorem bytesK_some (w : World) (n : Int) (b off len cap : Nat) (G : Nat → Int) (A : Nat → Option Addr) (L C : Nat → Nat) (Z : Nat → Nat → Int) (hlen : len ≤ 9223372036854775807) (hL : ∀ i, i < len → L i ≤ 9223372036854775807) (h : rowC w b off len G A L C Z) :
    Calls Try.prog 13 #[.int .i64 n, .slice (some ⟨b, off, none⟩) len cap] w fun e w' => w = w' ∧ (e = .returned (.bool false) ∨ (e = .returned (.bool true) ∧ ∀ i, i < len → L i ≤ 1048576)) := by
  have H : Hid (rowC w b off len G A L C Z) := h
  have HL : Hid (∀ i, i < len → L i ≤ 9223372036854775807) := hL
  clear h hL
  by_cases hbig : len ≤ 1048576
  · go_enter Try.func13, Try.ntmps13
    go_wp2
    go_loop [5, 6] (fun t i => ∃ k T : Nat, k ≤ len ∧ T ≤ 1048576 ∧ i = .int .i64 (k : Int) ∧ t = .int .i64 (T : Int) ∧ ∀ j, j < k → L j ≤ 1048576) (fun _ i => len - (intOf i).toNat)
    case atStart => exact ⟨0, len, Nat.zero_le _, hbig, rfl, rfl, fun j hj => absurd hj (Nat.not_lt_zero _)⟩
    case round =>
      obtain ⟨k, T, hk, hT, rfl, rfl, hall⟩ := hrel
      have HA : Hid (∀ j, j < k → L j ≤ 1048576) := hall
      clear hall
      by_cases hlt : k < len
      · have hc1 := (H.out k hlt).2.1
        have hLk := HL.out k hlt
        by_cases ha : L k ≤ 1048576
        · by_cases hb : T + L k ≤ 1048576
          · go_wp2
            go_round
            case rel => exact ⟨k + 1, T + L k, by omega, by omega, by go_num, by go_num, fun j hj => by rcases Nat.lt_succ_iff_lt_or_eq.1 hj with h | rfl; exact HA.out j h; exact ha⟩
            case measure => simp [intOf]; omega
          · go_wp2
            go_ret
            exact ⟨rfl, .inl rfl⟩
        · go_wp2
          go_ret
          exact ⟨rfl, .inl rfl⟩
      · go_wp2
        go_ret
        exact ⟨rfl, .inr ⟨rfl, fun i hi => HA.out i (by omega)⟩⟩
  · go_enter Try.func13, Try.ntmps13
    go_wp2
    go_ret
    exact ⟨rfl, .inl rfl⟩

theorem bytesK_none (w : World) (n : Int) (ao : Option Addr) (cap : Nat) :
    Calls Try.prog 13 #[.int .i64 n, .slice ao 0 cap] w fun e w' => w = w' ∧ e = .returned (.bool true) := by
  go_enter Try.func13, Try.ntmps13
  go_wp2
  refine wp_loop_rounds 1 ?_
  rw [rounds_succ]
  go_wp2
  go_ret
  exact ⟨rfl, rfl⟩

theorem clone_any (ao : Option Addr) (n c : Nat) (Z : Nat → Int) (w : World) (hn : n ≤ 1048576) (h0 : ao = none → n = 0 ∧ c = 0) (hx : bytesAt w ao n Z) :
    Calls Try.prog 10 #[.slice ao n c] w fun e w' => ∃ ao' c', e = .returned (.slice ao' n c') ∧ (ao' = none → n = 0 ∧ c' = 0) ∧ (∀ x, ao' = some x → w.heap.size ≤ x.block) ∧ bytesAt w' ao' n Z ∧ Below w.heap.size w w' := by
  cases ao with
  | none =>
    obtain ⟨rfl, rfl⟩ := h0 rfl
    refine (clone_nil w).mono ?_
    rintro e w' ⟨rfl, rfl⟩
    exact ⟨none, 0, rfl, fun _ => ⟨rfl, rfl⟩, fun x e => by simp at e, hx, Below.refl _ _⟩
  | some x =>
    refine (clone_some x n c Z w hn hx).mono ?_
    rintro e w' ⟨rfl, h1, h2, h3⟩
    exact ⟨some _, n, rfl, fun e => by simp at e, fun x e => by simp at e; subst e; exact Nat.le_refl _, bytesAt_row h1, h2⟩

theorem info35 : (Try.prog.info? 35).map (fun i => (i.zero, i.size, i.bytes)) = some (some (.agg #[.int .i64 0, .slice none 0 0]), 2, 32) := by kernel_rfl

theorem bytes_setOther {w : World} {ao : Option Addr} {n : Nat} {Z : Nat → Int} (h : bytesAt w ao n Z) {a : Addr} (ha : ∀ x, ao = some x → x.block ≠ a.block) (v : Value) : bytesAt (w.setCell a v) ao n Z := by
  intro h0
  obtain ⟨b, off, e, hc⟩ := h h0
  exact ⟨b, off, e, fun i hi => (World.cell?_of_block (a := ⟨b, off + i, none⟩) (Below.heap_setCell w a v b (ha _ e))).trans (hc i hi)⟩

/-- The first k elements of the copy stand. -/
def partC (w : World) (g len k : Nat) (G : Nat → Int) (L : Nat → Nat) (Z : Nat → Nat → Int) : Prop :=
  (∃ A C, rowC w g 0 k G A L C Z ∧ ∀ i, i < k → ∀ x, A i = some x → g < x.block) ∧ ∃ cur : Array Value, w.heap[g]? = some (.cells cur 35 (0, 0)) ∧ cur.size = len * 2

theorem partC.there {w : World} {g len k : Nat} {G : Nat → Int} {L : Nat → Nat} {Z : Nat → Nat → Int} (h : partC w g len k G L Z) (j : Nat) (hj : j < len * 2) : ∃ v, w.cell? ⟨g, j, none⟩ = some v := by
  obtain ⟨_, cur, hb, hs⟩ := h
  exact ⟨cur[j]'(by omega), by simp [World.cell?, hb, hs, hj]⟩
theorem partC.free {w : World} {g len k : Nat} {G : Nat → Int} {L : Nat → Nat} {Z : Nat → Nat → Int} (h : partC w g len k G L Z) (j : Nat) : w.frozen? ⟨g, j, none⟩ = false := by
  obtain ⟨_, cur, hb, hs⟩ := h
  simp [World.frozen?, hb]
theorem partC.lt {w : World} {g len k : Nat} {G : Nat → Int} {L : Nat → Nat} {Z : Nat → Nat → Int} (h : partC w g len k G L Z) : g < w.heap.size := by
  obtain ⟨_, cur, hb, hs⟩ := h
  exact (Array.getElem?_eq_some_iff.1 hb).1
theorem partC.below {w w' : World} {g len k : Nat} {G : Nat → Int} {L : Nat → Nat} {Z : Nat → Nat → Int} (h : partC w g len k G L Z) (hb : Below w.heap.size w w') : partC w' g len k G L Z := by
  have hlt := h.lt
  obtain ⟨⟨A, C, h1, h2⟩, cur, hc, hs⟩ := h
  exact ⟨⟨A, C, h1.below hb, h2⟩, cur, (hb.block g hlt).trans hc, hs⟩

theorem partC.step {w : World} {g len k : Nat} {G : Nat → Int} {L : Nat → Nat} {Z : Nat → Nat → Int} (h : partC w g len k G L Z) (hk : k < len) (ao : Option Addr) (c : Nat) (h0 : ao = none → L k = 0 ∧ c = 0) (hx : ∀ x, ao = some x → g < x.block) (hy : bytesAt w ao (L k) (Z k)) :
    partC ((w.setCell ⟨g, k * 2, none⟩ (.int .i64 (G k))).setCell ⟨g, k * 2 + 1, none⟩ (.slice ao (L k) c)) g len (k + 1) G L Z := by
  obtain ⟨⟨A, C, h1, h2⟩, cur, hc, hs⟩ := h
  have hblk : ((w.setCell ⟨g, k * 2, none⟩ (.int .i64 (G k))).setCell ⟨g, k * 2 + 1, none⟩ (.slice ao (L k) c)).heap[g]? = some (.cells ((cur.setIfInBounds (k * 2) (.int .i64 (G k))).setIfInBounds (k * 2 + 1) (.slice ao (L k) c)) 35 (0, 0)) := by
    simp [World.setCell, Array.getElem?_modify, hc]
  refine ⟨⟨fun i => if i = k then ao else A i, fun i => if i = k then c else C i, ?_, ?_⟩, _, hblk, by simpa using hs⟩
  · intro i hi
    have hcell : ∀ o, ((w.setCell ⟨g, k * 2, none⟩ (.int .i64 (G k))).setCell ⟨g, k * 2 + 1, none⟩ (.slice ao (L k) c)).cell? ⟨g, o, none⟩ = ((cur.setIfInBounds (k * 2) (.int .i64 (G k))).setIfInBounds (k * 2 + 1) (.slice ao (L k) c))[o]? := fun o => cell_of_row _ g o _ 35 (0, 0) hblk
    by_cases e : i = k
    · subst e
      refine ⟨?_, ?_, ?_, ?_⟩
      · rw [hcell, set_ne _ (by omega), Nat.zero_add]; exact set_same _ _ _ (by omega)
      · rw [hcell, Nat.zero_add, set_same _ _ _ (by simp; omega)]; simp
      · simpa using h0
      · simp only [if_true]
        exact bytes_setOther (bytes_setOther hy (fun x e => by have := hx x e; simp; omega) _) (fun x e => by have := hx x e; simp; omega) _
    · obtain ⟨k1, k2, k3, k4⟩ := h1 i (by omega)
      have hold : ∀ o, w.cell? ⟨g, o, none⟩ = cur[o]? := fun o => cell_of_row _ g o _ 35 (0, 0) hc
      refine ⟨?_, ?_, ?_, ?_⟩
      · rw [hcell, set_ne _ (by omega), set_ne _ (by omega), ← hold]; exact k1
      · rw [hcell, set_ne _ (by omega), set_ne _ (by omega), ← hold]; simpa [e] using k2
      · simpa [e] using k3
      · simp only [e, if_false]
        exact bytes_setOther (bytes_setOther k4 (fun x e => by have := h2 i (by omega) x e; simp; omega) _) (fun x e => by have := h2 i (by omega) x e; simp; omega) _
  · intro i hi x
    by_cases e : i = k
    · subst e; simpa using hx x
    · simpa [e] using h2 i (by omega) x

theorem copy_nil (w : World) : Calls Try.prog 14 #[.slice none 0 0] w fun e w' => e = .returned (.slice none 0 0) ∧ w = w' := by
  have hq := fun w t e => Lib.run_eql_slice_nil (P := Try.prog) w t e none 0 0 0 0
  go_enter Try.func14, Try.ntmps14
  go_wp2
  go_ret
  exact ⟨rfl, rfl⟩

set_option maxHeartbeats 1000000 in
theorem copy_some (w : World) (b off len cap : Nat) (G : Nat → Int) (A : Nat → Option Addr) (L C : Nat → Nat) (Z : Nat → Nat → Int) (h0 : 0 < len) (hlen : len ≤ 4096) (hL : ∀ i, i < len → L i ≤ 1048576) (h : rowC w b off len G A L C Z) :
    Calls Try.prog 14 #[.slice (some ⟨b, off, none⟩) len cap] w fun e w' => e = .returned (.slice (some ⟨w.heap.size, 0, none⟩) len len) ∧ (∃ A' C', rowC w' w.heap.size 0 len G A' L C' Z) ∧ Below w.heap.size w w' := by
  have H : Hid (rowC w b off len G A L C Z) := h
  have HL : Hid (∀ i, i < len → L i ≤ 1048576) := hL
  clear h hL
  have hq := fun w t e => Lib.run_eql_slice_nil (P := Try.prog) w t e (some ⟨b, off, none⟩) len cap 0 0
  obtain ⟨i35, hi35, hz0, hz1, hz2⟩ := info_parts info35
  go_enter Try.func14, Try.ntmps14
  go_wp2_with (at_make; refine wpList_make_full _ rfl _ _ 32 rfl w.heap.size 35 i35 (.agg #[.int .i64 0, .slice none 0 0]) 2 Try.underlying32 hi35 hz0 hz1 .i64 .i64 _ _ len rfl rfl rfl rfl (by rw [hz2]; omega) (by unfold maxLen; omega) (Nat.le_refl _) ?_; intro w1 hown hgrow)
  have hB1 : Below w.heap.size w w1 := (Below.refl _ _).grown hgrow (Nat.le_refl _) (fun k hk => by simp at hk)
  have hP : partC w1 w.heap.size len 0 G L Z := by
    rcases hown.2 with ⟨e, _⟩ | ⟨g, cp, cur, e, _, hb, _, _, hs, _⟩
    · simp at e
    · simp at e
      obtain ⟨rfl, rfl⟩ := e
      exact ⟨⟨A, C, fun i hi => absurd hi (Nat.not_lt_zero _), fun i hi => absurd hi (Nat.not_lt_zero _)⟩, cur, hb, hs⟩
  clear hown hgrow
  go_loopw [4] (fun i wr => ∃ k : Nat, k ≤ len ∧ i = .int .i64 (k : Int) ∧ partC wr w.heap.size len k G L Z ∧ Below w.heap.size w wr) (fun i _ => len - (intOf i).toNat)
  case atStart => exact ⟨0, Nat.zero_le _, rfl, hP, hB1⟩
  case round =>
    clear hP hB1
    obtain ⟨k, hk, rfl, hP, hB⟩ := hrel
    by_cases hlt : k < len
    · have hsrc := H.out.below hB
      obtain ⟨c0, c1, c2, c3⟩ := hsrc k hlt
      have hl1 : (k : Int) < (len : Int) := by omega
      have hl0 : (0 : Int) ≤ (k : Int) := by omega
      have hLk := HL.out k hlt
      have hblt : b < w.heap.size := World.block_lt_of_cell? w _ (H.out k hlt).1
      have hbne : ¬ b = w.heap.size := by omega
      have hbne' : ¬ w.heap.size = b := by omega
      clear hsrc
      have HP : Hid (partC wr w.heap.size len k G L Z) := hP
      clear hP
      go_wp2
      go_region_held3 (fun w' => w'.cell? ⟨b, off + k * 2, none⟩ = some (.int .i64 (G k)) ∧ w'.cell? ⟨b, off + k * 2 + 1, none⟩ = some (.slice (A k) (L k) (C k))) (go_keep) ((go_at_call 10; refine (clone_any (A k) (L k) (C k) (Z k) _ hLk c2 (c3.below (Below.refl _ _).drew)).mono ?_; rintro e w2 ⟨ao', c', rfl, e1, e2, e3, e4⟩; have e5 : Below wr.heap.size wr w2 := (Below.refl _ _).drew.trans e4; have d0 := aids.cell_below e5 c0; have d1 := aids.cell_below e5 c1; have hP2 := HP.out.below e5; obtain ⟨v0, t0⟩ := hP2.there (k * 2) (by omega); obtain ⟨v1, t1⟩ := hP2.there (k * 2 + 1) (by omega); have f0 := hP2.free (k * 2); have f1 := hP2.free (k * 2 + 1); have HP2 : Hid (partC w2 w.heap.size len k G L Z) := hP2; clear hP2))
      have hglt := HP.out.lt
      have HP3 : Hid (partC ((w2.setCell ⟨w.heap.size, k * 2, none⟩ (.int .i64 (G k))).setCell ⟨w.heap.size, k * 2 + 1, none⟩ (.slice ao' (L k) c')) w.heap.size len (k + 1) G L Z) :=
        HP2.out.step hlt ao' c' e1 (fun x ex => Nat.lt_of_lt_of_le hglt (e2 x ex)) e3
      have HB3 : Hid (Below w.heap.size w ((w2.setCell ⟨w.heap.size, k * 2, none⟩ (.int .i64 (G k))).setCell ⟨w.heap.size, k * 2 + 1, none⟩ (.slice ao' (L k) c'))) :=
        ((hB.trans (e5.mono hB.size)).setCell (Nat.le_refl _) _).setCell (Nat.le_refl _) _
      clear HP2 e1 e2 e3 e4 e5 d0 d1 t0 t1 f0 f1 hB c0 c1 c2 c3
      go_wp2
      go_roundw
      case rel => exact ⟨k + 1, by omega, by go_num, HP3.out, HB3.out⟩
      case measure => simp [intOf]; omega
    · obtain rfl : k = len := by omega
      obtain ⟨⟨A', C', hr, _⟩, _⟩ := hP
      have HR : Hid (rowC wr w.heap.size 0 k G A' L C' Z) := hr
      clear hr
      go_wp2
      go_ret
      exact ⟨rfl, ⟨A', C', HR.out⟩, hB⟩

end Go.Proofs.Qxb6614814a.node
