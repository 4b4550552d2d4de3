import Derived.Test.Qxb6615703aPush
namespace Go.Proofs.Qxb6615703a.st
open Go.ChangeShapes Go.WideShapes Go.ChangeAt Go.RowKit
set_option linter.unusedVariables false

theorem kept_drewN {p : Nat → Prop} (w : World) (q : Nat) : Kept p w (w.drewN q) := (Kept.refl p w).drewN q
theorem Nexts.drewN {own own' : Nat → Prop} {w : World} {q : Nat} (h : Nexts (w.drewN q) own own') : Nexts w own own' := h

set_option maxHeartbeats 400000 in
theorem Push_any (w : World) (B gS gL gD gB : Nat) (own : Nat → Prop) (P Q : List ByteArray) (ln : Int) (s : ByteArray) (h : StackSt w B gS gL gD gB own P Q ln) (hP : P.length ≤ 1048576) (hl0 : 0 ≤ ln) (hl1 : ln ≤ 1048576) :
    Calls Try.prog 7 #[.pointer (some ⟨gS, 0, none⟩), .string s] w fun e w' => e = .returned (.tuple #[]) ∧ ∃ own', StackSt w' B gS gL gD gB own' (P ++ [s]) Q (ln + 1) ∧ Kept own w w' ∧ Nexts w own own' := by
  obtain ⟨vp, vq, hm, rfl⟩ := h
  have c0 : w.cell? ⟨gD, 0, none⟩ = some (.slice (some ⟨gB, 0, none⟩) 1 1) := cell_lit hm.D 0
  have hw0 : IntKind.i64.wrap ((1 : Int) - 1) = 0 := by decide
  have hw1 : IntKind.i64.wrap (0 : Int) = 0 := by decide
  go_enter Try.func7, Try.ntmps7
  go_wp2_with fail
  refine (current_any _ gS gL gD hm.S hm.L).mono ?_
  rintro e w' ⟨rfl, q, rfl⟩
  go_wp2_with fail
  go_region_held3 (fun w' => w'.cell? ⟨gD, 0, none⟩ = some (.slice (some ⟨gB, 0, none⟩) 1 1)) (go_keep) ((go_at_call 16; refine (bpush_any _ B gS gL gD gB vp vq P Q ln s (by exact hm.below (below_drewN (Below.refl _ _) _)) hP).mono ?_; rintro e w2 ⟨rfl, v', hm2, hk2, hx2⟩; have d0 : w2.cell? ⟨gD, 0, none⟩ = some (.slice (some ⟨gB, 0, none⟩) 1 1) := cell_lit hm2.D 0))
  have d1 : w2.cell? ⟨gD, 1, none⟩ = some (.int .i64 ln) := cell_lit hm2.D 1
  have f1 := free_lit hm2.D 1
  have HM : Hid (Mem (w2.setCell ⟨gD, 1, none⟩ (.int .i64 (ln + 1))) B gS gL gD gB v' vq (P ++ [s]) Q (ln + 1)) := hm2.setLn _
  have HK : Hid (Kept (ownOf gS gL gD gB vp vq) w (w2.setCell ⟨gD, 1, none⟩ (.int .i64 (ln + 1)))) := ((kept_drewN w _).trans hk2).setCell (.inl (.inr (.inr (.inl rfl)))) _
  have HX : Hid (Nexts w (ownOf gS gL gD gB vp vq) (ownOf gS gL gD gB v' vq)) := hx2
  clear hm2 hk2 hx2 d0 c0 hm
  go_wp2_with fail
  go_end0
  exact ⟨rfl, _, ⟨_, _, HM.out, rfl⟩, HK.out, HX.out⟩

set_option maxHeartbeats 400000 in
theorem Queue_any (w : World) (B gS gL gD gB : Nat) (own : Nat → Prop) (P Q : List ByteArray) (ln : Int) (s : ByteArray) (h : StackSt w B gS gL gD gB own P Q ln) (hP : Q.length ≤ 1048576) (hl0 : 0 ≤ ln) (hl1 : ln ≤ 1048576) :
    Calls Try.prog 8 #[.pointer (some ⟨gS, 0, none⟩), .string s] w fun e w' => e = .returned (.tuple #[]) ∧ ∃ own', StackSt w' B gS gL gD gB own' P (Q ++ [s]) (ln + 1) ∧ Kept own w w' ∧ Nexts w own own' := by
  obtain ⟨vp, vq, hm, rfl⟩ := h
  have c0 : w.cell? ⟨gD, 0, none⟩ = some (.slice (some ⟨gB, 0, none⟩) 1 1) := cell_lit hm.D 0
  have hw0 : IntKind.i64.wrap ((1 : Int) - 1) = 0 := by decide
  have hw1 : IntKind.i64.wrap (0 : Int) = 0 := by decide
  go_enter Try.func8, Try.ntmps8
  go_wp2_with fail
  refine (current_any _ gS gL gD hm.S hm.L).mono ?_
  rintro e w' ⟨rfl, q, rfl⟩
  go_wp2_with fail
  go_region_held3 (fun w' => w'.cell? ⟨gD, 0, none⟩ = some (.slice (some ⟨gB, 0, none⟩) 1 1)) (go_keep) ((go_at_call 17; refine (bqueue_any _ B gS gL gD gB vp vq P Q ln s (by exact hm.below (below_drewN (Below.refl _ _) _)) hP).mono ?_; rintro e w2 ⟨rfl, v', hm2, hk2, hx2⟩; have d0 : w2.cell? ⟨gD, 0, none⟩ = some (.slice (some ⟨gB, 0, none⟩) 1 1) := cell_lit hm2.D 0))
  have d1 : w2.cell? ⟨gD, 1, none⟩ = some (.int .i64 ln) := cell_lit hm2.D 1
  have f1 := free_lit hm2.D 1
  have HM : Hid (Mem (w2.setCell ⟨gD, 1, none⟩ (.int .i64 (ln + 1))) B gS gL gD gB vp v' P (Q ++ [s]) (ln + 1)) := hm2.setLn _
  have HK : Hid (Kept (ownOf gS gL gD gB vp vq) w (w2.setCell ⟨gD, 1, none⟩ (.int .i64 (ln + 1)))) := ((kept_drewN w _).trans hk2).setCell (.inl (.inr (.inr (.inl rfl)))) _
  have HX : Hid (Nexts w (ownOf gS gL gD gB vp vq) (ownOf gS gL gD gB vp v')) := hx2
  clear hm2 hk2 hx2 d0 c0 hm
  go_wp2_with fail
  go_end0
  exact ⟨rfl, _, ⟨_, _, HM.out, rfl⟩, HK.out, HX.out⟩

/-! ### A new stack -/
theorem make1 (w : World) : (Instr.makeSlice 43 (.int .i64 1) (.int .i64 1)).run Try.prog w = .ok (.slice (some ⟨w.heap.size, 0, none⟩) 1 1) (w.alloc (.cells #[.slice none 0 0, .slice none 0 0, .int .i64 0] 42)) := by kernel_rfl

theorem newData_any (w : World) :
    Calls Try.prog 14 #[] w fun e w' => e = .returned (.pointer (some ⟨w.heap.size + 1, 0, none⟩)) ∧ w' = (w.alloc (.cells #[.slice none 0 0, .slice none 0 0, .int .i64 0] 42)).alloc (.cells #[.slice (some ⟨w.heap.size, 0, none⟩) 1 1, .int .i64 0] 45) := by
  have hmk := make1
  go_enter Try.func14, Try.ntmps14
  go_wp2
  go_ret
  exact ⟨rfl, rfl⟩

set_option maxHeartbeats 400000 in
theorem new_any (w : World) :
    Calls Try.prog 6 #[.nilIface] w fun e w' => ∃ gS gL gD gB own, e = .returned (.pointer (some ⟨gS, 0, none⟩)) ∧ StackSt w' w.heap.size gS gL gD gB own [] [] 0 ∧ Below w.heap.size w w' ∧ Nexts w (fun _ => False) own := by
  go_enter Try.func6, Try.ntmps6
  go_wp2_with fail
  refine (newData_any _).mono ?_
  rintro e w' ⟨rfl, rfl⟩
  go_wp2_with fail
  go_ret
  refine ⟨w.heap.size + 1 + 1 + 1, w.heap.size + 1 + 1, w.heap.size + 1, w.heap.size, _, rfl, ⟨.slice none 0 0, .slice none 0 0, ?_, rfl⟩, ?_, ?_⟩
  · refine { S := ?_, L := ?_, D := ?_, B' := ?_, P' := World.ownsRow_nil _ _ _ _, Q' := World.ownsRow_nil _ _ _ _, apart := fun k h _ => by simp [Value.ownBlock] at h, bS := by omega, bL := by omega, bD := by omega, bB := Nat.le_refl _ }
    · exact heap_alloc_new' _ _ _ (by simp)
    · rw [Below.heap_alloc _ _ _ (by simp)]; exact heap_alloc_new' _ _ _ (by simp)
    · rw [Below.heap_alloc _ _ _ (by simp), Below.heap_alloc _ _ _ (by simp)]; exact heap_alloc_new' _ _ _ (by simp)
    · rw [Below.heap_alloc _ _ _ (by simp; omega), Below.heap_alloc _ _ _ (by simp; omega), Below.heap_alloc _ _ _ (by simp)]; exact heap_alloc_new' _ _ _ rfl
  · exact bel_alloc (bel_alloc (bel_alloc (bel_alloc (Below.refl _ _))))
  · rintro k (h | h | h | h | h | h)
    · exact .inr (by omega)
    · exact .inr (by omega)
    · exact .inr (by omega)
    · exact .inr (by omega)
    · simp [Value.ownBlock] at h
    · simp [Value.ownBlock] at h

theorem newData_some (w : World) :
    Calls Try.prog 14 #[] w fun e w' => ∃ gD gB, e = .returned (.pointer (some ⟨gD, 0, none⟩)) ∧ w.heap.size ≤ gD ∧ w.heap.size ≤ gB ∧ w'.heap[gD]? = some (.cells #[.slice (some ⟨gB, 0, none⟩) 1 1, .int .i64 0] 45 (0, 0)) ∧ w'.heap[gB]? = some (.cells #[.slice none 0 0, .slice none 0 0, .int .i64 0] 42 (0, 0)) ∧ Below w.heap.size w w' := by
  refine (newData_any w).mono ?_
  rintro e w' ⟨rfl, rfl⟩
  refine ⟨_, _, rfl, by omega, Nat.le_refl _, heap_alloc_new' _ _ _ (by simp), ?_, bel_alloc (bel_alloc (Below.refl _ _))⟩
  rw [Below.heap_alloc _ _ _ (by simp)]; exact heap_alloc_new' _ _ _ rfl

/-! ### DropBuffers -/
theorem drop_no (w : World) (B gS gL gD gB : Nat) (own : Nat → Prop) (P Q : List ByteArray) (ln : Int) (n : Int) (h : StackSt w B gS gL gD gB own P Q ln) (hn : 1 ≤ n) :
    Calls Try.prog 13 #[.pointer (some ⟨gS, 0, none⟩), .int .i64 n] w fun e w' => e = .returned (.bool false) ∧ ∃ q, w' = w.drewN q := by
  obtain ⟨vp, vq, hm, rfl⟩ := h
  have c0 : w.cell? ⟨gD, 0, none⟩ = some (.slice (some ⟨gB, 0, none⟩) 1 1) := cell_lit hm.D 0
  have hd : decide (n < 0) = false := decide_eq_false (by omega)
  go_enter Try.func13, Try.ntmps13
  go_wp2_with fail
  refine (current_any _ gS gL gD hm.S hm.L).mono ?_
  rintro e w' ⟨rfl, q, rfl⟩
  clear hm
  go_wp2_with fail
  go_ret
  exact ⟨rfl, _, rfl⟩

set_option maxHeartbeats 1000000 in
theorem drop_all (w : World) (B gS gL gD gB : Nat) (own : Nat → Prop) (P Q : List ByteArray) (ln : Int) (h : StackSt w B gS gL gD gB own P Q ln) :
    Calls Try.prog 13 #[.pointer (some ⟨gS, 0, none⟩), .int .i64 0] w fun e w' => e = .returned (.bool true) ∧ ∃ gD' gB' own', StackSt w' B gS gL gD' gB' own' [] [] 0 ∧ Kept own w w' ∧ Nexts w own own' := by
  obtain ⟨vp, vq, hm, rfl⟩ := h
  have c0 : w.cell? ⟨gD, 0, none⟩ = some (.slice (some ⟨gB, 0, none⟩) 1 1) := cell_lit hm.D 0
  have c1 : w.cell? ⟨gS, 1, none⟩ = some (.slice (some ⟨gL, 0, none⟩) 1 1) := cell_lit hm.S 1
  have c2 : w.cell? ⟨gL, 0, none⟩ = some (.pointer (some ⟨gD, 0, none⟩)) := cell_lit hm.L 0
  have f2 := free_lit hm.L 0
  have hlS := blk_lt hm.S
  have hlL := blk_lt hm.L
  have hne : ¬ gS = gL := hm.dne.1
  have hne' : ¬ gL = gS := fun e => hne e.symm
  have hw0 : IntKind.i64.wrap ((1 : Int) - 1) = 0 := by decide
  have hw1 : IntKind.i64.wrap (0 : Int) = 0 := by decide
  go_enter Try.func13, Try.ntmps13
  go_wp2_with fail
  refine (current_any _ gS gL gD hm.S hm.L).mono ?_
  rintro e w' ⟨rfl, q, rfl⟩
  go_wp2_with fail
  go_region_held3 (fun w' => w'.cell? ⟨gS, 1, none⟩ = some (.slice (some ⟨gL, 0, none⟩) 1 1)) (go_keep) ((go_at_call 14; refine (newData_some _).mono ?_; rintro e w2 ⟨gD', gB', rfl, x1, x2, x3, x4, x5⟩; have x6 : Below w.heap.size w w2 := (below_drewN (Below.refl _ _) _).trans x5; have d1 := cell_below x6 c1; have d2 := cell_below x6 c2; have g2 : w2.frozen? ⟨gL, 0, none⟩ = false := (x6.frozen hlL).trans f2))
  have n1 : w.heap.size ≤ gD' := x1
  have n2 : w.heap.size ≤ gB' := x2
  have HX : Hid (Nexts w (ownOf gS gL gD gB vp vq) (ownOf gS gL gD' gB' (.slice none 0 0) (.slice none 0 0))) := by
    rintro k (h | h | h | h | h | h)
    · exact .inl (.inl h)
    · exact .inl (.inr (.inl h))
    · exact .inr (by omega)
    · exact .inr (by omega)
    · simp [Value.ownBlock] at h
    · simp [Value.ownBlock] at h
  have HK : Hid (Kept (ownOf gS gL gD gB vp vq) w (w2.setCell ⟨gL, 0, none⟩ (.pointer (some ⟨gD', 0, none⟩)))) :=
    Kept.setCell ⟨x6.os, x6.tape, x6.output, x6.size, fun k hk _ => x6.block k hk⟩ (.inl (.inr (.inl rfl))) _
  have HM : Hid (Mem (w2.setCell ⟨gL, 0, none⟩ (.pointer (some ⟨gD', 0, none⟩))) B gS gL gD' gB' (.slice none 0 0) (.slice none 0 0) [] [] 0) := by
    have o : ∀ k, k ≠ gL → (w2.setCell ⟨gL, 0, none⟩ (.pointer (some ⟨gD', 0, none⟩))).heap[k]? = w2.heap[k]? := fun k hk => Below.heap_setCell _ _ _ _ hk
    have hB := hm.bS
    exact { S := (o _ hne).trans ((x6.block gS hlS).trans hm.S), L := (set_blk ((x6.block gL hlL).trans hm.L) _).trans rfl, D := (o _ (by omega)).trans x3, B' := (o _ (by omega)).trans x4, P' := World.ownsRow_nil _ _ _ _, Q' := World.ownsRow_nil _ _ _ _, apart := fun k h _ => by simp [Value.ownBlock] at h, bS := hm.bS, bL := hm.bL, bD := by omega, bB := by omega }
  clear x3 x4 x5 x6 d1 d2 g2 hm c0 c1 c2 f2
  go_wp2_with fail
  go_ret
  exact ⟨rfl, _, _, _, ⟨_, _, HM.out, rfl⟩, HK.out, HX.out⟩

end Go.Proofs.Qxb6615703a.st
