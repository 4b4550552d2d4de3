import Derived.Test.Qxb6615703aStack
namespace Go.Proofs.Qxb6615703a.st
open Go.ChangeShapes Go.WideShapes Go.ChangeAt Go.RowKit
set_option linter.unusedVariables false

/-- What is the stack's own behind a step was so before it, or is new. -/
def Nexts (w : World) (own own' : Nat → Prop) : Prop := ∀ k, own' k → own k ∨ w.heap.size ≤ k

section
variable {w w0 w1 : World} {B gS gL gD gB g cap : Nat} {vp vq : Value} {P Q : List ByteArray} {ln : Int} {s : ByteArray}

/-- Behind 'b.pushed = append(b.pushed, line)'. (w0: w with the block of the one element.) -/
theorem Mem.pushed (hm : Mem w B gS gL gD gB vp vq P Q ln) (hb : Below w.heap.size w w0) (hown : w1.ownsRow B 9 1 (.slice (some ⟨g, 0, none⟩) (P.length + 1) cap) (P.length + 1) (strc P ++ [.string s])) (hgrow : w0.grownBy w1 vp.ownBlock) (hat : vp.ownBlock = some g ∨ w.heap.size ≤ g) :
    Mem (w1.setCell ⟨gB, 0, none⟩ (.slice (some ⟨g, 0, none⟩) (P.length + 1) cap)) B gS gL gD gB (.slice (some ⟨g, 0, none⟩) (P.length + 1) cap) vq (P ++ [s]) Q ln ∧
      Kept (ownOf gS gL gD gB vp vq) w (w1.setCell ⟨gB, 0, none⟩ (.slice (some ⟨g, 0, none⟩) (P.length + 1) cap)) ∧ Nexts w (ownOf gS gL gD gB vp vq) (ownOf gS gL gD gB (.slice (some ⟨g, 0, none⟩) (P.length + 1) cap) vq) := by
  obtain ⟨n1, n2, n3, n4, n5, n6⟩ := hm.dne
  have far : ∀ k, k < w.heap.size → vp.ownBlock ≠ some k → w1.heap[k]? = w.heap[k]? := fun k hk hne => (hgrow.block k (Nat.lt_of_lt_of_le hk hb.size) (fun e => hne e.symm)).trans (hb.block k hk)
  have fS := far gS (blk_lt hm.S) (fun e => (hm.row_ne (.inl e)).1 rfl)
  have fL := far gL (blk_lt hm.L) (fun e => (hm.row_ne (.inl e)).2.1 rfl)
  have fD := far gD (blk_lt hm.D) (fun e => (hm.row_ne (.inl e)).2.2.1 rfl)
  have fB := far gB (blk_lt hm.B') (fun e => (hm.row_ne (.inl e)).2.2.2 rfl)
  have o : ∀ k, k ≠ gB → (w1.setCell ⟨gB, 0, none⟩ (.slice (some ⟨g, 0, none⟩) (P.length + 1) cap)).heap[k]? = w1.heap[k]? := fun k hk => Below.heap_setCell _ _ _ _ hk
  have gne : g ≠ gB := by
    rintro rfl
    obtain ⟨c, hc⟩ := own_ty hown (k := g) rfl
    exact absurd (blk_ty hc (fB.trans hm.B')) (by decide)
  refine ⟨?_, ?_, ?_⟩
  · exact { S := (o _ n3).trans (fS.trans hm.S), L := (o _ n5).trans (fL.trans hm.L), D := (o _ n6).trans (fD.trans hm.D), B' := (set_blk (fB.trans hm.B') _).trans rfl
            P' := by
              rw [strc_snoc, List.length_append]
              exact owns_of_block hown fun k hk => by simp [Value.ownBlock] at hk; subst hk; exact o _ gne
            Q' := owns_of_block hm.Q' fun k hk => (o k (hm.row_ne (.inr hk)).2.2.2).trans (far k (hm.Q'.lt k hk).2 (fun e => hm.apart k e hk))
            apart := fun k hk hk' => by
              simp [Value.ownBlock] at hk
              subst hk
              rcases hat with h | h
              · exact hm.apart _ h hk'
              · have := (hm.Q'.lt _ hk').2
                omega
            bS := hm.bS, bL := hm.bL, bD := hm.bD, bB := hm.bB }
  · have k0 : Kept (ownOf gS gL gD gB vp vq) w w0 := ⟨hb.os, hb.tape, hb.output, hb.size, fun k hk _ => hb.block k hk⟩
    exact (k0.grown hgrow (fun k hk => .inl (.inr (.inr (.inr (.inr (.inl hk))))))).setCell (.inl (.inr (.inr (.inr (.inl rfl))))) _
  · rintro k (h | h | h | h | h | h)
    · exact .inl (.inl h)
    · exact .inl (.inr (.inl h))
    · exact .inl (.inr (.inr (.inl h)))
    · exact .inl (.inr (.inr (.inr (.inl h))))
    · simp [Value.ownBlock] at h
      subst h
      rcases hat with h | h
      · exact .inl (.inr (.inr (.inr (.inr (.inl h)))))
      · exact .inr h
    · exact .inl (.inr (.inr (.inr (.inr (.inr h)))))

/-- Behind 'b.queued = append(b.queued, line)'. -/
theorem Mem.queued (hm : Mem w B gS gL gD gB vp vq P Q ln) (hb : Below w.heap.size w w0) (hown : w1.ownsRow B 9 1 (.slice (some ⟨g, 0, none⟩) (Q.length + 1) cap) (Q.length + 1) (strc Q ++ [.string s])) (hgrow : w0.grownBy w1 vq.ownBlock) (hat : vq.ownBlock = some g ∨ w.heap.size ≤ g) :
    Mem (w1.setCell ⟨gB, 1, none⟩ (.slice (some ⟨g, 0, none⟩) (Q.length + 1) cap)) B gS gL gD gB vp (.slice (some ⟨g, 0, none⟩) (Q.length + 1) cap) P (Q ++ [s]) ln ∧
      Kept (ownOf gS gL gD gB vp vq) w (w1.setCell ⟨gB, 1, none⟩ (.slice (some ⟨g, 0, none⟩) (Q.length + 1) cap)) ∧ Nexts w (ownOf gS gL gD gB vp vq) (ownOf gS gL gD gB vp (.slice (some ⟨g, 0, none⟩) (Q.length + 1) cap)) := by
  obtain ⟨n1, n2, n3, n4, n5, n6⟩ := hm.dne
  have far : ∀ k, k < w.heap.size → vq.ownBlock ≠ some k → w1.heap[k]? = w.heap[k]? := fun k hk hne => (hgrow.block k (Nat.lt_of_lt_of_le hk hb.size) (fun e => hne e.symm)).trans (hb.block k hk)
  have fS := far gS (blk_lt hm.S) (fun e => (hm.row_ne (.inr e)).1 rfl)
  have fL := far gL (blk_lt hm.L) (fun e => (hm.row_ne (.inr e)).2.1 rfl)
  have fD := far gD (blk_lt hm.D) (fun e => (hm.row_ne (.inr e)).2.2.1 rfl)
  have fB := far gB (blk_lt hm.B') (fun e => (hm.row_ne (.inr e)).2.2.2 rfl)
  have o : ∀ k, k ≠ gB → (w1.setCell ⟨gB, 1, none⟩ (.slice (some ⟨g, 0, none⟩) (Q.length + 1) cap)).heap[k]? = w1.heap[k]? := fun k hk => Below.heap_setCell _ _ _ _ hk
  have gne : g ≠ gB := by
    rintro rfl
    obtain ⟨c, hc⟩ := own_ty hown (k := g) rfl
    exact absurd (blk_ty hc (fB.trans hm.B')) (by decide)
  refine ⟨?_, ?_, ?_⟩
  · exact { S := (o _ n3).trans (fS.trans hm.S), L := (o _ n5).trans (fL.trans hm.L), D := (o _ n6).trans (fD.trans hm.D), B' := (set_blk (fB.trans hm.B') _).trans rfl
            Q' := by
              rw [strc_snoc, List.length_append]
              exact owns_of_block hown fun k hk => by simp [Value.ownBlock] at hk; subst hk; exact o _ gne
            P' := owns_of_block hm.P' fun k hk => (o k (hm.row_ne (.inl hk)).2.2.2).trans (far k (hm.P'.lt k hk).2 (fun e => hm.apart k hk e))
            apart := fun k hk' hk => by
              simp [Value.ownBlock] at hk
              subst hk
              rcases hat with h | h
              · exact hm.apart _ hk' h
              · have := (hm.P'.lt _ hk').2
                omega
            bS := hm.bS, bL := hm.bL, bD := hm.bD, bB := hm.bB }
  · have k0 : Kept (ownOf gS gL gD gB vp vq) w w0 := ⟨hb.os, hb.tape, hb.output, hb.size, fun k hk _ => hb.block k hk⟩
    exact (k0.grown hgrow (fun k hk => .inl (.inr (.inr (.inr (.inr (.inr hk))))))).setCell (.inl (.inr (.inr (.inr (.inl rfl))))) _
  · rintro k (h | h | h | h | h | h)
    · exact .inl (.inl h)
    · exact .inl (.inr (.inl h))
    · exact .inl (.inr (.inr (.inl h)))
    · exact .inl (.inr (.inr (.inr (.inl h))))
    · exact .inl (.inr (.inr (.inr (.inr (.inl h)))))
    · simp [Value.ownBlock] at h
      subst h
      rcases hat with h | h
      · exact .inl (.inr (.inr (.inr (.inr (.inr h)))))
      · exact .inr h
end

set_option maxHeartbeats 400000 in
theorem bpush_any (w : World) (B gS gL gD gB : Nat) (vp vq : Value) (P Q : List ByteArray) (ln : Int) (s : ByteArray) (hm : Mem w B gS gL gD gB vp vq P Q ln) (hP : P.length ≤ 1048576) :
    Calls Try.prog 16 #[.pointer (some ⟨gB, 0, none⟩), .string s] w fun e w' => e = .returned (.tuple #[]) ∧ ∃ vp', Mem w' B gS gL gD gB vp' vq (P ++ [s]) Q ln ∧ Kept (ownOf gS gL gD gB vp vq) w w' ∧ Nexts w (ownOf gS gL gD gB vp vq) (ownOf gS gL gD gB vp' vq) := by
  have c0 : w.cell? ⟨gB, 0, none⟩ = some vp := cell_lit hm.B' 0
  obtain ⟨i9, hi9, hz0, hz1, hz2⟩ := info_parts info9
  have hBw : B ≤ w.heap.size := by have := hm.bB; have := blk_lt hm.B'; omega
  go_enter Try.func16, Try.ntmps16
  go_wp2_with (at_builtin; refine wpList_append_lies _ rfl _ _ 22 rfl B 9 i9 (.string ByteArray.empty) 1 16 Try.underlying22 hi9 hz0 hz1 hz2 rfl (by decide) vp P.length (strc P) rfl (hm.P'.alloc _) ⟨w.heap.size, 0, none⟩ 1 1 [.string s] rfl rfl (World.news_of_block (heap_alloc_new _ _)) ?ha (by decide) ?hb ?hc ?hd _ rfl ?_)
  case ha => intro u hu; simp at hu; subst hu; rfl
  case hb => unfold maxLen; omega
  case hc => omega
  case hd => simp; omega
  intro g cap w1 hown hgrow hat hlt1
  have hb0 : Below w.heap.size w (w.alloc (Obj.cells #[Value.string s] 9)) := (Below.refl _ _).alloc (Nat.le_refl _) _
  have hat' : vp.ownBlock = some g ∨ w.heap.size ≤ g := by rcases hat with h | h; exact .inl h; exact .inr (by rw [h]; simp)
  have R := Mem.pushed hm hb0 hown hgrow hat'
  have hB1 : w1.heap[gB]? = some (.cells #[vp, vq, .int .i64 0] 42 (0, 0)) :=
    (hgrow.block gB (Nat.lt_of_lt_of_le (blk_lt hm.B') hb0.size) (fun e => (hm.row_ne (.inl e.symm)).2.2.2 rfl)).trans ((hb0.block gB (blk_lt hm.B')).trans hm.B')
  have d0 : w1.cell? ⟨gB, 0, none⟩ = some vp := cell_lit hB1 0
  have f0 := free_lit hB1 0
  have HR := R
  clear R hown hgrow hat hat' hlt1 hb0 hB1 hm c0
  go_wp2_with fail
  go_end0
  exact ⟨rfl, _, HR.1, HR.2.1, HR.2.2⟩

set_option maxHeartbeats 400000 in
theorem bqueue_any (w : World) (B gS gL gD gB : Nat) (vp vq : Value) (P Q : List ByteArray) (ln : Int) (s : ByteArray) (hm : Mem w B gS gL gD gB vp vq P Q ln) (hQ : Q.length ≤ 1048576) :
    Calls Try.prog 17 #[.pointer (some ⟨gB, 0, none⟩), .string s] w fun e w' => e = .returned (.tuple #[]) ∧ ∃ vq', Mem w' B gS gL gD gB vp vq' P (Q ++ [s]) ln ∧ Kept (ownOf gS gL gD gB vp vq) w w' ∧ Nexts w (ownOf gS gL gD gB vp vq) (ownOf gS gL gD gB vp vq') := by
  have c0 : w.cell? ⟨gB, 1, none⟩ = some vq := cell_lit hm.B' 1
  obtain ⟨i9, hi9, hz0, hz1, hz2⟩ := info_parts info9
  have hBw : B ≤ w.heap.size := by have := hm.bB; have := blk_lt hm.B'; omega
  go_enter Try.func17, Try.ntmps17
  go_wp2_with (at_builtin; refine wpList_append_lies _ rfl _ _ 22 rfl B 9 i9 (.string ByteArray.empty) 1 16 Try.underlying22 hi9 hz0 hz1 hz2 rfl (by decide) vq Q.length (strc Q) rfl (hm.Q'.alloc _) ⟨w.heap.size, 0, none⟩ 1 1 [.string s] rfl rfl (World.news_of_block (heap_alloc_new _ _)) ?ha (by decide) ?hb ?hc ?hd _ rfl ?_)
  case ha => intro u hu; simp at hu; subst hu; rfl
  case hb => unfold maxLen; omega
  case hc => omega
  case hd => simp; omega
  intro g cap w1 hown hgrow hat hlt1
  have hb0 : Below w.heap.size w (w.alloc (Obj.cells #[Value.string s] 9)) := (Below.refl _ _).alloc (Nat.le_refl _) _
  have hat' : vq.ownBlock = some g ∨ w.heap.size ≤ g := by rcases hat with h | h; exact .inl h; exact .inr (by rw [h]; simp)
  have R := Mem.queued hm hb0 hown hgrow hat'
  have hB1 : w1.heap[gB]? = some (.cells #[vp, vq, .int .i64 0] 42 (0, 0)) :=
    (hgrow.block gB (Nat.lt_of_lt_of_le (blk_lt hm.B') hb0.size) (fun e => (hm.row_ne (.inr e.symm)).2.2.2 rfl)).trans ((hb0.block gB (blk_lt hm.B')).trans hm.B')
  have d0 : w1.cell? ⟨gB, 1, none⟩ = some vq := cell_lit hB1 1
  have f0 := free_lit hB1 1
  have HR := R
  clear R hown hgrow hat hat' hlt1 hb0 hB1 hm c0
  go_wp2_with fail
  go_end0
  exact ⟨rfl, _, HR.1, HR.2.1, HR.2.2⟩

end Go.Proofs.Qxb6615703a.st
