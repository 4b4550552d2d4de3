import Derived.Test.Qxb6615703aAids
namespace Go.Proofs.Qxb6615703a.st
open Go.ChangeShapes Go.WideShapes Go.ChangeAt Go.RowKit
set_option linter.unusedVariables false

section
variable {w w' : World} {B gS gL gD gB : Nat} {vp vq : Value} {P Q : List ByteArray} {ln : Int}

theorem blk_lt {k : Nat} {o : Obj} (h : w.heap[k]? = some o) : k < w.heap.size := (Array.getElem?_eq_some_iff.1 h).1

theorem Mem.of_blocks (h : Mem w B gS gL gD gB vp vq P Q ln) (e : ∀ k, ownOf gS gL gD gB vp vq k → w'.heap[k]? = w.heap[k]?) : Mem w' B gS gL gD gB vp vq P Q ln where
  S := (e _ (.inl rfl)).trans h.S
  L := (e _ (.inr (.inl rfl))).trans h.L
  D := (e _ (.inr (.inr (.inl rfl)))).trans h.D
  B' := (e _ (.inr (.inr (.inr (.inl rfl))))).trans h.B'
  P' := owns_of_block h.P' fun k hk => e k (.inr (.inr (.inr (.inr (.inl hk)))))
  Q' := owns_of_block h.Q' fun k hk => e k (.inr (.inr (.inr (.inr (.inr hk)))))
  apart := h.apart
  bS := h.bS
  bL := h.bL
  bD := h.bD
  bB := h.bB

theorem Mem.own_lt (h : Mem w B gS gL gD gB vp vq P Q ln) (k : Nat) (hk : ownOf gS gL gD gB vp vq k) : B ≤ k ∧ k < w.heap.size := by
  rcases hk with rfl | rfl | rfl | rfl | hk | hk
  · exact ⟨h.bS, blk_lt h.S⟩
  · exact ⟨h.bL, blk_lt h.L⟩
  · exact ⟨h.bD, blk_lt h.D⟩
  · exact ⟨h.bB, blk_lt h.B'⟩
  · exact h.P'.lt k hk
  · exact h.Q'.lt k hk

theorem Mem.below (h : Mem w B gS gL gD gB vp vq P Q ln) (hb : Below w.heap.size w w') : Mem w' B gS gL gD gB vp vq P Q ln :=
  h.of_blocks fun k hk => hb.block k (h.own_lt k hk).2

/-- The element's type tells a block. -/
theorem blk_ty {k : Nat} {c c' : Array Value} {t t' : TypeId} (h : w.heap[k]? = some (.cells c t (0, 0))) (h' : w.heap[k]? = some (.cells c' t' (0, 0))) : t = t' := by
  rw [h] at h'
  simp at h'
  exact h'.2

theorem own_ty {Bb : Nat} {v : Value} {n : Nat} {xs : List Value} (h : w.ownsRow Bb 9 1 v n xs) {k : Nat} (hk : v.ownBlock = some k) : ∃ c, w.heap[k]? = some (.cells c 9 (0, 0)) := by
  rcases h.2 with ⟨rfl, _⟩ | ⟨b, cap, cur, rfl, _, hb', _⟩
  · simp [Value.ownBlock] at hk
  · simp [Value.ownBlock] at hk
    subst hk
    exact ⟨cur, hb'⟩

theorem own_form {Bb : Nat} {v : Value} {n : Nat} {xs : List Value} (h : w.ownsRow Bb 9 1 v n xs) : v = .slice none 0 0 ∧ n = 0 ∨ ∃ g cap, v = .slice (some ⟨g, 0, none⟩) n cap := by
  rcases h.2 with ⟨rfl, e⟩ | ⟨b, cap, cur, rfl, _⟩
  · exact .inl ⟨rfl, e⟩
  · exact .inr ⟨b, cap, rfl⟩

theorem cell_lit {k : Nat} {c : Array Value} {t : TypeId} (h : w.heap[k]? = some (.cells c t (0, 0))) (i : Nat) : w.cell? ⟨k, i, none⟩ = c[i]? := cell_of_row w k i c t (0, 0) h
theorem free_lit {k : Nat} {c : Array Value} {t : TypeId} (h : w.heap[k]? = some (.cells c t (0, 0))) (i : Nat) : w.frozen? ⟨k, i, none⟩ = false := by simp [World.frozen?, h]

theorem Mem.dne (h : Mem w B gS gL gD gB vp vq P Q ln) : gS ≠ gL ∧ gS ≠ gD ∧ gS ≠ gB ∧ gL ≠ gD ∧ gL ≠ gB ∧ gD ≠ gB := by
  refine ⟨?_, ?_, ?_, ?_, ?_, ?_⟩ <;> rintro rfl
  · exact absurd (blk_ty h.S h.L) (by decide)
  · exact absurd (blk_ty h.S h.D) (by decide)
  · exact absurd (blk_ty h.S h.B') (by decide)
  · exact absurd (blk_ty h.L h.D) (by decide)
  · exact absurd (blk_ty h.L h.B') (by decide)
  · exact absurd (blk_ty h.D h.B') (by decide)

theorem Mem.row_ne (h : Mem w B gS gL gD gB vp vq P Q ln) {k : Nat} (hk : vp.ownBlock = some k ∨ vq.ownBlock = some k) : k ≠ gS ∧ k ≠ gL ∧ k ≠ gD ∧ k ≠ gB := by
  obtain ⟨c, hc⟩ : ∃ c, w.heap[k]? = some (.cells c 9 (0, 0)) := by
    rcases hk with hk | hk
    · exact own_ty h.P' hk
    · exact own_ty h.Q' hk
  refine ⟨?_, ?_, ?_, ?_⟩ <;> rintro rfl
  · exact absurd (blk_ty hc h.S) (by decide)
  · exact absurd (blk_ty hc h.L) (by decide)
  · exact absurd (blk_ty hc h.D) (by decide)
  · exact absurd (blk_ty hc h.B') (by decide)

theorem set_blk {k i : Nat} {c : Array Value} {t : TypeId} (h : w.heap[k]? = some (.cells c t (0, 0))) (v : Value) : (w.setCell ⟨k, i, none⟩ v).heap[k]? = some (.cells (c.setIfInBounds i v) t (0, 0)) := by
  simp [World.setCell, Array.getElem?_modify, h]

/-- The count turns. -/
theorem Mem.setLn (h : Mem w B gS gL gD gB vp vq P Q ln) (z : Int) : Mem (w.setCell ⟨gD, 1, none⟩ (.int .i64 z)) B gS gL gD gB vp vq P Q z := by
  obtain ⟨n1, n2, n3, n4, n5, n6⟩ := h.dne
  have o : ∀ k, k ≠ gD → (w.setCell ⟨gD, 1, none⟩ (.int .i64 z)).heap[k]? = w.heap[k]? := fun k hk => Below.heap_setCell _ _ _ _ hk
  exact { S := (o _ n2).trans h.S, L := (o _ n4).trans h.L, D := (set_blk h.D _).trans rfl, B' := (o _ (Ne.symm n6)).trans h.B', P' := owns_of_block h.P' fun k hk => o k (h.row_ne (.inl hk)).2.2.1, Q' := owns_of_block h.Q' fun k hk => o k (h.row_ne (.inr hk)).2.2.1, apart := h.apart, bS := h.bS, bL := h.bL, bD := h.bD, bB := h.bB }
end

/-! ### Small readers -/

theorem current_any (w : World) (gS gL gD : Nat) (hS : w.heap[gS]? = some (.cells #[.nilIface, .slice (some ⟨gL, 0, none⟩) 1 1] 40 (0, 0))) (hL : w.heap[gL]? = some (.cells #[.pointer (some ⟨gD, 0, none⟩)] 36 (0, 0))) :
    Calls Try.prog 15 #[.pointer (some ⟨gS, 0, none⟩)] w fun e w' => e = .returned (.pointer (some ⟨gD, 0, none⟩)) ∧ ∃ q, w' = w.drewN q := by
  have c1 : w.cell? ⟨gS, 1, none⟩ = some (.slice (some ⟨gL, 0, none⟩) 1 1) := cell_lit hS 1
  have c0 : w.cell? ⟨gL, 0, none⟩ = some (.pointer (some ⟨gD, 0, none⟩)) := cell_lit hL 0
  clear hS hL
  go_enter Try.func15, Try.ntmps15
  go_wp2
  go_quiet (fail)
  go_wp2
  go_ret
  exact ⟨rfl, _, rfl⟩

theorem lines_any (w : World) (B gS gL gD gB : Nat) (own : Nat → Prop) (P Q : List ByteArray) (ln : Int) (h : StackSt w B gS gL gD gB own P Q ln) :
    Calls Try.prog 11 #[.pointer (some ⟨gS, 0, none⟩)] w fun e w' => e = .returned (.int .i64 ln) ∧ ∃ q, w' = w.drewN q := by
  obtain ⟨vp, vq, hm, _⟩ := h
  have c1 : w.cell? ⟨gD, 1, none⟩ = some (.int .i64 ln) := cell_lit hm.D 1
  go_enter Try.func11, Try.ntmps11
  go_wp2_with fail
  refine (current_any _ gS gL gD hm.S hm.L).mono ?_
  rintro e w' ⟨rfl, q, rfl⟩
  clear hm
  go_wp2
  go_ret
  exact ⟨rfl, _, rfl⟩

theorem buffers_any (w : World) (B gS gL gD gB : Nat) (own : Nat → Prop) (P Q : List ByteArray) (ln : Int) (h : StackSt w B gS gL gD gB own P Q ln) :
    Calls Try.prog 18 #[.pointer (some ⟨gS, 0, none⟩)] w fun e w' => e = .returned (.int .i64 1) ∧ ∃ q, w' = w.drewN q := by
  obtain ⟨vp, vq, hm, _⟩ := h
  have c1 : w.cell? ⟨gD, 0, none⟩ = some (.slice (some ⟨gB, 0, none⟩) 1 1) := cell_lit hm.D 0
  go_enter Try.func18, Try.ntmps18
  go_wp2_with fail
  refine (current_any _ gS gL gD hm.S hm.L).mono ?_
  rintro e w' ⟨rfl, q, rfl⟩
  clear hm
  go_wp2
  go_ret
  exact ⟨rfl, _, rfl⟩

theorem pushed_any (w : World) (B gS gL gD gB : Nat) (vp vq : Value) (P Q : List ByteArray) (ln : Int) (hm : Mem w B gS gL gD gB vp vq P Q ln) :
    Calls Try.prog 19 #[.pointer (some ⟨gS, 0, none⟩), .int .i64 0] w fun e w' => e = .returned vp ∧ ∃ q, w' = w.drewN q := by
  have c1 : w.cell? ⟨gD, 0, none⟩ = some (.slice (some ⟨gB, 0, none⟩) 1 1) := cell_lit hm.D 0
  have c2 : w.cell? ⟨gB, 0, none⟩ = some vp := cell_lit hm.B' 0
  go_enter Try.func19, Try.ntmps19
  go_wp2_with fail
  refine (current_any _ gS gL gD hm.S hm.L).mono ?_
  rintro e w' ⟨rfl, q, rfl⟩
  clear hm
  go_wp2
  go_ret
  exact ⟨rfl, _, rfl⟩

theorem queued_any (w : World) (B gS gL gD gB : Nat) (vp vq : Value) (P Q : List ByteArray) (ln : Int) (hm : Mem w B gS gL gD gB vp vq P Q ln) :
    Calls Try.prog 20 #[.pointer (some ⟨gS, 0, none⟩), .int .i64 0] w fun e w' => e = .returned vq ∧ ∃ q, w' = w.drewN q := by
  have c1 : w.cell? ⟨gD, 0, none⟩ = some (.slice (some ⟨gB, 0, none⟩) 1 1) := cell_lit hm.D 0
  have c2 : w.cell? ⟨gB, 1, none⟩ = some vq := cell_lit hm.B' 1
  go_enter Try.func20, Try.ntmps20
  go_wp2_with fail
  refine (current_any _ gS gL gD hm.S hm.L).mono ?_
  rintro e w' ⟨rfl, q, rfl⟩
  clear hm
  go_wp2
  go_ret
  exact ⟨rfl, _, rfl⟩

theorem head_any (w : World) (B gS gL gD gB : Nat) (vp vq : Value) (P Q : List ByteArray) (ln : Int) (hm : Mem w B gS gL gD gB vp vq P Q ln) :
    Calls Try.prog 21 #[.pointer (some ⟨gS, 0, none⟩), .int .i64 0] w fun e w' => e = .returned (.int .i64 0) ∧ ∃ q, w' = w.drewN q := by
  have c1 : w.cell? ⟨gD, 0, none⟩ = some (.slice (some ⟨gB, 0, none⟩) 1 1) := cell_lit hm.D 0
  have c2 : w.cell? ⟨gB, 2, none⟩ = some (.int .i64 0) := cell_lit hm.B' 2
  go_enter Try.func21, Try.ntmps21
  go_wp2_with fail
  refine (current_any _ gS gL gD hm.S hm.L).mono ?_
  rintro e w' ⟨rfl, q, rfl⟩
  clear hm
  go_wp2
  go_ret
  exact ⟨rfl, _, rfl⟩

end Go.Proofs.Qxb6615703a.st
