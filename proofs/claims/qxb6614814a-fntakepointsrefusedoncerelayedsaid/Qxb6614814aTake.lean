import Derived.Test.Qxb6614814aNode
import Derived.Deep.DrawnRows
namespace Go.Proofs.Qxb6614814a.node
open Go.ChangeShapes Go.WideShapes Go.ChangeAt Go.RowKit
open Go.Proofs.Qxb6614814a.byt
set_option linter.unusedVariables false

theorem NodeSt.c2 {w : World} {B g n : Nat} {disp rel : Bool} {M : Nat → Bool} {sz np : Nat} {xs : List Value} (h : NodeSt w B g n disp rel M sz np xs) : w.cell? ⟨g, 2, none⟩ = some (.int .i64 n) := by
  obtain ⟨vi, vp, h1, _⟩ := h; exact h1.c2
theorem NodeSt.c43 {w : World} {B g n : Nat} {disp rel : Bool} {M : Nat → Bool} {sz np : Nat} {xs : List Value} (h : NodeSt w B g n disp rel M sz np xs) : w.cell? ⟨g, 43, none⟩ = some (.bool disp) := by
  obtain ⟨vi, vp, h1, _⟩ := h; exact h1.c43
theorem NodeSt.c47 {w : World} {B g n : Nat} {disp rel : Bool} {M : Nat → Bool} {sz np : Nat} {xs : List Value} (h : NodeSt w B g n disp rel M sz np xs) : w.cell? ⟨g, 47, none⟩ = some (.bool rel) := by
  obtain ⟨vi, vp, h1, _⟩ := h; exact h1.c47
theorem NodeSt.drewN {w : World} {B g n : Nat} {disp rel : Bool} {M : Nat → Bool} {sz np : Nat} {xs : List Value} (h : NodeSt w B g n disp rel M sz np xs) (q : Nat) : NodeSt (w.drewN q) B g n disp rel M sz np xs :=
  h.below (below_drewN (Below.refl _ _) q)
theorem NodeSt.drew {w : World} {B g n : Nat} {disp rel : Bool} {M : Nat → Bool} {sz np : Nat} {xs : List Value} (h : NodeSt w B g n disp rel M sz np xs) : NodeSt w.drew B g n disp rel M sz np xs :=
  h.below (Below.refl _ _).drew

set_option maxHeartbeats 400000 in
theorem fromAdd_any (w : World) (B g n : Nat) (disp rel : Bool) (M : Nat → Bool) (sz np : Nat) (xs : List Value) (j : Nat) (hn : n ≤ 65536) (hsz : sz ≤ 65536) (hj : j < n) (h : NodeSt w B g n disp rel M sz np xs) :
    Calls Try.prog 26 #[.pointer (some ⟨g, 0, none⟩), .int .i64 ((j : Int) + 1)] w fun e w' => e = .returned (.bool (!(M j))) ∧
      NodeSt w' B g n disp rel (ins M j) (inc M j sz) np xs ∧ Below B w w' := by
  have h2 := h.c2
  go_enter Try.func26, Try.ntmps26
  go_wp2
  go_region_held3 (fun w' => w'.cell? ⟨g, 2, none⟩ = some (.int .i64 n)) (go_keep) ((go_at_call 32; refine (add_any _ B g n disp rel M sz np xs j hn hsz hj h.drew).mono ?_; rintro e w' ⟨rfl, hst, hbel⟩; have hc2 := hst.c2; have HB := (Below.refl B w).drew.trans hbel))
  go_wp2
  go_ret
  exact ⟨rfl, hst, HB⟩

theorem relay_none (w : World) (g n : Nat) (rel : Bool) (h43 : w.cell? ⟨g, 43, none⟩ = some (.bool false)) :
    Calls Try.prog 35 #[.pointer (some ⟨g, 0, none⟩)] w fun e w' => e = .returned (.tuple #[]) ∧ w = w' := by
  go_enter Try.func35, Try.ntmps35
  go_wp2
  refine bodyPost_ret (results_none rfl _ _ _) rfl ?_
  exact ⟨rfl, rfl⟩

theorem info72 : (Try.prog.info? 72).map (fun i => (i.zero, i.size, i.bytes)) = some (some (.agg #[.slice none 0 0, .slice none 0 0]), 2, 48) := by kernel_rfl

theorem ins_same {M : Nat → Bool} {j : Nat} (h : M j = true) : ins M j = M := by
  funext i
  by_cases e : i = j
  · subst e; simp [ins, h]
  · simp [ins, e]

/-- No points: nothing happens. -/
theorem take_empty (w : World) (g : Nat) (id : Int) (ao : Option Addr) (c : Nat) :
    Calls Try.prog 30 #[.pointer (some ⟨g, 0, none⟩), .int .i64 id, .slice ao 0 c] w fun e w' => e = .returned (.tuple #[]) ∧ ∃ q, w' = w.drewN q := by
  have hd : ((0 : Int) == 0) = true := rfl
  go_enter Try.func30, Try.ntmps30
  go_wp2
  go_quiet (fail)
  go_wp2
  refine bodyPost_ret (results_none rfl _ _ _) rfl ?_
  exact ⟨rfl, _, rfl⟩

/-- The node has relayed: nothing happens. -/
theorem take_relayed (w : World) (g : Nat) (id : Int) (ao : Option Addr) (l c : Nat) (h0 : 0 < l) (h47 : w.cell? ⟨g, 47, none⟩ = some (.bool true)) :
    Calls Try.prog 30 #[.pointer (some ⟨g, 0, none⟩), .int .i64 id, .slice ao l c] w fun e w' => e = .returned (.tuple #[]) ∧ ∃ q, w' = w.drewN q := by
  have hd : ((l : Int) == 0) = false := beq_eq_false_iff_ne.2 (by omega)
  go_enter Try.func30, Try.ntmps30
  go_wp2
  go_quiet (fail)
  go_wp2
  refine bodyPost_ret (results_none rfl _ _ _) rfl ?_
  exact ⟨rfl, _, rfl⟩

/-- This sender's points are here already: nothing is kept. -/
theorem take_there (w : World) (B g n : Nat) (disp : Bool) (M : Nat → Bool) (sz np : Nat) (xs : List Value) (j : Nat) (ao : Option Addr) (l c : Nat) (h0 : 0 < l) (hn : n ≤ 65536) (hsz : sz ≤ 65536) (hj : j < n)
    (h : NodeSt w B g n disp false M sz np xs) (hM : M j = true) :
    Calls Try.prog 30 #[.pointer (some ⟨g, 0, none⟩), .int .i64 ((j : Int) + 1), .slice ao l c] w fun e w' => e = .returned (.tuple #[]) ∧
      NodeSt w' B g n disp false M sz np xs ∧ Below B w w' := by
  have hd : ((l : Int) == 0) = false := beq_eq_false_iff_ne.2 (by omega)
  have h2 := h.c2
  have h47 := h.c47
  go_enter Try.func30, Try.ntmps30
  go_wp2
  go_region_held3 (fun w' => w'.cell? ⟨g, 2, none⟩ = some (.int .i64 n) ∧ w'.cell? ⟨g, 47, none⟩ = some (.bool false)) (go_keep) ((go_at_call 32; refine (add_any _ B g n disp false M sz np xs j hn hsz hj h.drew).mono ?_; rintro e w' ⟨rfl, hst, hbel⟩; have hc2 := hst.c2; have hc47 := hst.c47; have HB := (Below.refl B w).drew.trans hbel))
  have hMs : (ins M j) = M := ins_same hM
  have hsz' : inc M j sz = sz := if_pos hM
  rw [hMs, hsz'] at hst
  clear hMs hsz'
  go_wp2
  refine bodyPost_ret (results_none rfl _ _ _) rfl ?_
  exact ⟨rfl, hst, HB⟩

/-- Points of a sender that has sent none yet, at a node whose dispersal has not ended: one column more. -/
theorem take_new (w : World) (B g n : Nat) (M : Nat → Bool) (sz np : Nat) (xs : List Value) (j : Nat) (ao : Option Addr) (l c : Nat) (h0 : 0 < l) (hn : n ≤ 65536) (hsz : sz ≤ 65536) (hnp : np ≤ 65536) (hj : j < n)
    (h : NodeSt w B g n false false M sz np xs) (hM : M j = false) :
    Calls Try.prog 30 #[.pointer (some ⟨g, 0, none⟩), .int .i64 ((j : Int) + 1), .slice ao l c] w fun e w' => e = .returned (.tuple #[]) ∧
      NodeSt w' B g n false false (ins M j) (sz + 1) (np + 1) (xs ++ [.slice ao l c, .slice none 0 0]) ∧ Below B w w' := by
  have hd : ((l : Int) == 0) = false := beq_eq_false_iff_ne.2 (by omega)
  have h2 := h.c2
  have h47 := h.c47
  go_enter Try.func30, Try.ntmps30
  go_wp2
  go_region_held3 (fun w' => w'.cell? ⟨g, 2, none⟩ = some (.int .i64 n) ∧ w'.cell? ⟨g, 47, none⟩ = some (.bool false)) (go_keep) ((go_at_call 32; refine (add_any _ B g n false false M sz np xs j hn hsz hj h.drew).mono ?_; rintro e w' ⟨rfl, hst, hbel⟩; have hc2 := hst.c2; have hc47 := hst.c47; have HB := (Below.refl B w).drew.trans hbel))
  have hsz' : inc M j sz = sz + 1 := if_neg (by simp [hM])
  rw [hsz'] at hst
  clear hsz' h h2 h47 hbel
  obtain ⟨vi, vp, h1, h2, h3, h4⟩ := hst
  have c46 := h1.c46
  obtain ⟨i72, hi72, hz0, hz1, hz2⟩ := info_parts info72
  have hBw : B ≤ w'.heap.size := by have := h1.lt; omega
  go_wp2_with (at_builtin; refine wpList_append_lies _ rfl _ _ 65 rfl B 72 i72 (.agg #[.slice none 0 0, .slice none 0 0]) 2 48 Try.underlying65 hi72 hz0 hz1 hz2 rfl (by decide) vp np xs rfl (h4.alloc _) ⟨w'.heap.size, 0, none⟩ 1 1 [.slice ao l c, .slice none 0 0] rfl rfl (World.news_of_block (heap_alloc_new _ _)) ?ha (by decide) ?hb ?hc ?hd _ rfl ?_)
  case ha => intro u hu; simp at hu; rcases hu with rfl | rfl <;> rfl
  case hb => unfold maxLen; omega
  case hc => omega
  case hd => simp; omega
  intro gp cap w1 hown hgrow hat hlt1
  have hx1 : w'.heap.size ≤ (w'.alloc (Obj.cells #[Value.slice ao l c, Value.slice none 0 0] 72)).heap.size := by simp
  have hnode1 : nodeAt w1 g n false false vi (sz + 1 : Nat) vp := (h1.alloc _).of_block (hgrow.block g (Nat.lt_of_lt_of_le h1.lt hx1) (fun e => h1.ne_own h4 (by decide) g e.symm rfl))
  have H3 : Hid ((vi = .slice none 0 0 ∧ sz + 1 = 0 ∧ ∀ i, ins M j i = false) ∨ ∃ gi, vi = .slice (some ⟨gi, 0, none⟩) n n ∧ B ≤ gi ∧ (w1.setCell ⟨g, 46, none⟩ (.slice (some ⟨gp, 0, none⟩) (np + 1) cap)).rowIs gi 4 n (fun i => .bool (ins M j i))) := by
    rcases h3 with h3 | ⟨gi, e, hB, hr⟩
    · exact .inl h3
    · refine .inr ⟨gi, e, hB, ((hr.alloc _).of_block (hgrow.block gi (Nat.lt_of_lt_of_le hr.lt hx1) (fun e => row_ne_own hr h4 (by decide) gi e.symm rfl))).setOther (Ne.symm (h1.ne_row hr (by decide))) _⟩
  have H4 : Hid ((w1.setCell ⟨g, 46, none⟩ (.slice (some ⟨gp, 0, none⟩) (np + 1) cap)).ownsRow B 72 2 (.slice (some ⟨gp, 0, none⟩) (np + 1) cap) (np + 1) (xs ++ [.slice ao l c, .slice none 0 0])) :=
    owns_of_block hown fun k hk => Below.heap_setCell _ _ _ _ (hnode1.ne_own hown (by decide) k hk)
  have H5 : Hid (Below B w (w1.setCell ⟨g, 46, none⟩ (.slice (some ⟨gp, 0, none⟩) (np + 1) cap))) := by
    refine ((HB.alloc hBw _).grown hgrow (Nat.le_trans hBw hx1) (fun k hk => (h4.lt k hk).1)).setCell h2 _
  have H6 : Hid (nodeAt (w1.setCell ⟨g, 46, none⟩ (.slice (some ⟨gp, 0, none⟩) (np + 1) cap)) g n false false vi (sz + 1 : Nat) (.slice (some ⟨gp, 0, none⟩) (np + 1) cap)) := hnode1.set46 _
  have d46 := hnode1.c46
  have f46 := hnode1.frozen 46
  have HH2 : Hid (B ≤ g) := h2
  clear h1 h2 h3 h4 c46 hown hgrow hat hlt1 hx1 hnode1 hc2 hc47 HB hBw
  go_wp2_with fail
  refine (relay_none _ g n false H6.out.c43).mono ?_
  rintro e w2 ⟨rfl, rfl⟩
  go_wp2_with fail
  go_end0
  exact ⟨rfl, ⟨vi, _, H6.out, HH2.out, H3.out, H4.out⟩, H5.out⟩

end Go.Proofs.Qxb6614814a.node
