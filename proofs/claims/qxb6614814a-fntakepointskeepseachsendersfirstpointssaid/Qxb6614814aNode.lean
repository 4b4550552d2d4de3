import Derived.Test.Qxb6614814aBytes
import Derived.Test.Qxb6614814aAids
import Derived.WalkSmall
import Derived.Deep.AppendLies
import Derived.Deep.RegionHeld3
namespace Go.Proofs.Qxb6614814a.node
open Go.ChangeShapes Go.WideShapes Go.ChangeAt Go.RowKit
open Go.Proofs.Qxb6614814a.byt
set_option linter.unusedVariables false

/-- A world that has turned, of what was there, at most the blocks that p names. -/
structure Kept (p : Nat → Prop) (w w' : World) : Prop where
  os : w'.os = w.os
  tape : w'.tape = w.tape
  output : w'.output = w.output
  size : w.heap.size ≤ w'.heap.size
  block : ∀ k, k < w.heap.size → ¬ p k → w'.heap[k]? = w.heap[k]?

theorem Kept.refl (p : Nat → Prop) (w : World) : Kept p w w := ⟨rfl, rfl, rfl, Nat.le_refl _, fun _ _ _ => rfl⟩
theorem Kept.trans {p : Nat → Prop} {a b c : World} (h : Kept p a b) (k : Kept p b c) : Kept p a c :=
  ⟨k.os.trans h.os, k.tape.trans h.tape, k.output.trans h.output, Nat.le_trans h.size k.size, fun i hi hp => (k.block i (Nat.lt_of_lt_of_le hi h.size) hp).trans (h.block i hi hp)⟩
theorem Kept.setCell {p : Nat → Prop} {a w : World} (h : Kept p a w) {q : Addr} (hq : p q.block ∨ a.heap.size ≤ q.block) (v : Value) : Kept p a (w.setCell q v) := by
  refine ⟨h.os, h.tape, h.output, by simpa [World.setCell] using h.size, fun k hk hp => ?_⟩
  rw [Below.heap_setCell _ _ _ _ (fun e => by subst e; rcases hq with hq | hq; exact hp hq; omega)]
  exact h.block k hk hp
theorem Kept.alloc {p : Nat → Prop} {a w : World} (h : Kept p a w) (o : Obj) : Kept p a (w.alloc o) :=
  ⟨h.os, h.tape, h.output, by have := h.size; simp; omega, fun k hk hp => (Below.heap_alloc _ _ _ (Nat.lt_of_lt_of_le hk h.size)).trans (h.block k hk hp)⟩
theorem Kept.drewN {p : Nat → Prop} {a w : World} (h : Kept p a w) (n : Nat) : Kept p a (w.drewN n) := ⟨h.os, h.tape, h.output, h.size, h.block⟩
theorem Kept.mono {p q : Nat → Prop} {a w : World} (h : Kept p a w) (hpq : ∀ k, p k → q k) : Kept q a w := ⟨h.os, h.tape, h.output, h.size, fun k hk hq => h.block k hk fun e => hq (hpq k e)⟩
theorem Kept.grown {p : Nat → Prop} {a w w' : World} {row : Option Nat} (h : Kept p a w) (hg : w.grownBy w' row) (hr : ∀ k, row = some k → p k ∨ a.heap.size ≤ k) : Kept p a w' :=
  ⟨hg.os.trans h.os, hg.tape.trans h.tape, hg.output.trans h.output, Nat.le_trans h.size hg.size, fun k hk hp => (hg.block k (Nat.lt_of_lt_of_le hk h.size) (fun e => by rcases hr k e.symm with h1 | h1; exact hp h1; omega)).trans (h.block k hk hp)⟩
theorem Kept.below {p : Nat → Prop} {a w : World} {B : Nat} (h : Kept p a w) (hB : B ≤ a.heap.size) (hp : ∀ k, p k → B ≤ k) : Below B a w :=
  ⟨h.os, h.tape, h.output, h.size, fun k hk => h.block k (by omega) (fun e => by have := hp k e; omega)⟩

theorem owns_of_block {w w' : World} {B : Nat} {e : TypeId} {s : Nat} {v : Value} {n : Nat} {xs : List Value} (h : w.ownsRow B e s v n xs) (hb : ∀ k, v.ownBlock = some k → w'.heap[k]? = w.heap[k]?) : w'.ownsRow B e s v n xs := by
  refine ⟨h.1, ?_⟩
  rcases h.2 with hn | ⟨g, cap, cur, rfl, h1, h2, h3⟩
  · exact .inl hn
  · exact .inr ⟨g, cap, cur, rfl, h1, (hb g rfl).trans h2, h3⟩

/-- The node's block: of its 54 cells those that the road reads or writes. -/
def nodeAt (w : World) (g : Nat) (n : Int) (disp rel : Bool) (vi : Value) (sz : Int) (vp : Value) : Prop :=
  ∃ c : Array Value, w.heap[g]? = some (.cells c 69 (0, 0)) ∧ c.size = 54 ∧ c[2]? = some (.int .i64 n) ∧ c[43]? = some (.bool disp) ∧ c[44]? = some vi ∧ c[45]? = some (.int .i64 sz) ∧ c[46]? = some vp ∧ c[47]? = some (.bool rel)

theorem set_ne {i j : Nat} (c : Array Value) (h : i ≠ j) (v : Value) : (c.setIfInBounds i v)[j]? = c[j]? := by rw [Array.getElem?_setIfInBounds, if_neg h]
theorem set_same (c : Array Value) (i : Nat) (v : Value) (h : i < c.size) : (c.setIfInBounds i v)[i]? = some v := by rw [Array.getElem?_setIfInBounds, if_pos rfl, if_pos h]

section
variable {w : World} {g : Nat} {n : Int} {disp rel : Bool} {vi : Value} {sz : Int} {vp : Value}
theorem nodeAt.lt (h : nodeAt w g n disp rel vi sz vp) : g < w.heap.size := by
  obtain ⟨c, hb, _⟩ := h
  exact (Array.getElem?_eq_some_iff.1 hb).1
theorem nodeAt.c2 (h : nodeAt w g n disp rel vi sz vp) : w.cell? ⟨g, 2, none⟩ = some (.int .i64 n) := by
  obtain ⟨c, hb, _, h2, h43, h44, h45, h46, h47⟩ := h
  simp [World.cell?, hb, h2]
theorem nodeAt.c43 (h : nodeAt w g n disp rel vi sz vp) : w.cell? ⟨g, 43, none⟩ = some (.bool disp) := by
  obtain ⟨c, hb, _, h2, h43, h44, h45, h46, h47⟩ := h
  simp [World.cell?, hb, h43]
theorem nodeAt.c44 (h : nodeAt w g n disp rel vi sz vp) : w.cell? ⟨g, 44, none⟩ = some vi := by
  obtain ⟨c, hb, _, h2, h43, h44, h45, h46, h47⟩ := h
  simp [World.cell?, hb, h44]
theorem nodeAt.c45 (h : nodeAt w g n disp rel vi sz vp) : w.cell? ⟨g, 45, none⟩ = some (.int .i64 sz) := by
  obtain ⟨c, hb, _, h2, h43, h44, h45, h46, h47⟩ := h
  simp [World.cell?, hb, h45]
theorem nodeAt.c46 (h : nodeAt w g n disp rel vi sz vp) : w.cell? ⟨g, 46, none⟩ = some vp := by
  obtain ⟨c, hb, _, h2, h43, h44, h45, h46, h47⟩ := h
  simp [World.cell?, hb, h46]
theorem nodeAt.c47 (h : nodeAt w g n disp rel vi sz vp) : w.cell? ⟨g, 47, none⟩ = some (.bool rel) := by
  obtain ⟨c, hb, _, h2, h43, h44, h45, h46, h47⟩ := h
  simp [World.cell?, hb, h47]
theorem nodeAt.frozen (h : nodeAt w g n disp rel vi sz vp) (i : Nat) : w.frozen? ⟨g, i, none⟩ = false := by
  obtain ⟨c, hb, _⟩ := h
  simp [World.frozen?, hb]
theorem nodeAt.of_block {w' : World} (h : nodeAt w g n disp rel vi sz vp) (e : w'.heap[g]? = w.heap[g]?) : nodeAt w' g n disp rel vi sz vp := by
  obtain ⟨c, hb, r⟩ := h
  exact ⟨c, e.trans hb, r⟩
theorem nodeAt.setOther (h : nodeAt w g n disp rel vi sz vp) {a : Addr} (ha : g ≠ a.block) (v : Value) : nodeAt (w.setCell a v) g n disp rel vi sz vp := h.of_block (Below.heap_setCell _ _ _ _ ha)
theorem nodeAt.alloc (h : nodeAt w g n disp rel vi sz vp) (o : Obj) : nodeAt (w.alloc o) g n disp rel vi sz vp := h.of_block (Below.heap_alloc _ _ _ h.lt)
theorem nodeAt.set44 (h : nodeAt w g n disp rel vi sz vp) (v : Value) : nodeAt (w.setCell ⟨g, 44, none⟩ v) g n disp rel v sz vp := by
  obtain ⟨c, hb, hs, h2, h43, h44, h45, h46, h47⟩ := h
  refine ⟨c.setIfInBounds 44 v, by simp [World.setCell, Array.getElem?_modify, hb], by simpa using hs, (set_ne _ (by decide) _).trans h2, (set_ne _ (by decide) _).trans h43, set_same _ _ _ (by omega), (set_ne _ (by decide) _).trans h45, (set_ne _ (by decide) _).trans h46, (set_ne _ (by decide) _).trans h47⟩
theorem nodeAt.set45 (h : nodeAt w g n disp rel vi sz vp) (z : Int) : nodeAt (w.setCell ⟨g, 45, none⟩ (.int .i64 z)) g n disp rel vi z vp := by
  obtain ⟨c, hb, hs, h2, h43, h44, h45, h46, h47⟩ := h
  refine ⟨c.setIfInBounds 45 (.int .i64 z), by simp [World.setCell, Array.getElem?_modify, hb], by simpa using hs, (set_ne _ (by decide) _).trans h2, (set_ne _ (by decide) _).trans h43, (set_ne _ (by decide) _).trans h44, set_same _ _ _ (by omega), (set_ne _ (by decide) _).trans h46, (set_ne _ (by decide) _).trans h47⟩
theorem nodeAt.set46 (h : nodeAt w g n disp rel vi sz vp) (v : Value) : nodeAt (w.setCell ⟨g, 46, none⟩ v) g n disp rel vi sz v := by
  obtain ⟨c, hb, hs, h2, h43, h44, h45, h46, h47⟩ := h
  refine ⟨c.setIfInBounds 46 v, by simp [World.setCell, Array.getElem?_modify, hb], by simpa using hs, (set_ne _ (by decide) _).trans h2, (set_ne _ (by decide) _).trans h43, (set_ne _ (by decide) _).trans h44, (set_ne _ (by decide) _).trans h45, set_same _ _ _ (by omega), (set_ne _ (by decide) _).trans h47⟩
theorem nodeAt.ne_row (h : nodeAt w g n disp rel vi sz vp) {b : Nat} {t : TypeId} {m : Nat} {f : Nat → Value} (hr : w.rowIs b t m f) (ht : t ≠ 69) : g ≠ b := by
  rintro rfl
  obtain ⟨c, hb, _⟩ := h
  obtain ⟨c', hb', _⟩ := hr
  rw [hb] at hb'
  simp at hb'
  exact ht hb'.2.symm
theorem nodeAt.ne_own (h : nodeAt w g n disp rel vi sz vp) {B : Nat} {t : TypeId} {s : Nat} {v : Value} {m : Nat} {xs : List Value} (hr : w.ownsRow B t s v m xs) (ht : t ≠ 69) : ∀ k, v.ownBlock = some k → k ≠ g := by
  rintro k hk rfl
  obtain ⟨c, hb, _⟩ := h
  rcases hr.2 with ⟨rfl, _⟩ | ⟨b, cap, cur, rfl, _, hb', _⟩
  · simp [Value.ownBlock] at hk
  · simp [Value.ownBlock] at hk
    subst hk
    rw [hb] at hb'
    simp at hb'
    exact ht hb'.2.symm
end

theorem row_ne_own {w : World} {b : Nat} {t t' : TypeId} {m : Nat} {f : Nat → Value} (h : w.rowIs b t m f) {B : Nat} {s : Nat} {v : Value} {k : Nat} {xs : List Value} (hr : w.ownsRow B t' s v k xs) (ht : t' ≠ t) : ∀ k, v.ownBlock = some k → k ≠ b := by
  rintro k hk rfl
  obtain ⟨c, hb, _⟩ := h
  rcases hr.2 with ⟨rfl, _⟩ | ⟨b, cap, cur, rfl, _, hb', _⟩
  · simp [Value.ownBlock] at hk
  · simp [Value.ownBlock] at hk
    subst hk
    rw [hb] at hb'
    simp at hb'
    exact ht hb'.2.symm

theorem info4 : (Try.prog.info? 4).map (fun i => (i.zero, i.size, i.bytes)) = some (some (.bool false), 1, 1) := by kernel_rfl

theorem heap_alloc_new' (w : World) (o : Obj) (k : Nat) (h : w.heap.size = k) : (w.alloc o).heap[k]? = some o := by subst h; exact heap_alloc_new w o

/-! ### (*nodeSet).add -/

set_option maxHeartbeats 400000 in
theorem add_there (w : World) (g n : Nat) (disp rel : Bool) (gi sz j : Nat) (vp : Value) (M : Nat → Bool) (hn : n ≤ 65536) (hj : j < n)
    (hnode : nodeAt w g n disp rel (.slice (some ⟨gi, 0, none⟩) n n) sz vp) (hrow : w.rowIs gi 4 n (fun i => .bool (M i))) (hM : M j = true) :
    Calls Try.prog 32 #[.pointer (some ⟨g, 44, none⟩), .int .i64 ((j : Int) + 1), .int .i64 (n : Int)] w fun e w' => e = .returned (.bool false) ∧ w = w' := by
  have h44 := hnode.c44
  have hc := hrow.cell hj
  simp only [hM] at hc
  have hq := fun w t e => Lib.run_eql_slice_nil (P := Try.prog) w t e (some ⟨gi, 0, none⟩) n n 0 0
  clear hnode hrow
  go_enter Try.func32, Try.ntmps32
  go_wp2
  go_ret
  exact ⟨rfl, rfl⟩

set_option maxHeartbeats 400000 in
theorem add_new (w : World) (g n : Nat) (disp rel : Bool) (gi sz j : Nat) (vp : Value) (M : Nat → Bool) (hn : n ≤ 65536) (hsz : sz ≤ 65536) (hj : j < n)
    (hnode : nodeAt w g n disp rel (.slice (some ⟨gi, 0, none⟩) n n) sz vp) (hrow : w.rowIs gi 4 n (fun i => .bool (M i))) (hM : M j = false) :
    Calls Try.prog 32 #[.pointer (some ⟨g, 44, none⟩), .int .i64 ((j : Int) + 1), .int .i64 (n : Int)] w fun e w' => e = .returned (.bool true) ∧
      nodeAt w' g n disp rel (.slice (some ⟨gi, 0, none⟩) n n) (sz + 1 : Nat) vp ∧ w'.rowIs gi 4 n (fun i => .bool (if i = j then true else M i)) ∧ Kept (fun k => k = g ∨ k = gi) w w' := by
  have h44 := hnode.c44
  have h45 := hnode.c45
  have hf45 := hnode.frozen 45
  have hc := hrow.cell hj
  have hfc := hrow.frozen j
  simp only [hM] at hc
  have hne := hnode.ne_row hrow (by decide)
  have hq := fun w t e => Lib.run_eql_slice_nil (P := Try.prog) w t e (some ⟨gi, 0, none⟩) n n 0 0
  have H1 : Hid (nodeAt ((w.setCell ⟨gi, j, none⟩ (.bool true)).setCell ⟨g, 45, none⟩ (.int .i64 ((sz : Int) + 1))) g n disp rel (.slice (some ⟨gi, 0, none⟩) n n) ((sz : Int) + 1) vp) := (hnode.setOther hne _).set45 _
  have H2 : Hid (((w.setCell ⟨gi, j, none⟩ (.bool true)).setCell ⟨g, 45, none⟩ (.int .i64 ((sz : Int) + 1))).rowIs gi 4 n (fun i => .bool (if i = j then true else M i))) :=
    ((hrow.set j (.bool true)).setOther (Ne.symm hne) _).congr fun i hi => by by_cases e : i = j <;> simp [e]
  have H3 : Hid (Kept (fun k => k = g ∨ k = gi) w ((w.setCell ⟨gi, j, none⟩ (.bool true)).setCell ⟨g, 45, none⟩ (.int .i64 ((sz : Int) + 1)))) :=
    ((Kept.refl _ _).setCell (.inl (.inr rfl)) _).setCell (.inl (.inl rfl)) _
  clear hnode hrow
  go_enter Try.func32, Try.ntmps32
  go_wp2
  go_ret
  exact ⟨rfl, H1.out, H2.out, H3.out⟩

set_option maxHeartbeats 400000 in
theorem add_first (w : World) (g n : Nat) (disp rel : Bool) (sz j : Nat) (vp : Value) (hn : n ≤ 65536) (hsz : sz ≤ 65536) (hj : j < n)
    (hnode : nodeAt w g n disp rel (.slice none 0 0) sz vp) :
    Calls Try.prog 32 #[.pointer (some ⟨g, 44, none⟩), .int .i64 ((j : Int) + 1), .int .i64 (n : Int)] w fun e w' => e = .returned (.bool true) ∧
      nodeAt w' g n disp rel (.slice (some ⟨w.heap.size, 0, none⟩) n n) (sz + 1 : Nat) vp ∧ w'.rowIs w.heap.size 4 n (fun i => .bool (if i = j then true else false)) ∧ Kept (fun k => k = g) w w' := by
  have h44 := hnode.c44
  have h45 := hnode.c45
  have hf44 := hnode.frozen 44
  have hf45 := hnode.frozen 45
  have hlt := hnode.lt
  have hmk := run_make_row' (P := Try.prog) 43 4 (.bool false) 1 Try.underlying43 info4 rfl .i64 .i64 n (by omega) (by omega)
  have hq := fun w t e a c d => Lib.run_eql_slice_nil (P := Try.prog) w t e a c d 0 0
  have hmc : (madeCells #[Value.bool false] n)[j]? = some (.bool false) := by simp [madeCells, hj, Nat.mod_one]
  go_enter Try.func32, Try.ntmps32
  go_wp2
  go_ret
  refine ⟨rfl, ?_, ?_, ?_⟩
  · exact ((hnode.set44 _).set45 _).alloc _
  · refine ⟨_, heap_alloc_new' _ _ _ (by simp), by simp [size_madeCells], fun i hi => ?_⟩
    rw [Array.getElem?_setIfInBounds]
    by_cases e : j = i
    · subst e; simp [size_madeCells, hj]
    · rw [if_neg e]
      show _ = some (Value.bool (if i = j then true else false))
      rw [if_neg (Ne.symm e)]
      simp [madeCells, hi, Nat.mod_one]
  · have hp : (fun k => k = g) g := rfl
    exact (((Kept.refl (fun k => k = g) w).setCell (q := ⟨g, 44, none⟩) (.inl hp) _).setCell (q := ⟨g, 45, none⟩) (.inl hp) _).alloc _

/-- ALL THAT IS KNOWN OF A NODE: its own blocks lie from B on; M: the senders that it has counted (0 for node 1), sz of them; it holds np columns, their cells xs. -/
def NodeSt (w : World) (B g n : Nat) (disp rel : Bool) (M : Nat → Bool) (sz np : Nat) (xs : List Value) : Prop :=
  ∃ vi vp, nodeAt w g n disp rel vi sz vp ∧ B ≤ g ∧
    ((vi = .slice none 0 0 ∧ sz = 0 ∧ ∀ j, M j = false) ∨ ∃ gi, vi = .slice (some ⟨gi, 0, none⟩) n n ∧ B ≤ gi ∧ w.rowIs gi 4 n (fun i => .bool (M i))) ∧
    w.ownsRow B 72 2 vp np xs

theorem NodeSt.below {w w' : World} {B g n : Nat} {disp rel : Bool} {M : Nat → Bool} {sz np : Nat} {xs : List Value} (h : NodeSt w B g n disp rel M sz np xs) (hb : Below w.heap.size w w') : NodeSt w' B g n disp rel M sz np xs := by
  obtain ⟨vi, vp, h1, h2, h3, h4⟩ := h
  refine ⟨vi, vp, h1.of_block (hb.block _ h1.lt), h2, ?_, owns_of_block h4 fun k hk => hb.block k (h4.lt k hk).2⟩
  rcases h3 with h3 | ⟨gi, e, hB, hr⟩
  · exact .inl h3
  · exact .inr ⟨gi, e, hB, hr.of_block (hb.block _ hr.lt)⟩

theorem NodeSt.lt {w : World} {B g n : Nat} {disp rel : Bool} {M : Nat → Bool} {sz np : Nat} {xs : List Value} (h : NodeSt w B g n disp rel M sz np xs) : B ≤ w.heap.size := by
  obtain ⟨vi, vp, h1, h2, _⟩ := h
  have := h1.lt
  omega

theorem NodeSt.congr {w : World} {B g n : Nat} {disp rel : Bool} {M M' : Nat → Bool} {sz np : Nat} {xs : List Value} (h : NodeSt w B g n disp rel M sz np xs) (e : ∀ j, M j = M' j) : NodeSt w B g n disp rel M' sz np xs := by
  obtain rfl : M = M' := funext e
  exact h

/-- The set with j in it; its size. (Plain definitions: the walk leaves them standing.) -/
def ins (M : Nat → Bool) (j : Nat) : Nat → Bool := fun i => if i = j then true else M i
def inc (M : Nat → Bool) (j sz : Nat) : Nat := if M j = true then sz else sz + 1

/-- (*nodeSet).add on the node's pointFrom. -/
theorem add_any (w : World) (B g n : Nat) (disp rel : Bool) (M : Nat → Bool) (sz np : Nat) (xs : List Value) (j : Nat) (hn : n ≤ 65536) (hsz : sz ≤ 65536) (hj : j < n) (h : NodeSt w B g n disp rel M sz np xs) :
    Calls Try.prog 32 #[.pointer (some ⟨g, 44, none⟩), .int .i64 ((j : Int) + 1), .int .i64 (n : Int)] w fun e w' => e = .returned (.bool (!(M j))) ∧
      NodeSt w' B g n disp rel (ins M j) (inc M j sz) np xs ∧ Below B w w' := by
  unfold ins inc
  have hBw := h.lt
  obtain ⟨vi, vp, h1, h2, h3, h4⟩ := h
  have hlt := h1.lt
  rcases h3 with ⟨rfl, rfl, hM⟩ | ⟨gi, rfl, hB, hr⟩
  · refine (add_first w g n disp rel 0 j vp hn hsz hj h1).mono ?_
    rintro e w' ⟨rfl, k1, k2, k3⟩
    refine ⟨by rw [hM j]; rfl, ⟨_, vp, by simpa [hM j] using k1, h2, .inr ⟨_, rfl, hBw, k2.congr fun i hi => by by_cases e : i = j <;> simp [e, hM]⟩, ?_⟩, k3.below hBw (fun k hk => by subst hk; exact h2)⟩
    exact owns_of_block h4 fun k hk => k3.block k (h4.lt k hk).2 (h1.ne_own h4 (by decide) k hk)
  · cases hM : M j with
    | true =>
      refine (add_there w g n disp rel gi sz j vp M hn hj h1 hr hM).mono ?_
      rintro e w' ⟨rfl, rfl⟩
      refine ⟨rfl, ⟨_, vp, by simpa using h1, h2, .inr ⟨gi, rfl, hB, hr.congr fun i hi => ?_⟩, h4⟩, Below.refl _ _⟩
      by_cases e : i = j
      · subst e; simp [hM]
      · simp [e]
    | false =>
      refine (add_new w g n disp rel gi sz j vp M hn hsz hj h1 hr hM).mono ?_
      rintro e w' ⟨rfl, k1, k2, k3⟩
      refine ⟨rfl, ⟨_, vp, by simpa using k1, h2, .inr ⟨gi, rfl, hB, k2⟩, ?_⟩, k3.below hBw (fun k hk => by rcases hk with rfl | rfl; exact h2; exact hB)⟩
      refine owns_of_block h4 fun k hk => k3.block k (h4.lt k hk).2 ?_
      rintro (e | e)
      · exact h1.ne_own h4 (by decide) k hk e
      · exact row_ne_own hr h4 (by decide) k hk e

/-! ### ZZnewRbcNode -/
set_option maxHeartbeats 400000 in
theorem new_any (w : World) (n : Nat) (t : Int) (disp rel : Bool) :
    Calls Try.prog 15 #[.int .i64 (n : Int), .int .i64 t, .bool disp, .bool rel] w fun e w' => e = .returned (.pointer (some ⟨w.heap.size, 0, none⟩)) ∧
      NodeSt w' w.heap.size w.heap.size n disp rel (fun _ => false) 0 0 [] ∧ Below w.heap.size w w' := by
  go_enter Try.func15, Try.ntmps15
  go_wp2
  go_ret
  refine ⟨rfl, ⟨.slice none 0 0, .slice none 0 0, ⟨_, heap_alloc_new w _, rfl, rfl, rfl, rfl, rfl, rfl, rfl⟩, Nat.le_refl _, .inl ⟨rfl, rfl, fun _ => rfl⟩, World.ownsRow_nil _ _ _ _⟩, (Below.refl _ _).alloc (Nat.le_refl _) _⟩

end Go.Proofs.Qxb6614814a.node
