import Derived.Test.Qxb6615703aRows
import Derived.WalkKit
import Derived.ProofKit
import Derived.OpenShut
import Derived.ShutString
import Derived.ChangeOld
import Derived.Below
import Derived.WalkSpells
import Derived.WalkSmall
import Derived.Deep.OwnRows
import Derived.Deep.QuietTactic
import Derived.BigQuiet
import Derived.Deep.AppendLies
import Derived.Deep.RegionHeld3
import Derived.Deep.DrawnRows
import Derived.Laws.AppendOwnNone
namespace Go.Proofs.Qxb6615703a.st
open Go.ChangeShapes Go.WideShapes Go.ChangeAt Go.RowKit
set_option linter.unusedVariables false

/-- A world that has turned, of what was there, at most the blocks that p names. -/
structure Kept (p : Nat → Prop) (w w' : World) : Prop where
  os : w'.os = w.os
  tape : w'.tape = w.tape
  output : w'.output = w.output
  size : w.heap.size ≤ w'.heap.size
  block : ∀ k, k < w.heap.size → ¬ p k → w'.heap[k]? = w.heap[k]?

theorem Kept.refl (p : Nat → Prop) (w : World) : Kept p w w := ⟨rfl, rfl, rfl, Nat.le_refl _, fun _ _ _ => rfl⟩
theorem Kept.trans {p : Nat → Prop} {a b c : World} (h : Kept p a b) (k : Kept p b c) : Kept p a c :=
  ⟨k.os.trans h.os, k.tape.trans h.tape, k.output.trans h.output, Nat.le_trans h.size k.size, fun i hi hp => (k.block i (Nat.lt_of_lt_of_le hi h.size) hp).trans (h.block i hi hp)⟩
theorem Kept.setCell {p : Nat → Prop} {a w : World} (h : Kept p a w) {q : Addr} (hq : p q.block ∨ a.heap.size ≤ q.block) (v : Value) : Kept p a (w.setCell q v) := by
  refine ⟨h.os, h.tape, h.output, by simpa [World.setCell] using h.size, fun k hk hp => ?_⟩
  rw [Below.heap_setCell _ _ _ _ (fun e => by subst e; rcases hq with hq | hq; exact hp hq; omega)]
  exact h.block k hk hp
theorem Kept.alloc {p : Nat → Prop} {a w : World} (h : Kept p a w) (o : Obj) : Kept p a (w.alloc o) :=
  ⟨h.os, h.tape, h.output, by have := h.size; simp; omega, fun k hk hp => (Below.heap_alloc _ _ _ (Nat.lt_of_lt_of_le hk h.size)).trans (h.block k hk hp)⟩
theorem Kept.drewN {p : Nat → Prop} {a w : World} (h : Kept p a w) (n : Nat) : Kept p a (w.drewN n) := ⟨h.os, h.tape, h.output, h.size, h.block⟩
theorem Kept.mono {p q : Nat → Prop} {a w : World} (h : Kept p a w) (hpq : ∀ k, p k → q k) : Kept q a w := ⟨h.os, h.tape, h.output, h.size, fun k hk hq => h.block k hk fun e => hq (hpq k e)⟩
theorem Kept.grown {p : Nat → Prop} {a w w' : World} {row : Option Nat} (h : Kept p a w) (hg : w.grownBy w' row) (hr : ∀ k, row = some k → p k ∨ a.heap.size ≤ k) : Kept p a w' :=
  ⟨hg.os.trans h.os, hg.tape.trans h.tape, hg.output.trans h.output, Nat.le_trans h.size hg.size, fun k hk hp => (hg.block k (Nat.lt_of_lt_of_le hk h.size) (fun e => by rcases hr k e.symm with h1 | h1; exact hp h1; omega)).trans (h.block k hk hp)⟩
theorem Kept.below {p : Nat → Prop} {a w : World} {B : Nat} (h : Kept p a w) (hB : B ≤ a.heap.size) (hp : ∀ k, p k → B ≤ k) : Below B a w :=
  ⟨h.os, h.tape, h.output, h.size, fun k hk => h.block k (by omega) (fun e => by have := hp k e; omega)⟩

theorem owns_of_block {w w' : World} {B : Nat} {e : TypeId} {s : Nat} {v : Value} {n : Nat} {xs : List Value} (h : w.ownsRow B e s v n xs) (hb : ∀ k, v.ownBlock = some k → w'.heap[k]? = w.heap[k]?) : w'.ownsRow B e s v n xs := by
  refine ⟨h.1, ?_⟩
  rcases h.2 with hn | ⟨g, cap, cur, rfl, h1, h2, h3⟩
  · exact .inl hn
  · exact .inr ⟨g, cap, cur, rfl, h1, (hb g rfl).trans h2, h3⟩

theorem cell_below {w w' : World} (hb : Below w.heap.size w w') {a : Addr} {v : Value} (h : w.cell? a = some v) : w'.cell? a = some v :=
  (hb.cell (World.block_lt_of_cell? w a h)).trans h
theorem bel_alloc {w w' : World} {o : Obj} (h : Below w.heap.size w w') : Below w.heap.size w (w'.alloc o) := h.alloc h.size o
theorem heap_alloc_new' (w : World) (o : Obj) (k : Nat) (h : w.heap.size = k) : (w.alloc o).heap[k]? = some o := by subst h; exact heap_alloc_new w o

/-! ### Strings as cells -/
def strc (P : List ByteArray) : List Value := P.map Value.string
theorem strc_len (P : List ByteArray) : (strc P).length = P.length := by simp [strc]
theorem strc_snoc (P : List ByteArray) (s : ByteArray) : strc (P ++ [s]) = strc P ++ [.string s] := by simp [strc]
theorem strc_get (P : List ByteArray) (k : Nat) (hk : k < P.length) : (strc P)[k]? = some (.string (P.getD k ByteArray.empty)) := by simp [strc, List.getD, hk]
theorem take_snoc (P : List ByteArray) (k : Nat) (hk : k < P.length) : P.take (k + 1) = P.take k ++ [P.getD k ByteArray.empty] := by
  rw [List.take_succ_eq_append_getElem hk]
  simp [List.getD, hk]
theorem rev_snoc (P : List ByteArray) (k : Nat) (hk : k < P.length) : P.reverse.take (P.length - k) = P.reverse.take (P.length - (k + 1)) ++ [P.getD k ByteArray.empty] := by
  have h := take_snoc P.reverse (P.length - (k + 1)) (by simp; omega)
  rw [show P.length - (k + 1) + 1 = P.length - k by omega] at h
  rw [h]
  congr 2
  simp only [List.getD]
  rw [List.getElem?_reverse (by omega)]
  rw [show P.length - 1 - (P.length - (k + 1)) = k by omega]

theorem owns_strs {w : World} {B g n cap : Nat} {P : List ByteArray} (h : w.ownsRow B 9 1 (.slice (some ⟨g, 0, none⟩) n cap) n (strc P)) (k : Nat) (hk : k < P.length) : w.cell? ⟨g, k, none⟩ = some (.string (P.getD k ByteArray.empty)) := by
  have := h.cells (g := g) rfl k _ (strc_get P k hk)
  have hadd : (⟨g, 0, none⟩ : Addr).add k = ⟨g, k, none⟩ := by unfold Addr.add; split <;> simp_all
  rwa [hadd] at this

theorem info9 : (Try.prog.info? 9).map (fun i => (i.zero, i.size, i.bytes)) = some (some (.string ByteArray.empty), 1, 16) := by kernel_rfl

/-! ### The stack in memory: four small blocks, and the rows of the two slices of strings -/
def ownOf (gS gL gD gB : Nat) (vp vq : Value) : Nat → Prop := fun k => k = gS ∨ k = gL ∨ k = gD ∨ k = gB ∨ vp.ownBlock = some k ∨ vq.ownBlock = some k

structure Mem (w : World) (B gS gL gD gB : Nat) (vp vq : Value) (P Q : List ByteArray) (ln : Int) : Prop where
  S : w.heap[gS]? = some (.cells #[.nilIface, .slice (some ⟨gL, 0, none⟩) 1 1] 40 (0, 0))
  L : w.heap[gL]? = some (.cells #[.pointer (some ⟨gD, 0, none⟩)] 36 (0, 0))
  D : w.heap[gD]? = some (.cells #[.slice (some ⟨gB, 0, none⟩) 1 1, .int .i64 ln] 45 (0, 0))
  B' : w.heap[gB]? = some (.cells #[vp, vq, .int .i64 0] 42 (0, 0))
  P' : w.ownsRow B 9 1 vp P.length (strc P)
  Q' : w.ownsRow B 9 1 vq Q.length (strc Q)
  apart : ∀ k, vp.ownBlock = some k → vq.ownBlock = some k → False
  bS : B ≤ gS
  bL : B ≤ gL
  bD : B ≤ gD
  bB : B ≤ gB

/-- The stack's state: the lines pushed (the newest last), the lines queued, the count. 'own': the blocks that are its own. -/
def StackSt (w : World) (B gS gL gD gB : Nat) (own : Nat → Prop) (P Q : List ByteArray) (ln : Int) : Prop :=
  ∃ vp vq, Mem w B gS gL gD gB vp vq P Q ln ∧ own = ownOf gS gL gD gB vp vq

end Go.Proofs.Qxb6615703a.st
