import Derived.Test.Qxb6614814aRows
import Derived.WalkKit
import Derived.ProofKit
import Derived.OpenShut
import Derived.ShutString
import Derived.ChangeOld
import Derived.Below
import Derived.WalkSpells
import Derived.Laws.CopyOwn
import Derived.Deep.OwnRows
namespace Go.Proofs.Qxb6614814a.aids
open Go.ChangeShapes Go.WideShapes Go.ChangeAt Go.RowKit
set_option linter.unusedVariables false

theorem info3 : (Try.prog.info? 3).map (fun i => (i.zero, i.size, i.bytes)) = some (some (.int .i64 0), 1, 8) := by kernel_rfl
theorem info4 : (Try.prog.info? 4).map (fun i => (i.zero, i.size, i.bytes)) = some (some (.bool false), 1, 1) := by kernel_rfl
theorem info5 : (Try.prog.info? 5).map (fun i => (i.zero, i.size, i.bytes)) = some (some (.int .u8 0), 1, 1) := by kernel_rfl
theorem size4 : (Try.prog.info? 4).map (·.size) = some 1 := by kernel_rfl
theorem size5 : (Try.prog.info? 5).map (·.size) = some 1 := by kernel_rfl

theorem cell_alloc {w : World} {a : Addr} {v : Value} (h : w.cell? a = some v) (o : Obj) : (w.alloc o).cell? a = some v :=
  (((Below.refl w.heap.size w).alloc (Nat.le_refl _) o).cell (World.block_lt_of_cell? w a h)).trans h

theorem cell_below {w w' : World} (hb : Below w.heap.size w w') {a : Addr} {v : Value} (h : w.cell? a = some v) : w'.cell? a = some v :=
  (hb.cell (World.block_lt_of_cell? w a h)).trans h

/-- The cells V 0 .. V (n - 1), in a form that the walk's simp leaves alone. -/
def qArr (n : Nat) (V : Nat → Value) : Array Value := ((List.range n).map V).toArray
theorem qArr_size (n : Nat) (V : Nat → Value) : (qArr n V).size = n := by simp [qArr]
theorem qArr_get (n : Nat) (V : Nat → Value) (i : Nat) (hi : i < n) : (qArr n V)[i]? = some (V i) := by simp [qArr, hi]

/-- The row that lies whole in block g. -/
def qRow (w : World) (g : Nat) (t : TypeId) (n : Nat) (V : Nat → Value) : Prop := w.heap[g]? = some (.cells (qArr n V) t (0, 0))

theorem qRow.cell {w : World} {g : Nat} {t : TypeId} {n : Nat} {V : Nat → Value} (h : qRow w g t n V) (i : Nat) (hi : i < n) : w.cell? ⟨g, i, none⟩ = some (V i) := by
  rw [cell_of_row w g i _ t (0, 0) h, qArr_get n V i hi]

theorem qRow.frozen {w : World} {g : Nat} {t : TypeId} {n : Nat} {V : Nat → Value} (h : qRow w g t n V) (i : Nat) : w.frozen? ⟨g, i, none⟩ = false := by
  simp [World.frozen?, show w.heap[g]? = _ from h]

theorem qRow.lt {w : World} {g : Nat} {t : TypeId} {n : Nat} {V : Nat → Value} (h : qRow w g t n V) : g < w.heap.size := (Array.getElem?_eq_some_iff.1 h).1

theorem qRow.below {w w' : World} {B g : Nat} {t : TypeId} {n : Nat} {V : Nat → Value} (h : qRow w g t n V) (hb : Below B w w') (hB : g < B) : qRow w' g t n V :=
  (hb.block g hB).trans h

theorem qRow.alloc {w : World} {g : Nat} {t : TypeId} {n : Nat} {V : Nat → Value} (h : qRow w g t n V) (o : Obj) : qRow (w.alloc o) g t n V :=
  h.below ((Below.refl w.heap.size w).alloc (Nat.le_refl _) o) h.lt

theorem qRow_new (w : World) (t : TypeId) (n : Nat) (V : Nat → Value) : qRow (w.alloc (.cells (qArr n V) t)) w.heap.size t n V := heap_alloc_new w _

/-- 'copy(zzc, xs)' into the row that 'make' has just laid: the new row then holds what xs holds. An equation for the walk. -/
theorem run_copy_new {P : Program} (w : World) (t ty elem : TypeId) (hu : P.underlying t = some (.slice elem)) (hsz : (P.info? elem).map (·.size) = some 1) (H : Nat) (hH : w.heap.size = H)
    (n : Nat) (so : Option Addr) (sCap : Nat) (cur : Array Value) (hc : cur.size = n)
    (V : Nat → Value) (hV : ∀ k, k < n → ∃ ad, so = some ad ∧ w.cell? (ad.add k) = some (V k)) (h1 : ∀ k, k < n → (V k).oneCell' = true) :
    Sem.run P (Builtin.copy_ #[t, t] ty #[.slice (some ⟨H, 0, none⟩) n n, .slice so n sCap]) (w.alloc (.cells cur elem)) = .ok (.int .i64 (n : Int)) (w.alloc (.cells (qArr n V) elem)) := by
  subst hH
  by_cases h0 : n = 0
  · subst h0
    have hrun := run_copy_none (P := P) (w.alloc (.cells cur elem)) t t ty elem (some ⟨w.heap.size, 0, none⟩) so 0 0 0 sCap hu hsz (by simp)
    rw [hrun]
    obtain rfl : cur = #[] := Array.eq_empty_of_size_eq_zero hc
    simp [qArr, goInt]
  · obtain ⟨ad, rfl, _⟩ := hV 0 (by omega)
    have hrun := run_copy_row (P := P) (w.alloc (.cells cur elem)) t t ty elem w.heap.size 0 n n ad n sCap cur elem ((List.range n).map V) hu hsz (heap_alloc_new w _) (by simp) ?_ (by simp [hc]) ?_
    · have hcur : cur.toList.drop n = [] := List.drop_eq_nil_of_le (by simp [hc])
      rw [hrun]
      have e : (cur.toList.take 0 ++ (List.range n).map V ++ cur.toList.drop (0 + ((List.range n).map V).length)).toArray = qArr n V := by
        simp [qArr, hcur]
      rw [e]
      have e2 : (w.alloc (.cells cur elem)).setRow w.heap.size (qArr n V) = w.alloc (.cells (qArr n V) elem) := by
        show World.setRow { w with heap := w.heap.push _ } _ _ = { w with heap := w.heap.push _ }
        simp only [World.setRow]
        congr 1
        apply Array.ext_getElem?
        intro i
        rw [Array.getElem?_modify, Array.getElem?_push, Array.getElem?_push]
        by_cases hi : i = w.heap.size
        · subst hi; simp
        · simp [hi, Ne.symm hi]
      rw [e2]
      simp [goInt]
    · intro k v hk
      have hkn : k < n := by
        have := (List.getElem?_eq_some_iff.1 hk).1
        simpa using this
      obtain ⟨ad', e, hcell⟩ := hV k hkn
      obtain rfl := Option.some.inj e
      rw [cell_alloc hcell, ← hk]
      simp [hkn]
    · intro v hv
      simp only [List.mem_map, List.mem_range] at hv
      obtain ⟨k, hk, rfl⟩ := hv
      exact h1 k hk

end Go.Proofs.Qxb6614814a.aids
