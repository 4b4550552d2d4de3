import Derived.Test.Qxb6614814aRows
import Derived.WalkKit
import Derived.ProofKit
import Derived.OpenShut
import Derived.ShutString
import Derived.ChangeOld
import Derived.Below
import Derived.WalkSpells
import Derived.Deep.OwnRows
import Derived.Deep.QuietTactic
import Derived.BigQuiet
namespace Go.Proofs.Qxb6614814a.byt
open Go.ChangeShapes Go.WideShapes Go.ChangeAt Go.RowKit
set_option linter.unusedVariables false

theorem info5 : (Try.prog.info? 5).map (fun i => (i.zero, i.size, i.bytes)) = some (some (.int .u8 0), 1, 1) := by kernel_rfl

/-- A []byte that may lie anywhere: where it has an element its address is plain, and the cells hold Z. -/
def bytesAt (w : World) (ao : Option Addr) (n : Nat) (Z : Nat → Int) : Prop :=
  0 < n → ∃ b off, ao = some ⟨b, off, none⟩ ∧ ∀ i, i < n → w.cell? ⟨b, off + i, none⟩ = some (.int .u8 (Z i))

theorem bytesAt.below {w w' : World} {ao : Option Addr} {n : Nat} {Z : Nat → Int} (h : bytesAt w ao n Z) (hb : Below w.heap.size w w') : bytesAt w' ao n Z := by
  intro h0
  obtain ⟨b, off, e, hc⟩ := h h0
  exact ⟨b, off, e, fun i hi => (hb.cell (World.block_lt_of_cell? w _ (hc i hi))).trans (hc i hi)⟩

theorem bytesAt_row {w : World} {g n : Nat} {Z : Nat → Int} (h : w.rowIs g 5 n (fun i => .int .u8 (Z i))) : bytesAt w (some ⟨g, 0, none⟩) n Z :=
  fun _ => ⟨g, 0, rfl, fun i hi => by simpa using h.cell hi⟩

theorem clone_nil (w : World) : Calls Try.prog 10 #[.slice none 0 0] w fun e w' => e = .returned (.slice none 0 0) ∧ w = w' := by
  have hq := fun w t e => Lib.run_eql_slice_nil (P := Try.prog) w t e none 0 0 0 0
  go_enter Try.func10, Try.ntmps10
  go_wp2
  go_ret
  exact ⟨rfl, rfl⟩

set_option maxHeartbeats 400000 in
theorem clone_some (x : Addr) (n c : Nat) (Z : Nat → Int) (w : World) (hn : n ≤ 1048576) (hx : bytesAt w (some x) n Z) :
    Calls Try.prog 10 #[.slice (some x) n c] w fun e w' => e = .returned (.slice (some ⟨w.heap.size, 0, none⟩) n n) ∧ w'.rowIs w.heap.size 5 n (fun i => .int .u8 (Z i)) ∧ Below w.heap.size w w' ∧ w'.heap.size = w.heap.size + 1 := by
  have hmk := run_make_row' (P := Try.prog) 22 5 (.int .u8 0) 1 Try.underlying22 info5 rfl .i64 .i64 n (by omega) (by omega)
  by_cases h0 : n = 0
  · subst h0
    have hq := fun w t e => Lib.run_eql_slice_nil (P := Try.prog) w t e (some x) 0 c 0 0
    have hmk0 : ∀ w : World, (Instr.makeSlice 22 (.int .i64 0) (.int .i64 0)).run Try.prog w = .ok (.slice (some ⟨w.heap.size, 0, none⟩) 0 0) (w.alloc (.cells (madeCells #[.int .u8 0] 0) 5)) := fun w => hmk w
    clear hx hmk
    go_enter Try.func10, Try.ntmps10
    go_wp2
    refine wp_loop_rounds 1 ?_
    rw [rounds_succ]
    go_wp2
    go_ret
    refine ⟨rfl, ?_, (Below.refl _ _).alloc (Nat.le_refl _) _, by simp⟩
    exact (World.rowIs_made w (.int .u8 0) 0 5).congr (fun i hi => absurd hi (Nat.not_lt_zero _))
  · obtain ⟨b, off, e, hc⟩ := hx (by omega)
    obtain rfl := Option.some.inj e
    clear e hx
    have hq := fun w t e => Lib.run_eql_slice_nil (P := Try.prog) w t e (some ⟨b, off, none⟩) n c 0 0
    have HC : Hid (∀ i, i < n → w.cell? ⟨b, off + i, none⟩ = some (.int .u8 (Z i))) := hc
    clear hc
    go_enter Try.func10, Try.ntmps10
    go_wp2
    go_loopw [4] (fun i wr => ∃ k : Nat, k ≤ n ∧ i = .int .i64 (k : Int) ∧ wr.rowIs w.heap.size 5 n (fun j => .int .u8 (if j < k then Z j else 0)) ∧ Below w.heap.size w wr ∧ wr.heap.size = w.heap.size + 1) (fun i _ => n - (intOf i).toNat)
    case atStart => exact ⟨0, Nat.zero_le _, rfl, World.rowIs_made w (.int .u8 0) n 5, (Below.refl _ _).alloc (Nat.le_refl _) _, by simp⟩
    case round =>
      obtain ⟨k, hk, rfl, hrow, hbel, hsz⟩ := hrel
      have HS : Hid (wr.heap.size = w.heap.size + 1) := hsz
      clear hsz
      by_cases hlt : k < n
      · have hcx : wr.cell? ⟨b, off + k, none⟩ = some (.int .u8 (Z k)) := (hbel.cell (World.block_lt_of_cell? w _ (HC.out k hlt))).trans (HC.out k hlt)
        have hg1 := hrow.cell hlt
        have hg2 := hrow.frozen k
        have HR : Hid ((wr.setCell ⟨w.heap.size, k, none⟩ (.int .u8 (Z k))).rowIs w.heap.size 5 n (fun j => .int .u8 (if j < k + 1 then Z j else 0))) := by
          refine (hrow.set k (.int .u8 (Z k))).congr fun j hj => ?_
          by_cases e : j = k
          · subst e; simp
          · simp only [e, if_false]
            by_cases e2 : j < k
            · simp [e2, show j < k + 1 by omega]
            · simp [e2, show ¬ j < k + 1 by omega]
        have HB : Hid (Below w.heap.size w (wr.setCell ⟨w.heap.size, k, none⟩ (.int .u8 (Z k)))) := hbel.setCell (Nat.le_refl _) _
        clear hrow hbel
        go_wp2
        go_roundw
        case rel => exact ⟨k + 1, by omega, by go_num, HR.out, HB.out, by simpa using HS.out⟩
        case measure => simp [intOf]; omega
      · obtain rfl : k = n := by omega
        have HR : Hid (wr.rowIs w.heap.size 5 k (fun j => .int .u8 (Z j))) := hrow.congr fun j hj => by simp [hj]
        clear hrow
        go_wp2
        go_ret
        exact ⟨rfl, HR.out, hbel, HS.out⟩

theorem same_empty (a b : Option Addr) (ca cb : Nat) (w : World) : Calls Try.prog 12 #[.slice a 0 ca, .slice b 0 cb] w fun e w' => e = .returned (.bool true) ∧ ∃ q, w' = w.drewN q := by
  go_enter Try.func12, Try.ntmps12
  go_wp2
  refine wp_loop_rounds 1 ?_
  rw [rounds_succ]
  go_wp2
  go_ret
  exact ⟨rfl, 0, rfl⟩

set_option maxHeartbeats 400000 in
theorem same_some (a b : Option Addr) (n ca cb : Nat) (Z : Nat → Int) (w : World) (hn : n ≤ 1048576) (ha : bytesAt w a n Z) (hb : bytesAt w b n Z) :
    Calls Try.prog 12 #[.slice a n ca, .slice b n cb] w fun e w' => e = .returned (.bool true) ∧ ∃ q, w' = w.drewN q := by
  by_cases h0 : n = 0
  · subst h0
    exact same_empty a b ca cb w
  · obtain ⟨b1, o1, rfl, hc1⟩ := ha (by omega)
    obtain ⟨b2, o2, rfl, hc2⟩ := hb (by omega)
    have H1 : Hid (∀ i, i < n → w.cell? ⟨b1, o1 + i, none⟩ = some (.int .u8 (Z i))) := hc1
    have H2 : Hid (∀ i, i < n → w.cell? ⟨b2, o2 + i, none⟩ = some (.int .u8 (Z i))) := hc2
    clear hc1 hc2 ha hb
    go_enter Try.func12, Try.ntmps12
    go_wp2
    go_loopw [5] (fun i wr => ∃ k : Nat, k ≤ n ∧ i = .int .i64 (k : Int) ∧ ∃ q, wr = w.drewN q) (fun i _ => n - (intOf i).toNat)
    case atStart => exact ⟨0, Nat.zero_le _, rfl, 0, rfl⟩
    case round =>
      obtain ⟨k, hk, rfl, q, rfl⟩ := hrel
      by_cases hlt : k < n
      · have hcx1 := H1.out k hlt
        have hcx2 := H2.out k hlt
        have hi1 : (k : Int) < (n : Int) := by omega
        have hi0 : (0 : Int) ≤ (k : Int) := by omega
        go_wp2
        go_quiet (fail)
        go_wp2
        go_roundw
        case rel => exact ⟨k + 1, by omega, by go_num, q + nq, by simp⟩
        case measure => simp [intOf]; omega
      · go_wp2
        go_ret
        exact ⟨rfl, q, rfl⟩

end Go.Proofs.Qxb6614814a.byt
