import Derived.Test.Qxb6614814aBytes
import Derived.Test.Qxb6614814aAids
namespace Go.Proofs.Qxb6614814a.outb
open Go.ChangeShapes Go.WideShapes Go.ChangeAt Go.RowKit
set_option linter.unusedVariables false

theorem func_not_nil (p : Option Addr) (w : World) : (binOp .eql 54 (.func (.func 34) #[] #[.pointer p]) .nilFunc).run Try.prog w = .ok (.bool false) w := by kernel_rfl

theorem bel_alloc {w w' : World} {o : Obj} (h : Below w.heap.size w w') : Below w.heap.size w (w'.alloc o) := h.alloc h.size o

set_option maxHeartbeats 400000 in
theorem inner_any (kind round : Int) (ao : Option Addr) (n c : Nat) (t : Int) (g : Nat) (w : World)
    (h0 : w.cell? ⟨g, 0, none⟩ = some (.int .u8 kind)) (h1 : w.cell? ⟨g, 1, none⟩ = some (.int .i64 round)) (h2 : w.cell? ⟨g, 2, none⟩ = some (.slice ao n c)) (hg : g < w.heap.size) :
    Calls Try.prog 34 #[.int .i64 t, .pointer (some ⟨g, 0, none⟩)] w fun e w' =>
      e = .returned (.agg #[.int .u8 kind, .int .i64 round, .slice ao n c]) ∧ w' = w.alloc (.cells #[.int .u8 kind, .int .i64 round, .slice ao n c] 27) := by
  go_enter Try.func34, Try.ntmps34
  go_wp2
  exact bodyPost_ret (v := .agg #[.int .u8 kind, .int .i64 round, .slice ao n c]) (by simp [results, Try.results34, go_sem]) rfl ⟨rfl, rfl⟩

set_option maxHeartbeats 400000 in
theorem to_any (kind round : Int) (ao : Option Addr) (n c : Nat) (t : Int) (g : Nat) (w : World)
    (h0 : w.cell? ⟨g, 0, none⟩ = some (.int .u8 kind)) (h1 : w.cell? ⟨g, 1, none⟩ = some (.int .i64 round)) (h2 : w.cell? ⟨g, 2, none⟩ = some (.slice ao n c)) (hg : g < w.heap.size) :
    Calls Try.prog 29 #[.func (.func 34) #[] #[.pointer (some ⟨g, 0, none⟩)], .int .i64 t] w fun e w' =>
      e = .returned (.agg #[.int .u8 kind, .int .i64 round, .slice ao n c]) ∧ w' = (w.alloc (.cells #[.int .u8 kind, .int .i64 round, .slice ao n c] 27)).alloc (.cells #[.int .u8 kind, .int .i64 round, .slice ao n c] 27) := by
  have hf := fun w => func_not_nil (some ⟨g, 0, none⟩) w
  go_enter Try.func29, Try.ntmps29
  go_wp2_with fail
  refine (inner_any kind round ao n c t g _ ?_ ?_ ?_ ?_).mono ?_
  · exact aids.cell_alloc h0 _
  · exact aids.cell_alloc h1 _
  · exact aids.cell_alloc h2 _
  · simp; omega
  rintro e w' ⟨rfl, rfl⟩
  go_wp2
  exact bodyPost_ret (v := .agg #[.int .u8 kind, .int .i64 round, .slice ao n c]) (by simp [results, Try.results29, go_sem]) rfl ⟨rfl, rfl⟩

set_option maxHeartbeats 400000 in
theorem toAll_any (kind round : Int) (ao : Option Addr) (n c : Nat) (w : World) :
    Calls Try.prog 28 #[.int .u8 kind, .int .i64 round, .slice ao n c] w fun e w' =>
      e = .returned (.func (.func 34) #[] #[.pointer (some ⟨w.heap.size, 0, none⟩)]) ∧ w' = w.alloc (.cells #[.int .u8 kind, .int .i64 round, .slice ao n c] 27) := by
  go_enter Try.func28, Try.ntmps28
  go_wp2
  go_ret
  exact ⟨rfl, rfl⟩

set_option maxHeartbeats 1000000 in
theorem two (kind round : Int) (ao : Option Addr) (n c : Nat) (t1 t2 : Int) (w : World) :
    Calls Try.prog 11 #[.int .u8 kind, .int .i64 round, .slice ao n c, .int .i64 t1, .int .i64 t2] w fun e w' =>
      e = .returned (.tuple #[.agg #[.int .u8 kind, .int .i64 round, .slice ao n c], .agg #[.int .u8 kind, .int .i64 round, .slice ao n c]]) ∧ Below w.heap.size w w' := by
  go_enter Try.func11, Try.ntmps11
  go_wp2_with fail
  refine (toAll_any _ _ _ _ _ _).mono ?_
  rintro e w' ⟨rfl, rfl⟩
  go_wp2_with fail
  refine (to_any kind round ao n c t1 _ _ ?_ ?_ ?_ ?_).mono ?_
  · go_simp
  · go_simp
  · go_simp
  · simp
  rintro e w' ⟨rfl, rfl⟩
  go_wp2_with fail
  refine (to_any kind round ao n c t2 _ _ ?_ ?_ ?_ ?_).mono ?_
  · go_simp
  · go_simp
  · go_simp
  · simp
  rintro e w' ⟨rfl, rfl⟩
  go_wp2_with fail
  refine bodyPost_ret (v := .tuple #[.agg #[.int .u8 kind, .int .i64 round, .slice ao n c], .agg #[.int .u8 kind, .int .i64 round, .slice ao n c]]) (by simp [results, Try.results11, go_sem]) rfl ⟨rfl, ?_⟩
  exact bel_alloc (bel_alloc (bel_alloc (bel_alloc (bel_alloc (bel_alloc (bel_alloc (Below.refl _ _)))))))

theorem bytes_any (kind round : Int) (ao : Option Addr) (n c : Nat) (t1 t2 : Int) (w : World) (hn : n ≤ 9223372036854775807) :
    Calls Try.prog 9 #[.int .u8 kind, .int .i64 round, .slice ao n c, .int .i64 t1, .int .i64 t2] w fun e w' => e = .returned (.bool (decide (n ≤ 1048576))) ∧ w = w' := by
  by_cases h : n ≤ 1048576
  · have HV : Hid (decide (n ≤ 1048576) = true) := decide_eq_true h
    go_enter Try.func9, Try.ntmps9
    go_wp2
    go_ret
    exact ⟨by rw [HV.out]; rfl, rfl⟩
  · have HV : Hid (decide (n ≤ 1048576) = false) := decide_eq_false h
    go_enter Try.func9, Try.ntmps9
    go_wp2
    go_ret
    exact ⟨by rw [HV.out]; rfl, rfl⟩

end Go.Proofs.Qxb6614814a.outb
