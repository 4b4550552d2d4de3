import Derived.Test.Qxb6614814aRows
import Derived.WalkKit
import Derived.ProofKit
import Derived.OpenShut
import Derived.ShutString
import Derived.ChangeOld
import Derived.Below
import Derived.WalkSpells
import Derived.Laws.CopyOwn
namespace Go.Proofs.Qxb6614814a.whole
open Go.ChangeShapes Go.WideShapes Go.ChangeAt Go.RowKit
set_option linter.unusedVariables false

/-- Every flag of f 0 .. f (n - 1) is set. -/
def allT (n : Nat) (f : Nat → Bool) : Bool := (List.range n).all f
theorem allT_at {n : Nat} {f : Nat → Bool} (h : allT n f = true) (i : Nat) (hi : i < n) : f i = true := by
  simp [allT] at h
  exact h i hi
theorem allT_of {n : Nat} {f : Nat → Bool} (h : ∀ i, i < n → f i = true) : allT n f = true := by
  simpa [allT] using h
theorem allT_not {n : Nat} {f : Nat → Bool} (i : Nat) (hi : i < n) (h : f i = false) : allT n f = false := by
  cases e : allT n f with
  | false => rfl
  | true => rw [allT_at e i hi] at h; cases h

set_option maxHeartbeats 400000 in
theorem index_any (n : Nat) (f : Nat → Bool) (b off c : Nat) (w : World) (hl : n ≤ 65536) (hc : ∀ i, i < n → w.cell? ⟨b, off + i, none⟩ = some (.bool (f i))) :
    Calls Try.prog 39 #[.slice (some ⟨b, off, none⟩) n c, .bool false] w fun e w' => ∃ r : Int, e = .returned (.int .i64 r) ∧ decide (0 ≤ r) = !(allT n f) ∧ w' = w := by
  have HC : Hid (∀ i, i < n → w.cell? ⟨b, off + i, none⟩ = some (.bool (f i))) := hc
  clear hc
  go_enter Try.func39, Try.ntmps39
  go_wp2
  go_loop [8] (fun i => ∃ k : Nat, k ≤ n ∧ i = .int .i64 (k : Int) ∧ ∀ j, j < k → f j = true) (fun i => n - (intOf i).toNat)
  case atStart => exact ⟨0, Nat.zero_le _, rfl, fun j hj => absurd hj (Nat.not_lt_zero _)⟩
  case round =>
    obtain ⟨k, hk, rfl, hall⟩ := hrel
    have HA : Hid (∀ j, j < k → f j = true) := hall
    clear hall
    by_cases hlt : k < n
    · have hcx := HC.out k hlt
      cases hv : f k with
      | true =>
        rw [hv] at hcx
        have HV : Hid (f k = true) := hv
        clear hv
        go_wp2
        go_round
        case rel => exact ⟨k + 1, by omega, by go_num, fun j hj => by rcases Nat.lt_succ_iff_lt_or_eq.1 hj with h | rfl; exact HA.out j h; exact HV.out⟩
        case measure => simp [intOf]; omega
      | false =>
        rw [hv] at hcx
        have HV : Hid (allT n f = false) := allT_not k hlt hv
        clear hv
        go_wp2
        go_ret
        exact ⟨k, rfl, by rw [HV.out]; simp, rfl⟩
    · have HV : Hid (allT n f = true) := allT_of fun i hi => HA.out i (by omega)
      go_wp2
      go_ret
      exact ⟨-1, rfl, by rw [HV.out]; simp, rfl⟩

theorem index_none (ao : Option Addr) (c : Nat) (w : World) :
    Calls Try.prog 39 #[.slice ao 0 c, .bool false] w fun e w' => e = .returned (.int .i64 (-1)) ∧ w' = w := by
  go_enter Try.func39, Try.ntmps39
  go_wp2
  refine wp_loop_rounds 1 ?_
  rw [rounds_succ]
  go_wp2
  go_ret
  exact ⟨rfl, rfl⟩

theorem contains_any (n : Nat) (f : Nat → Bool) (b off c : Nat) (w : World) (hl : n ≤ 65536) (hc : ∀ i, i < n → w.cell? ⟨b, off + i, none⟩ = some (.bool (f i))) :
    Calls Try.prog 36 #[.slice (some ⟨b, off, none⟩) n c, .bool false] w fun e w' => e = .returned (.bool (!(allT n f))) ∧ w' = w := by
  go_enter Try.func36, Try.ntmps36
  go_wp2_with fail
  refine (index_any n f b off c _ hl hc).mono ?_
  rintro e w' ⟨r, rfl, hr, rfl⟩
  go_wp2
  go_ret
  exact ⟨rfl, rfl⟩

theorem contains_none (ao : Option Addr) (c : Nat) (w : World) :
    Calls Try.prog 36 #[.slice ao 0 c, .bool false] w fun e w' => e = .returned (.bool false) ∧ w' = w := by
  go_enter Try.func36, Try.ntmps36
  go_wp2_with fail
  refine (index_none ao c _).mono ?_
  rintro e w' ⟨rfl, rfl⟩
  go_wp2
  go_ret
  exact ⟨rfl, rfl⟩

theorem cell_alloc {w : World} {a : Addr} {v : Value} (h : w.cell? a = some v) (o : Obj) : (w.alloc o).cell? a = some v :=
  (((Below.refl w.heap.size w).alloc (Nat.le_refl _) o).cell (World.block_lt_of_cell? w a h)).trans h

/-- What 'whole' answers: hi is within the symbols; and no flag of [lo, hi) lacks (no flags at all: none lacks). -/
def wholeB (sn : Nat) (found : Option (Nat → Bool)) (lo hi : Nat) : Bool :=
  decide (hi ≤ sn) && (match found with | none => true | some f => allT (hi - lo) (fun i => f (lo + i)))

theorem whole_nil (sa : Option Addr) (sn sc : Nat) (lo hi : Nat) (w : World) (h1 : hi ≤ 9223372036854775807) (h0 : lo ≤ hi) (hs : sn ≤ 65536) :
    Calls Try.prog 31 #[.agg #[.slice sa sn sc, .slice none 0 0], .int .i64 (lo : Int), .int .i64 (hi : Int)] w fun e w' => e = .returned (.bool (wholeB sn none lo hi)) ∧ Below w.heap.size w w' := by
  have hq := fun w => Lib.run_eql_slice_nil (P := Try.prog) w
  by_cases h : hi ≤ sn
  · have HV : Hid (wholeB sn none lo hi = true) := show _ = _ by simp [wholeB, h]
    go_enter Try.func31, Try.ntmps31
    go_wp2
    go_ret
    exact ⟨by rw [HV.out]; rfl, (Below.refl _ _).alloc (Nat.le_refl _) _⟩
  · have HV : Hid (wholeB sn none lo hi = false) := show _ = _ by simp [wholeB, h]
    go_enter Try.func31, Try.ntmps31
    go_wp2
    go_ret
    exact ⟨by rw [HV.out]; rfl, (Below.refl _ _).alloc (Nat.le_refl _) _⟩

set_option maxHeartbeats 400000 in
theorem whole_some (sa : Option Addr) (sn sc : Nat) (g fn : Nat) (f : Nat → Bool) (lo hi : Nat) (w : World) (h1 : hi ≤ fn) (h0 : lo ≤ hi) (hs : sn ≤ 65536) (hf : fn ≤ 65536)
    (hc : ∀ i, i < fn → w.cell? ⟨g, i, none⟩ = some (.bool (f i))) :
    Calls Try.prog 31 #[.agg #[.slice sa sn sc, .slice (some ⟨g, 0, none⟩) fn fn], .int .i64 (lo : Int), .int .i64 (hi : Int)] w fun e w' => e = .returned (.bool (wholeB sn (some f) lo hi)) ∧ Below w.heap.size w w' := by
  have hq := fun w t e => Lib.run_eql_slice_nil (P := Try.prog) w t e (some ⟨g, 0, none⟩) fn fn 0 0
  have HC : Hid (∀ i, i < fn → w.cell? ⟨g, i, none⟩ = some (.bool (f i))) := hc
  clear hc
  by_cases h : hi ≤ sn
  · by_cases he : lo = fn
    · obtain rfl : hi = fn := by omega
      subst he
      have HV : Hid (wholeB sn (some f) lo lo = true) := show _ = _ by simp [wholeB, h, allT]
      go_enter Try.func31, Try.ntmps31
      go_wp2_with fail
      refine (contains_none _ _ _).mono ?_
      rintro e w' ⟨rfl, rfl⟩
      go_wp2
      go_ret
      exact ⟨by rw [HV.out]; rfl, (Below.refl _ _).alloc (Nat.le_refl _) _⟩
    · have HV : Hid (wholeB sn (some f) lo hi = allT (hi - lo) (fun i => f (lo + i))) := show _ = _ by simp [wholeB, h]
      go_enter Try.func31, Try.ntmps31
      go_wp2_with fail
      refine (contains_any (hi - lo) (fun i => f (lo + i)) g lo (fn - lo) _ (by omega) (fun i hi' => cell_alloc (HC.out (lo + i) (by omega)) _)).mono ?_
      rintro e w' ⟨rfl, rfl⟩
      go_wp2
      go_ret
      exact ⟨by rw [HV.out]; simp, (Below.refl _ _).alloc (Nat.le_refl _) _⟩
  · have HV : Hid (wholeB sn (some f) lo hi = false) := show _ = _ by simp [wholeB, h]
    go_enter Try.func31, Try.ntmps31
    go_wp2
    go_ret
    exact ⟨by rw [HV.out]; rfl, (Below.refl _ _).alloc (Nat.le_refl _) _⟩

theorem zzwhole_nil (sa : Option Addr) (sn sc : Nat) (lo hi : Nat) (w : World) (h1 : hi ≤ 9223372036854775807) (h0 : lo ≤ hi) (hs : sn ≤ 65536) :
    Calls Try.prog 24 #[.slice sa sn sc, .slice none 0 0, .int .i64 (lo : Int), .int .i64 (hi : Int)] w fun e w' => e = .returned (.bool (wholeB sn none lo hi)) ∧ Below w.heap.size w w' := by
  go_enter Try.func24, Try.ntmps24
  go_wp2_with fail
  refine (whole_nil sa sn sc lo hi _ h1 h0 hs).mono ?_
  rintro e w' ⟨rfl, hb⟩
  go_wp2
  go_ret
  exact ⟨rfl, hb⟩

theorem zzwhole_some (sa : Option Addr) (sn sc : Nat) (g fn : Nat) (f : Nat → Bool) (lo hi : Nat) (w : World) (h1 : hi ≤ fn) (h0 : lo ≤ hi) (hs : sn ≤ 65536) (hf : fn ≤ 65536)
    (hc : ∀ i, i < fn → w.cell? ⟨g, i, none⟩ = some (.bool (f i))) :
    Calls Try.prog 24 #[.slice sa sn sc, .slice (some ⟨g, 0, none⟩) fn fn, .int .i64 (lo : Int), .int .i64 (hi : Int)] w fun e w' => e = .returned (.bool (wholeB sn (some f) lo hi)) ∧ Below w.heap.size w w' := by
  have HC : Hid (∀ i, i < fn → w.cell? ⟨g, i, none⟩ = some (.bool (f i))) := hc
  clear hc
  go_enter Try.func24, Try.ntmps24
  go_wp2_with fail
  refine (whole_some sa sn sc g fn f lo hi _ h1 h0 hs hf HC.out).mono ?_
  rintro e w' ⟨rfl, hb⟩
  go_wp2
  go_ret
  exact ⟨rfl, hb⟩

/-- THE PLAIN LAW: whole over [lo, hi) is whole over [lo, m) and over [m, hi). -/
theorem wholeB_split (sn : Nat) (fo : Option (Nat → Bool)) (lo m hi : Nat) (h1 : lo ≤ m) (h2 : m ≤ hi) : wholeB sn fo lo hi = (wholeB sn fo lo m && wholeB sn fo m hi) := by
  by_cases h : hi ≤ sn
  · have h' : m ≤ sn := by omega
    cases fo with
    | none => simp [wholeB, h, h']
    | some f =>
      simp only [wholeB, h, h', decide_true, Bool.true_and]
      rw [Bool.eq_iff_iff, Bool.and_eq_true]
      constructor
      · intro ha
        refine ⟨allT_of fun i hi' => allT_at ha i (by omega), allT_of fun i hi' => ?_⟩
        have := allT_at ha (m - lo + i) (by omega)
        simpa [show lo + (m - lo + i) = m + i by omega] using this
      · rintro ⟨ha, hb⟩
        refine allT_of fun i hi' => ?_
        by_cases c : i < m - lo
        · exact allT_at ha i c
        · have := allT_at hb (i - (m - lo)) (by omega)
          simpa [show m + (i - (m - lo)) = lo + i by omega] using this
  · simp [wholeB, h]

end Go.Proofs.Qxb6614814a.whole
