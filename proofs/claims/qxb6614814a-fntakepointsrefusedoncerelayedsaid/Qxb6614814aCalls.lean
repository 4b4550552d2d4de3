import Derived.Test.Qxb6614814aTake
namespace Go.Proofs.Qxb6614814a.node
open Go.ChangeShapes Go.WideShapes Go.ChangeAt Go.RowKit
open Go.Proofs.Qxb6614814a.byt
set_option linter.unusedVariables false

/-- The calls kept so far hold this sender. -/
def memb (F : Nat → Nat) (K : List Nat) : Nat → Bool := fun j => K.any fun i => F i == j
/-- What the node keeps of arrival i: its points, where they are not empty and the sender's first. -/
def keep (F L : Nat → Nat) (K : List Nat) (i : Nat) : List Nat := if L i = 0 ∨ memb F K (F i) = true then K else K ++ [i]
/-- .. of the first k arrivals. -/
def kept (F L : Nat → Nat) : Nat → List Nat
  | 0 => []
  | k + 1 => keep F L (kept F L k) k
/-- The columns' cells. -/
def cols (A : Nat → Option Addr) (L C : Nat → Nat) (K : List Nat) : List Value := K.flatMap fun i => [.slice (A i) (L i) (C i), .slice none 0 0]

theorem memb_snoc (F : Nat → Nat) (K : List Nat) (i : Nat) : memb F (K ++ [i]) = ins (memb F K) (F i) := by
  funext j
  simp only [memb, ins, List.any_append, List.any_cons, List.any_nil, Bool.or_false]
  by_cases e : j = F i
  · subst e; simp
  · simp [e, Ne.symm e]

theorem cols_snoc (A : Nat → Option Addr) (L C : Nat → Nat) (K : List Nat) (i : Nat) : cols A L C (K ++ [i]) = cols A L C K ++ [.slice (A i) (L i) (C i), .slice none 0 0] := by
  simp [cols]

/-- How many of 0 .. n-1 are in the set. -/
def cnt (M : Nat → Bool) : Nat → Nat
  | 0 => 0
  | k + 1 => cnt M k + if M k = true then 1 else 0

theorem cnt_le (M : Nat → Bool) (n : Nat) : cnt M n ≤ n := by
  induction n with
  | zero => simp [cnt]
  | succ n ih => simp only [cnt]; split <;> omega

theorem cnt_ins_out (M : Nat → Bool) (j n : Nat) (h : n ≤ j) : cnt (ins M j) n = cnt M n := by
  induction n with
  | zero => rfl
  | succ n ih =>
    simp only [cnt]
    rw [ih (by omega)]
    simp [ins, show n ≠ j by omega]

theorem cnt_ins (M : Nat → Bool) (j n : Nat) (hj : j < n) (h : M j = false) : cnt (ins M j) n = cnt M n + 1 := by
  induction n with
  | zero => omega
  | succ n ih =>
    simp only [cnt]
    by_cases e : j = n
    · subst e
      rw [cnt_ins_out M j j (Nat.le_refl _)]
      simp [ins, h]
    · rw [ih (by omega)]
      simp [ins, show n ≠ j by omega]
      omega

theorem cnt_nil (n : Nat) : cnt (fun _ => false) n = 0 := by
  induction n with
  | zero => rfl
  | succ n ih => simp [cnt, ih]

theorem memb_nil (F : Nat → Nat) : memb F [] = fun _ => false := by funext j; simp [memb]

/-- What one arrival more does to the set. -/
theorem memb_kept_zero (F L : Nat → Nat) (k : Nat) (h : L k = 0) : memb F (kept F L (k + 1)) = memb F (kept F L k) := by
  simp [kept, keep, h]
theorem memb_kept_pos (F L : Nat → Nat) (k : Nat) (h : L k ≠ 0) : memb F (kept F L (k + 1)) = ins (memb F (kept F L k)) (F k) := by
  simp only [kept, keep]
  cases hM : memb F (kept F L k) (F k) with
  | true =>
    simp only [or_true, if_true]
    funext i
    by_cases e : i = F k
    · subst e; simp [ins, hM]
    · simp [ins, e]
  | false => rw [if_neg (by simp [h])]; exact memb_snoc F _ k

theorem kept_len (F L : Nat → Nat) (n k : Nat) (hF : ∀ i, i < k → F i < n) : (kept F L k).length = cnt (memb F (kept F L k)) n := by
  induction k with
  | zero => simp [kept, memb_nil, cnt_nil]
  | succ k ih =>
    have ih := ih fun i hi => hF i (by omega)
    simp only [kept, keep]
    by_cases h : L k = 0 ∨ memb F (kept F L k) (F k) = true
    · rw [if_pos h]; exact ih
    · rw [if_neg h, memb_snoc, cnt_ins _ _ _ (hF k (by omega)) (by simpa using fun e => h (.inr e))]
      simp [ih]

theorem kept_le (F L : Nat → Nat) (k : Nat) : (kept F L k).length ≤ k := by
  induction k with
  | zero => simp [kept]
  | succ k ih =>
    simp only [kept, keep]
    split
    · omega
    · simp; omega

def nodeK (w : World) (B g n : Nat) (F : Nat → Nat) (A : Nat → Option Addr) (L C : Nat → Nat) (K : List Nat) : Prop :=
  NodeSt w B g n false false (memb F K) K.length K.length (cols A L C K)

theorem take_fresh (w : World) (B g n : Nat) (F : Nat → Nat) (A : Nat → Option Addr) (L C : Nat → Nat) (K : List Nat) (i : Nat) (hn : n ≤ 65536) (hK : K.length ≤ 65536) (hF : F i < n) (h : nodeK w B g n F A L C K) :
    Calls Try.prog 30 #[.pointer (some ⟨g, 0, none⟩), .int .i64 ((F i : Int) + 1), .slice (A i) (L i) (C i)] w fun e w' => e = .returned (.tuple #[]) ∧ nodeK w' B g n F A L C (keep F L K i) ∧ Below B w w' := by
  by_cases h0 : L i = 0
  · rw [h0]
    refine (take_empty w g _ _ _).mono ?_
    rintro e w' ⟨rfl, q, rfl⟩
    refine ⟨rfl, ?_, below_drewN (Below.refl _ _) q⟩
    rw [keep, if_pos (.inl h0)]
    exact NodeSt.drewN h q
  · cases hM : memb F K (F i) with
    | true =>
      refine (take_there w B g n false (memb F K) _ _ _ (F i) (A i) (L i) (C i) (by omega) hn hK hF h hM).mono ?_
      rintro e w' ⟨rfl, h1, h2⟩
      refine ⟨rfl, ?_, h2⟩
      rw [keep, if_pos (.inr hM)]
      exact h1
    | false =>
      refine (take_new w B g n (memb F K) _ _ _ (F i) (A i) (L i) (C i) (by omega) hn hK hK hF h hM).mono ?_
      rintro e w' ⟨rfl, h1, h2⟩
      refine ⟨rfl, ?_, h2⟩
      rw [keep, if_neg (by simp [h0, hM])]
      unfold nodeK
      rw [memb_snoc, cols_snoc]
      simpa using h1

theorem zztake_fresh (w : World) (B g n : Nat) (F : Nat → Nat) (A : Nat → Option Addr) (L C : Nat → Nat) (K : List Nat) (i : Nat) (hn : n ≤ 65536) (hK : K.length ≤ 65536) (hF : F i < n) (h : nodeK w B g n F A L C K) :
    Calls Try.prog 16 #[.pointer (some ⟨g, 0, none⟩), .int .i64 ((F i : Int) + 1), .slice (A i) (L i) (C i)] w fun e w' => e = .returned (.tuple #[]) ∧ nodeK w' B g n F A L C (keep F L K i) ∧ Below B w w' := by
  go_enter Try.func16, Try.ntmps16
  go_wp2_with fail
  refine (take_fresh _ B g n F A L C K i hn hK hF h).mono ?_
  rintro e w' ⟨rfl, h1, h2⟩
  go_wp2_with fail
  go_end0
  exact ⟨rfl, h1, h2⟩

theorem zztake_done (w : World) (g : Nat) (id : Int) (ao : Option Addr) (l c : Nat) (h47 : w.cell? ⟨g, 47, none⟩ = some (.bool true)) :
    Calls Try.prog 16 #[.pointer (some ⟨g, 0, none⟩), .int .i64 id, .slice ao l c] w fun e w' => e = .returned (.tuple #[]) ∧ ∃ q, w' = w.drewN q := by
  go_enter Try.func16, Try.ntmps16
  go_wp2_with fail
  by_cases h0 : l = 0
  · subst h0
    refine (take_empty _ g id ao c).mono ?_
    rintro e w' ⟨rfl, q, rfl⟩
    go_wp2_with fail
    go_end0
    exact ⟨rfl, q, rfl⟩
  · refine (take_relayed _ g id ao l c (by omega) h47).mono ?_
    rintro e w' ⟨rfl, q, rfl⟩
    go_wp2_with fail
    go_end0
    exact ⟨rfl, q, rfl⟩

theorem len_any (w : World) (B g n : Nat) (disp rel : Bool) (M : Nat → Bool) (sz np : Nat) (xs : List Value) (h : NodeSt w B g n disp rel M sz np xs) :
    Calls Try.prog 17 #[.pointer (some ⟨g, 0, none⟩)] w fun e w' => e = .returned (.int .i64 (np : Int)) ∧ w = w' := by
  obtain ⟨vi, vp, h1, h2, h3, h4⟩ := h
  have c46 := h1.c46
  obtain ⟨ap, cp, rfl⟩ : ∃ ap cp, vp = .slice ap np cp := by
    rcases h4.2 with ⟨rfl, rfl⟩ | ⟨b, cap, cur, rfl, _⟩
    · exact ⟨none, 0, rfl⟩
    · exact ⟨_, cap, rfl⟩
  clear h1 h3 h4
  go_enter Try.func17, Try.ntmps17
  go_wp2
  go_ret
  exact ⟨rfl, rfl⟩

theorem size_any (w : World) (B g n : Nat) (disp rel : Bool) (M : Nat → Bool) (sz np : Nat) (xs : List Value) (h : NodeSt w B g n disp rel M sz np xs) :
    Calls Try.prog 20 #[.pointer (some ⟨g, 0, none⟩)] w fun e w' => e = .returned (.int .i64 (sz : Int)) ∧ w = w' := by
  obtain ⟨vi, vp, h1, h2, h3, h4⟩ := h
  have c45 := h1.c45
  clear h1 h3 h4
  go_enter Try.func20, Try.ntmps20
  go_wp2
  go_ret
  exact ⟨rfl, rfl⟩

theorem relayed_any (w : World) (B g n : Nat) (disp rel : Bool) (M : Nat → Bool) (sz np : Nat) (xs : List Value) (h : NodeSt w B g n disp rel M sz np xs) :
    Calls Try.prog 22 #[.pointer (some ⟨g, 0, none⟩)] w fun e w' => e = .returned (.bool rel) ∧ w = w' := by
  have c47 := h.c47
  clear h
  go_enter Try.func22, Try.ntmps22
  go_wp2
  go_ret
  exact ⟨rfl, rfl⟩

end Go.Proofs.Qxb6614814a.node
