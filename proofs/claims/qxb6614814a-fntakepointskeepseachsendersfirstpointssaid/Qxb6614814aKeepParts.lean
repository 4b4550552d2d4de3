import Derived.Test.Qxb6614814aCopy
namespace Go.Proofs.Qxb6614814a.node
open Go.ChangeShapes Go.WideShapes Go.ChangeAt Go.RowKit
open Go.Proofs.Qxb6614814a.byt
set_option linter.unusedVariables false

theorem info3 : (Try.prog.info? 3).map (fun i => (i.zero, i.size, i.bytes)) = some (some (.int .i64 0), 1, 8) := by kernel_rfl

/-! ### Plain facts on what is kept -/

theorem memb_iff (F L : Nat → Nat) (i x : Nat) : memb F (kept F L i) x = true ↔ ∃ j, j < i ∧ 0 < L j ∧ F j = x := by
  induction i with
  | zero => simp [kept, memb]
  | succ i ih =>
    by_cases h : L i = 0
    · rw [memb_kept_zero F L i h, ih]
      constructor
      · rintro ⟨j, a, b, c⟩; exact ⟨j, by omega, b, c⟩
      · rintro ⟨j, a, b, c⟩
        by_cases e : j = i
        · subst e; omega
        · exact ⟨j, by omega, b, c⟩
    · rw [memb_kept_pos F L i h]
      by_cases e : x = F i
      · subst e
        simp only [ins, if_true, true_iff]
        exact ⟨i, by omega, by omega, rfl⟩
      · simp only [ins, if_neg e]
        rw [ih]
        constructor
        · rintro ⟨j, a, b, c⟩; exact ⟨j, by omega, b, c⟩
        · rintro ⟨j, a, b, c⟩
          by_cases e' : j = i
          · subst e'; exact absurd c.symm e
          · exact ⟨j, by omega, b, c⟩

theorem kept_zero (F L : Nat → Nat) (i : Nat) (h : L i = 0) : kept F L (i + 1) = kept F L i := by simp [kept, keep, h]
theorem kept_seen (F L : Nat → Nat) (i j : Nat) (hj : j < i) (h1 : 0 < L j) (h2 : F j = F i) : kept F L (i + 1) = kept F L i := by
  simp only [kept, keep]
  rw [if_pos (.inr ((memb_iff F L i (F i)).2 ⟨j, hj, h1, h2⟩))]
theorem kept_new (F L : Nat → Nat) (i : Nat) (h : L i ≠ 0) (h1 : ∀ j, j < i → ¬ (F j = F i ∧ 0 < L j)) : kept F L (i + 1) = kept F L i ++ [i] := by
  simp only [kept, keep]
  rw [if_neg]
  rintro (e | e)
  · exact h e
  · obtain ⟨j, a, b, c⟩ := (memb_iff F L i (F i)).1 e
    exact h1 j a ⟨c, b⟩

theorem kept_lt (F L : Nat → Nat) (k : Nat) : ∀ i, i ∈ kept F L k → i < k := by
  induction k with
  | zero => simp [kept]
  | succ k ih =>
    intro i hi
    simp only [kept, keep] at hi
    split at hi
    · have := ih i hi; omega
    · simp at hi
      rcases hi with h | h
      · have := ih i h; omega
      · omega

theorem getD_lt (F L : Nat → Nat) (k j : Nat) (hj : j < (kept F L k).length) : (kept F L k).getD j 0 < k := by
  refine kept_lt F L k _ ?_
  simp [List.getD, hj]

theorem memb_take (F : Nat → Nat) (K : List Nat) (k : Nat) (hk : k < K.length) : memb F (K.take (k + 1)) = ins (memb F (K.take k)) (F (K.getD k 0)) := by
  rw [List.take_succ_eq_append_getElem hk, memb_snoc]
  simp [List.getD, hk]

theorem cols_get (A : Nat → Option Addr) (L C : Nat → Nat) (K : List Nat) (k : Nat) (hk : k < K.length) :
    (cols A L C K)[k * 2]? = some (.slice (A (K.getD k 0)) (L (K.getD k 0)) (C (K.getD k 0))) ∧ (cols A L C K)[k * 2 + 1]? = some (.slice none 0 0) := by
  induction K generalizing k with
  | nil => simp at hk
  | cons x K ih =>
    cases k with
    | zero => simp [cols]
    | succ k =>
      have := ih k (by simpa using hk)
      have e : cols A L C (x :: K) = .slice (A x) (L x) (C x) :: .slice none 0 0 :: cols A L C K := by simp [cols]
      rw [e, show (k + 1) * 2 = k * 2 + 1 + 1 by omega]
      simpa using this

/-- The kept indices as cells. -/
def intc (K : List Nat) : List Value := K.map fun x : Nat => Value.int .i64 (x : Int)
theorem intc_get (K : List Nat) (k : Nat) (hk : k < K.length) : (intc K)[k]? = some (.int .i64 (K.getD k 0 : Nat)) := by simp [intc, List.getD, hk]

theorem intc_snoc (K : List Nat) (k : Nat) : intc (K ++ [k]) = intc K ++ [.int .i64 (k : Int)] := by simp [intc]

theorem owns_cells {w : World} {B gk n cap : Nat} {xs : List Value} (h : w.ownsRow B 3 1 (.slice (some ⟨gk, 0, none⟩) n cap) n xs) : ∀ j u, xs[j]? = some u → w.cell? ⟨gk, j, none⟩ = some u := by
  intro j u hu
  have := h.cells (g := gk) rfl j u hu
  have hadd : (⟨gk, 0, none⟩ : Addr).add j = ⟨gk, j, none⟩ := by unfold Addr.add; split <;> simp_all
  rwa [hadd] at this

theorem drewN_drewN (w : World) (a b : Nat) : (w.drewN a).drewN b = w.drewN (a + b) := by simp

/-! ### Reading the node -/

theorem NodeSt.row {w : World} {B g n : Nat} {disp rel : Bool} {M : Nat → Bool} {sz np : Nat} {xs : List Value} (h : NodeSt w B g n disp rel M sz np xs) (h0 : 0 < np) :
    ∃ gp cap, w.cell? ⟨g, 46, none⟩ = some (.slice (some ⟨gp, 0, none⟩) np cap) ∧ ∀ j u, xs[j]? = some u → w.cell? ⟨gp, j, none⟩ = some u := by
  obtain ⟨vi, vp, h1, h2, h3, h4⟩ := h
  have c46 := h1.c46
  have hc := h4
  rcases h4.2 with ⟨rfl, e⟩ | ⟨gp, cap, cur, rfl, _⟩
  · omega
  · refine ⟨gp, cap, c46, fun j u hu => ?_⟩
    have := hc.cells (g := gp) rfl j u hu
    have hadd : (⟨gp, 0, none⟩ : Addr).add j = ⟨gp, j, none⟩ := by unfold Addr.add; split <;> simp_all
    rwa [hadd] at this

theorem symbols_any (w : World) (B g n : Nat) (F : Nat → Nat) (A : Nat → Option Addr) (L C : Nat → Nat) (K : List Nat) (k x : Nat) (hx : K.getD k 0 = x) (hk : k < K.length) (hK : K.length ≤ 65536) (h : nodeK w B g n F A L C K) :
    Calls Try.prog 18 #[.pointer (some ⟨g, 0, none⟩), .int .i64 (k : Int)] w fun e w' => e = .returned (.slice (A x) (L x) (C x)) ∧ w' = w := by
  obtain ⟨gp, cap, c46, hc⟩ := NodeSt.row h (by omega)
  have c1 := hc _ _ (cols_get A L C K k hk).1
  clear hc h
  rw [hx] at c1
  clear hx
  go_enter Try.func18, Try.ntmps18
  go_wp2
  go_ret
  exact ⟨rfl, rfl⟩

theorem found_any (w : World) (B g n : Nat) (F : Nat → Nat) (A : Nat → Option Addr) (L C : Nat → Nat) (K : List Nat) (k : Nat) (hk : k < K.length) (hK : K.length ≤ 65536) (h : nodeK w B g n F A L C K) :
    Calls Try.prog 19 #[.pointer (some ⟨g, 0, none⟩), .int .i64 (k : Int)] w fun e w' => e = .returned (.slice none 0 0) ∧ w' = w := by
  obtain ⟨gp, cap, c46, hc⟩ := NodeSt.row h (by omega)
  have c1 := hc _ _ (cols_get A L C K k hk).2
  clear hc h
  go_enter Try.func19, Try.ntmps19
  go_wp2
  go_ret
  exact ⟨rfl, rfl⟩

theorem in_any (w : World) (g : Nat) (a : Option Addr) (l c : Nat) (c44 : w.cell? ⟨g, 44, none⟩ = some (.slice a l c)) :
    Calls Try.prog 21 #[.pointer (some ⟨g, 0, none⟩)] w fun e w' => e = .returned (.slice a l c) ∧ w = w' := by
  go_enter Try.func21, Try.ntmps21
  go_wp2
  go_ret
  exact ⟨rfl, rfl⟩

end Go.Proofs.Qxb6614814a.node
