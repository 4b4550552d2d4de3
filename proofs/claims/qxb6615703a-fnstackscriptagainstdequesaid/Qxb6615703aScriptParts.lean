import Derived.Test.Qxb6615703aQueueMain
namespace Go.Proofs.Qxb6615703a.st
open Go.ChangeShapes Go.WideShapes Go.ChangeAt Go.RowKit
set_option linter.unusedVariables false

/-- A []uint8 that holds Z 0 .. Z (n - 1). -/
def opsAt (w : World) (ao : Option Addr) (n : Nat) (Z : Nat → Int) : Prop :=
  0 < n → ∃ b off, ao = some ⟨b, off, none⟩ ∧ ∀ k, k < n → w.cell? ⟨b, off + k, none⟩ = some (.int .u8 (Z k)) ∧ 0 ≤ Z k ∧ Z k ≤ 255

theorem owns_mono {w : World} {B B' : Nat} {e : TypeId} {sz : Nat} {v : Value} {n : Nat} {xs : List Value} (h : w.ownsRow B e sz v n xs) (hB : B' ≤ B) : w.ownsRow B' e sz v n xs := by
  refine ⟨h.1, ?_⟩
  rcases h.2 with h | ⟨g, cap, cur, e, hb, r⟩
  · exact .inl h
  · exact .inr ⟨g, cap, cur, e, by omega, r⟩

theorem StackSt.of_blocks {w w' : World} {B gS gL gD gB : Nat} {own : Nat → Prop} {P Q : List ByteArray} {ln : Int} (h : StackSt w B gS gL gD gB own P Q ln) (e : ∀ k, own k → w'.heap[k]? = w.heap[k]?) : StackSt w' B gS gL gD gB own P Q ln := by
  obtain ⟨vp, vq, hm, rfl⟩ := h
  exact ⟨vp, vq, hm.of_blocks e, rfl⟩

/-- WHAT HOLDS AHEAD OF ROUND i: the stack holds P pushed and R queued; the plain list, n long, in a row of its own that is none of the stack's, reads the stack from the top. -/
def Rel (w0 wr : World) (gS gL i : Nat) (am : Option Addr) (n cm : Nat) : Prop :=
  ∃ X P R gD gB own, n = X.length ∧ X = P.reverse ++ R ∧ n ≤ i ∧ StackSt wr w0.heap.size gS gL gD gB own P R (n : Int) ∧ wr.ownsRow w0.heap.size 9 1 (.slice am n cm) n (strc X) ∧
    (∀ k, (Value.slice am n cm).ownBlock = some k → ¬ own k) ∧ Below w0.heap.size w0 wr

theorem Rel.drewN {w0 wr : World} {gS gL i : Nat} {am : Option Addr} {n cm : Nat} (h : Rel w0 wr gS gL i am n cm) (q : Nat) : Rel w0 (wr.drewN q) gS gL (i + 1) am n cm := by
  obtain ⟨X, P, R, gD, gB, own, h1, h2, h3, h4, h5, h6, h7⟩ := h
  exact ⟨X, P, R, gD, gB, own, h1, h2, by omega, h4.below (below_drewN (Below.refl _ _) q), owns_of_block h5 (fun _ _ => rfl), h6, below_drewN h7 q⟩

/-- A push: the list is built anew in a row of its own. -/
theorem Rel.push {w0 wr w3 w6 : World} {gS gL i gD gB n cap : Nat} {own own' : Nat → Prop} {X P R : List ByteArray} {x : ByteArray} (hn : n = X.length) (hX : X = P.reverse ++ R) (hi : n ≤ i) (h7 : Below w0.heap.size w0 wr)
    (hb3 : Below w0.heap.size wr w3) (hst3 : StackSt w3 w0.heap.size gS gL gD gB own' (P ++ [x]) R ((n : Int) + 1)) (hb6 : Below w3.heap.size w3 w6)
    (hown6 : w6.ownsRow w3.heap.size 9 1 (.slice (some ⟨w3.heap.size, 0, none⟩) (1 + n) cap) (1 + n) ([.string x] ++ strc X)) (q : Nat) :
    Rel w0 (w6.drewN q) gS gL (i + 1) (some ⟨w3.heap.size, 0, none⟩) (1 + n) cap := by
  have h03 : Below w0.heap.size w0 w3 := h7.trans hb3
  refine ⟨x :: X, P ++ [x], R, gD, gB, own', by simp [hn]; omega, by simp [hX], by omega, ?_, ?_, ?_, ?_⟩
  · have e : ((1 + n : Nat) : Int) = (n : Int) + 1 := by omega
    rw [e]
    exact (hst3.below hb6).below (below_drewN (Below.refl _ _) q)
  · have e : strc (x :: X) = [.string x] ++ strc X := by simp [strc]
    rw [e]
    exact owns_mono (owns_of_block hown6 (fun _ _ => rfl)) h03.size
  · intro k hk ho
    simp [Value.ownBlock] at hk
    subst hk
    have := (hst3.own_ge _ ho).2
    omega
  · exact below_drewN (h03.trans (hb6.mono h03.size)) q

/-- A queue: the list grows at its end. -/
theorem Rel.queue {w0 wr w3 w4 w5 : World} {gS gL i gD gB n cm g cap : Nat} {am : Option Addr} {own own' : Nat → Prop} {X P R : List ByteArray} {x : ByteArray} (hn : n = X.length) (hX : X = P.reverse ++ R) (hi : n ≤ i) (h7 : Below w0.heap.size w0 wr)
    (hdis : ∀ k, (Value.slice am n cm).ownBlock = some k → ¬ own k) (hown : wr.ownsRow w0.heap.size 9 1 (.slice am n cm) n (strc X))
    (hb3 : Below w0.heap.size wr w3) (hx3 : Nexts wr own own') (hst3 : StackSt w3 w0.heap.size gS gL gD gB own' P (R ++ [x]) ((n : Int) + 1)) (hb4 : Below w3.heap.size w3 w4)
    (hown5 : w5.ownsRow w0.heap.size 9 1 (.slice (some ⟨g, 0, none⟩) (n + 1) cap) (n + 1) (strc X ++ [.string x])) (hgrow5 : w4.grownBy w5 (Value.slice am n cm).ownBlock) (hat : (Value.slice am n cm).ownBlock = some g ∨ w3.heap.size ≤ g) (q : Nat) :
    Rel w0 (w5.drewN q) gS gL (i + 1) (some ⟨g, 0, none⟩) (n + 1) cap := by
  have h03 : Below w0.heap.size w0 w3 := h7.trans hb3
  have hdis' : ∀ k, (Value.slice am n cm).ownBlock = some k → ¬ own' k := fun k hk ho => by
    rcases hx3 k ho with h | h
    · exact hdis k hk h
    · have := (hown.lt k hk).2; omega
  refine ⟨X ++ [x], P, R ++ [x], gD, gB, own', by simp [hn], by simp [hX], by omega, ?_, ?_, ?_, ?_⟩
  · have e : ((n + 1 : Nat) : Int) = (n : Int) + 1 := by omega
    rw [e]
    refine StackSt.below (StackSt.of_blocks hst3 fun k hk => ?_) (below_drewN (Below.refl _ _) q)
    have hk3 := (hst3.own_ge k hk).2
    exact (hgrow5.block k (Nat.lt_of_lt_of_le hk3 hb4.size) (fun e => hdis' k e.symm hk)).trans (hb4.block k hk3)
  · rw [strc_snoc]
    exact owns_of_block hown5 (fun _ _ => rfl)
  · intro k hk ho
    simp [Value.ownBlock] at hk
    subst hk
    rcases hat with h | h
    · exact hdis' _ h ho
    · have := (hst3.own_ge _ ho).2; omega
  · refine below_drewN ?_ q
    exact (h03.trans (hb4.mono h03.size)).grown hgrow5 (Nat.le_trans h03.size hb4.size) (fun k hk => (hown.lt k hk).1)

/-- All dropped: both are empty. -/
theorem Rel.drop {w0 wr w3 : World} {gS gL i gD gB : Nat} {own own' : Nat → Prop} (h7 : Below w0.heap.size w0 wr) (hb3 : Below w0.heap.size wr w3) (hst3 : StackSt w3 w0.heap.size gS gL gD gB own' [] [] 0) (q : Nat) :
    Rel w0 (w3.drewN q) gS gL (i + 1) none 0 0 :=
  ⟨[], [], [], gD, gB, own', rfl, rfl, by omega, hst3.below (below_drewN (Below.refl _ _) q), World.ownsRow_nil _ _ _ _, fun k hk => by simp [Value.ownBlock] at hk, below_drewN (h7.trans hb3) q⟩

set_option maxRecDepth 100000 in
set_option maxHeartbeats 1000000 in
theorem bytesS_any (w : World) (ao ap : Option Addr) (no np co cp : Nat) (P : List ByteArray) (hp : np = P.length) (hno : no ≤ 9223372036854775807) (hnp : np ≤ 9223372036854775807)
    (hP : strsAt w ap P) (hsP : small 9223372036854775807 P) :
    Calls Try.prog 12 #[.slice ao no co, .slice ap np cp] w fun e w' => w = w' ∧ (e = .returned (.bool false) ∨ (e = .returned (.bool true) ∧ okS P no np)) := by
  have HP : Hid (strsAt w ap P) := hP
  have HSP : Hid (small 9223372036854775807 P) := hsP
  have HNP : Hid (np = P.length) := hp
  clear hP hsP hp
  by_cases hbig : no ≤ 1048576
  · by_cases hbig2 : np ≤ 1048576
    · by_cases hsum : no + np ≤ 1048576
      · go_enter Try.func12, Try.ntmps12
        go_wp2_with fail
        go_loop [5, 6] (fun t i => ∃ k T : Nat, k ≤ np ∧ T ≤ 1048576 ∧ i = .int .i64 (k : Int) ∧ t = .int .i64 (T : Int) ∧ ∀ j, j < k → (P.getD j ByteArray.empty).size ≤ 1048576) (fun _ i => np - (intOf i).toNat)
        case atStart => exact ⟨0, no + np, Nat.zero_le _, hsum, rfl, by go_num, fun j hj => absurd hj (Nat.not_lt_zero _)⟩
        case round =>
          obtain ⟨k, T, hk, hT, rfl, rfl, hall⟩ := hrel
          have HA : Hid (∀ j, j < k → (P.getD j ByteArray.empty).size ≤ 1048576) := hall
          clear hall
          by_cases hlt : k < np
          · obtain ⟨b, off, rfl, hc⟩ := HP.out (by rw [← HNP.out]; omega)
            have hc1 := hc k (by rw [← HNP.out]; exact hlt)
            have hLk := HSP.out k (by rw [← HNP.out]; exact hlt)
            obtain ⟨x, hx⟩ : ∃ x, P.getD k ByteArray.empty = x := ⟨_, rfl⟩
            rw [hx] at hc1 hLk
            have HX : Hid (P.getD k ByteArray.empty = x) := hx
            clear hx hc
            by_cases ha : x.size ≤ 1048576
            · by_cases hb : T + x.size ≤ 1048576
              · go_wp2_with fail
                go_round
                case rel => exact ⟨k + 1, T + x.size, by omega, by omega, by go_num, by go_num, fun j hj => by rcases Nat.lt_succ_iff_lt_or_eq.1 hj with h | rfl; exact HA.out j h; rw [HX.out]; exact ha⟩
                case measure => simp [intOf]; omega
              · go_wp2_with fail
                go_ret
                exact ⟨rfl, .inl rfl⟩
            · go_wp2_with fail
              go_ret
              exact ⟨rfl, .inl rfl⟩
          obtain rfl : k = np := by omega
          clear hk hlt
          have HF : Hid (small 1048576 P) := fun j hj => HA.out j (by rw [HNP.out]; exact hj)
          go_wp2_with fail
          go_ret
          exact ⟨rfl, .inr ⟨rfl, HF.out, hbig, hbig2⟩⟩
      · go_enter Try.func12, Try.ntmps12
        go_wp2_with fail
        go_ret
        exact ⟨rfl, .inl rfl⟩
    · go_enter Try.func12, Try.ntmps12
      go_wp2_with fail
      go_ret
      exact ⟨rfl, .inl rfl⟩
  · go_enter Try.func12, Try.ntmps12
    go_wp2_with fail
    go_ret
    exact ⟨rfl, .inl rfl⟩

end Go.Proofs.Qxb6615703a.st
