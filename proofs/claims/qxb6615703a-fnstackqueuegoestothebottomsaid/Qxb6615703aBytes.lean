import Derived.Test.Qxb6615703aTop
namespace Go.Proofs.Qxb6615703a.st
open Go.ChangeShapes Go.WideShapes Go.ChangeAt Go.RowKit
set_option linter.unusedVariables false

/-- Every string of the list is at most m bytes long. -/
def small (m : Nat) (l : List ByteArray) : Prop := ∀ k, k < l.length → (l.getD k ByteArray.empty).size ≤ m

/-- What the look over all lengths says when it says yes. (A plain definition: the walk leaves it standing.) -/
def okQ (P Q : List ByteArray) (s : ByteArray) (np nq : Nat) : Prop := small 1048576 P ∧ small 1048576 Q ∧ s.size ≤ 1048576 ∧ np ≤ 1048576 ∧ nq ≤ 1048576
def okS (P : List ByteArray) (np nq : Nat) : Prop := small 1048576 P ∧ np ≤ 1048576 ∧ nq ≤ 1048576

set_option maxRecDepth 100000 in
set_option maxHeartbeats 1000000 in
theorem bytesQ_any (w : World) (ap aq : Option Addr) (np nq cp cq : Nat) (P Q : List ByteArray) (s : ByteArray) (hp : np = P.length) (hq : nq = Q.length) (hnp : np ≤ 9223372036854775807) (hnq : nq ≤ 9223372036854775807) (hs : s.size ≤ 9223372036854775807)
    (hP : strsAt w ap P) (hQ : strsAt w aq Q) (hsP : small 9223372036854775807 P) (hsQ : small 9223372036854775807 Q) :
    Calls Try.prog 5 #[.slice ap np cp, .slice aq nq cq, .string s] w fun e w' => w = w' ∧ (e = .returned (.bool false) ∨ (e = .returned (.bool true) ∧ okQ P Q s np nq)) := by
  have HP : Hid (strsAt w ap P) := hP
  have HQ : Hid (strsAt w aq Q) := hQ
  have HSP : Hid (small 9223372036854775807 P) := hsP
  have HSQ : Hid (small 9223372036854775807 Q) := hsQ
  have HNP : Hid (np = P.length) := hp
  have HNQ : Hid (nq = Q.length) := hq
  clear hP hQ hsP hsQ hp hq
  by_cases hbig : np ≤ 1048576
  · go_enter Try.func5, Try.ntmps5
    go_wp2_with fail
    go_loop [7, 8] (fun t i => ∃ k T : Nat, k ≤ np ∧ T ≤ 1048576 ∧ i = .int .i64 (k : Int) ∧ t = .int .i64 (T : Int) ∧ ∀ j, j < k → (P.getD j ByteArray.empty).size ≤ 1048576) (fun _ i => np - (intOf i).toNat)
    case atStart => exact ⟨0, np, Nat.zero_le _, hbig, rfl, rfl, fun j hj => absurd hj (Nat.not_lt_zero _)⟩
    case round =>
      obtain ⟨k, T, hk, hT, rfl, rfl, hall⟩ := hrel
      have HA : Hid (∀ j, j < k → (P.getD j ByteArray.empty).size ≤ 1048576) := hall
      clear hall
      by_cases hlt : k < np
      · obtain ⟨b, off, rfl, hc⟩ := HP.out (by rw [← HNP.out]; omega)
        have hc1 := hc k (by rw [← HNP.out]; exact hlt)
        have hLk := HSP.out k (by rw [← HNP.out]; exact hlt)
        obtain ⟨x, hx⟩ : ∃ x, P.getD k ByteArray.empty = x := ⟨_, rfl⟩
        rw [hx] at hc1 hLk
        have HX : Hid (P.getD k ByteArray.empty = x) := hx
        clear hx hc
        by_cases ha : x.size ≤ 1048576
        · by_cases hb : T + x.size ≤ 1048576
          · go_wp2_with fail
            go_round
            case rel => exact ⟨k + 1, T + x.size, by omega, by omega, by go_num, by go_num, fun j hj => by rcases Nat.lt_succ_iff_lt_or_eq.1 hj with h | rfl; exact HA.out j h; rw [HX.out]; exact ha⟩
            case measure => simp [intOf]; omega
          · go_wp2_with fail
            go_ret
            exact ⟨rfl, .inl rfl⟩
        · go_wp2_with fail
          go_ret
          exact ⟨rfl, .inl rfl⟩
      obtain rfl : k = np := by omega
      clear hk hlt
      by_cases hbig2 : nq ≤ 1048576
      · by_cases hsum : T + nq ≤ 1048576
        · go_wp2_with fail
          go_loop [7, 9] (fun t i => ∃ m U : Nat, m ≤ nq ∧ U ≤ 1048576 ∧ i = .int .i64 (m : Int) ∧ t = .int .i64 (U : Int) ∧ ∀ j, j < m → (Q.getD j ByteArray.empty).size ≤ 1048576) (fun _ i => nq - (intOf i).toNat)
          case atStart => exact ⟨0, T + nq, Nat.zero_le _, hsum, rfl, by go_num, fun j hj => absurd hj (Nat.not_lt_zero _)⟩
          case round =>
            obtain ⟨m, U, hm, hU, rfl, rfl, hall⟩ := hrel
            have HA2 : Hid (∀ j, j < m → (Q.getD j ByteArray.empty).size ≤ 1048576) := hall
            clear hall
            by_cases hlt : m < nq
            · obtain ⟨b, off, rfl, hc⟩ := HQ.out (by rw [← HNQ.out]; omega)
              have hc1 := hc m (by rw [← HNQ.out]; exact hlt)
              have hLk := HSQ.out m (by rw [← HNQ.out]; exact hlt)
              obtain ⟨x, hx⟩ : ∃ x, Q.getD m ByteArray.empty = x := ⟨_, rfl⟩
              rw [hx] at hc1 hLk
              have HX : Hid (Q.getD m ByteArray.empty = x) := hx
              clear hx hc
              by_cases ha : x.size ≤ 1048576
              · by_cases hb : U + x.size ≤ 1048576
                · go_wp2_with fail
                  go_round
                  case rel => exact ⟨m + 1, U + x.size, by omega, by omega, by go_num, by go_num, fun j hj => by rcases Nat.lt_succ_iff_lt_or_eq.1 hj with h | rfl; exact HA2.out j h; rw [HX.out]; exact ha⟩
                  case measure => simp [intOf]; omega
                · go_wp2_with fail
                  go_ret
                  exact ⟨rfl, .inl rfl⟩
              · go_wp2_with fail
                go_ret
                exact ⟨rfl, .inl rfl⟩
            obtain rfl : m = nq := by omega
            clear hm hlt
            have HF : Hid (small 1048576 P ∧ small 1048576 Q) := ⟨fun j hj => HA.out j (by rw [HNP.out]; exact hj), fun j hj => HA2.out j (by rw [HNQ.out]; exact hj)⟩
            by_cases ha : s.size ≤ 1048576
            · by_cases hb : U + s.size ≤ 1048576
              · go_wp2_with fail
                go_ret
                exact ⟨rfl, .inr ⟨rfl, ⟨HF.out.1, HF.out.2, ha, hbig, hbig2⟩⟩⟩
              · go_wp2_with fail
                go_ret
                exact ⟨rfl, .inl rfl⟩
            · go_wp2_with fail
              go_ret
              exact ⟨rfl, .inl rfl⟩
        · go_wp2_with fail
          go_ret
          exact ⟨rfl, .inl rfl⟩
      · go_wp2_with fail
        go_ret
        exact ⟨rfl, .inl rfl⟩
  · go_enter Try.func5, Try.ntmps5
    go_wp2_with fail
    go_ret
    exact ⟨rfl, .inl rfl⟩

end Go.Proofs.Qxb6615703a.st
