/- The plain law on host, colon, port; the walk of FnCutPortInvertsJoin. -/
import Derived.Test.Qxb6601116aCut
namespace Go.Proofs.Qxb6601116a
open Go.RowKit Go.PlainAid

theorem bt_left (a b : ByteArray) {k : Nat} (h : k < a.size) : bt (a ++ b) k = bt a k := by
  unfold bt
  rw [dif_pos (by rw [ByteArray.size_append]; omega), dif_pos h, ByteArray.getElem_append_left h]
theorem bt_right (a b : ByteArray) (k : Nat) : bt (a ++ b) (a.size + k) = bt b k := by
  unfold bt
  by_cases h : k < b.size
  · rw [dif_pos (by rw [ByteArray.size_append]; omega), dif_pos h, ByteArray.getElem_append_right (by omega)]
    simp
  · rw [dif_neg (by rw [ByteArray.size_append]; omega), dif_neg h]

/-- The host, a colon, the port. -/
def joined (a b : ByteArray) : ByteArray := a ++ { data := #[58] } ++ b
theorem size_joined (a b : ByteArray) : (joined a b).size = a.size + 1 + b.size := by
  unfold joined; rw [ByteArray.size_append, ByteArray.size_append]; rfl
theorem bt_joined_colon (a b : ByteArray) : bt (joined a b) a.size = 58 := by
  unfold joined
  rw [bt_left _ _ (by rw [ByteArray.size_append]; exact Nat.lt_succ_self _)]
  exact bt_right a { data := #[58] } 0
theorem bt_joined_port (a b : ByteArray) (j : Nat) : bt (joined a b) (a.size + 1 + j) = bt b j := by
  unfold joined
  have e : (a ++ ({ data := #[58] } : ByteArray)).size = a.size + 1 := by rw [ByteArray.size_append]; rfl
  rw [← e]; exact bt_right _ b j
theorem cut_joined (a b : ByteArray) (h : ∀ j, j < b.size → bt b j ≠ 58 ∧ bt b j ≠ 93) : ∀ k, k ≤ b.size → cutI (joined a b) (a.size + 1 + k) = some a.size
  | 0, _ => cut_hit (bt_joined_colon a b)
  | k + 1, hk => by
    have hj := h k (by omega)
    rw [show a.size + 1 + (k + 1) = (a.size + 1 + k) + 1 by omega, cut_on (by rw [bt_joined_port]; exact hj.1) (by rw [bt_joined_port]; exact hj.2)]
    exact cut_joined a b h k (by omega)
theorem left_joined (a b : ByteArray) : (joined a b).extract 0 a.size = a := by
  unfold joined; rw [ByteArray.append_assoc]; exact ByteArray.extract_append_eq_left rfl
theorem right_joined (a b : ByteArray) : (joined a b).extract (a.size + 1) (joined a b).size = b := by
  rw [size_joined]; unfold joined
  have e : (a ++ ({ data := #[58] } : ByteArray)).size = a.size + 1 := by rw [ByteArray.size_append]; rfl
  exact ByteArray.extract_append_eq_right e.symm (by rw [e])

theorem zzcut_join (a b : ByteArray) (w : World) (hs : a.size + 1 + b.size ≤ maxLen) (h : ∀ j, j < b.size → bt b j ≠ 58 ∧ bt b j ≠ 93) :
    Calls Try.prog 14 #[.string (a ++ { data := #[58] } ++ b)] w fun e w' => e = .returned (.tuple #[.string a, .string b]) ∧ ∃ n, w' = w.drewN n := by
  have c := zzcut_any (joined a b) w (by rw [size_joined]; exact hs)
  have e : cutI (joined a b) (joined a b).size = some a.size := by rw [size_joined]; exact cut_joined a b h _ (Nat.le_refl _)
  rw [e] at c
  have e1 : cutH (joined a b) (some a.size) = a := left_joined a b
  have e2 : cutP (joined a b) (some a.size) = b := right_joined a b
  rw [e1, e2] at c
  exact c

theorem grown_drewN {W w : World} (h : Grown W w) (n : Nat) : Grown W (w.drewN n) := h

set_option maxHeartbeats 400000 in
theorem join_walk (a0 : ByteArray) (a1 : ByteArray) (w0 : a0.size ≤ maxLen) (w1 : a1.size ≤ maxLen) (w : World) :
    Calls Try.prog 7 #[.string a0, .string a1] w fun e w' => e = .returned (.bool true) ∧ Grown w w' := by
  unfold maxLen at w0 w1
  by_cases hsz : a0.size + a1.size ≤ 1048576
  · by_cases hg : 524288 < a0.size ∨ 524288 < a1.size
    · by_cases hg1 : 524288 < a0.size
      all_goals
        go_enter Try.func7, Try.ntmps7
        go_wp2_with (go_at_call 16; refine (bytes_yes _ _ _ hsz).mono ?_; rintro e w' ⟨rfl, rfl⟩)
        go_ret
        exact ⟨rfl, Grown.refl _⟩
    · have hbt := get_bt a1
      go_enter Try.func7, Try.ntmps7
      go_wp2_with (go_at_call 16; refine (bytes_yes _ _ _ hsz).mono ?_; rintro e w' ⟨rfl, rfl⟩)
      go_loop [5] (fun i => ∃ k : Nat, k ≤ a1.size ∧ i = .int .i64 k ∧ Hid (∀ j, j < k → bt a1 j ≠ 58 ∧ bt a1 j ≠ 93)) (fun i => a1.size - (intOf i).toNat)
      case atStart => exact ⟨0, Nat.zero_le _, rfl, fun j h => by omega⟩
      case round =>
        obtain ⟨k, hk, rfl, hH⟩ := hrel
        by_cases hlt : k < a1.size
        · by_cases h1 : bt a1 k = 58
          · go_wp2
            go_ret
            exact ⟨rfl, Grown.refl _⟩
          · by_cases h2 : bt a1 k = 93
            · go_wp2
              go_ret
              exact ⟨rfl, Grown.refl _⟩
            · have H1 : Hid (bt a1 k ≠ 58 ∧ bt a1 k ≠ 93) := ⟨h1, h2⟩
              have g1 : (bt a1 k == 58) = false := by simpa using h1
              have g2 : (bt a1 k == 93) = false := by simpa using h2
              clear h1 h2
              go_wp2
              go_round
              case rel => exact ⟨k + 1, by omega, by go_num, fun j hj => by
                rcases Nat.lt_succ_iff_lt_or_eq.mp hj with h | rfl
                · exact hH.out j h
                · exact H1.out⟩
              case measure => simp [intOf]; omega
        · have hall : Hid (∀ j, j < a1.size → bt a1 j ≠ 58 ∧ bt a1 j ≠ 93) := fun j hj => hH.out j (by omega)
          go_wp2_with (go_at_call 14; refine (zzcut_join _ _ _ (by unfold maxLen; omega) hall.out).mono ?_; rintro e w' ⟨rfl, n, rfl⟩)
          go_ret
          exact ⟨rfl, grown_drewN (Grown.refl _) _⟩
  · go_enter Try.func7, Try.ntmps7
    go_wp2_with (go_at_call 16; refine (bytes_no _ _ _ w0 w1 (by omega)).mono ?_; rintro e w' ⟨rfl, rfl⟩)
    go_ret
    exact ⟨rfl, Grown.refl _⟩
end Go.Proofs.Qxb6601116a
