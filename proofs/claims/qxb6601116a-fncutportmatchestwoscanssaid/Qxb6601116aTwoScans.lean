/- The scan up for the last colon and the last bracket agrees with the scan down; the walk of FnCutPortMatchesTwoScans. -/
import Derived.Test.Qxb6601116aCut
namespace Go.Proofs.Qxb6601116a
open Go.RowKit Go.PlainAid

/-- The last place below k that holds the byte c; -1 if there is none. -/
def lastOf (c : Int) (s : ByteArray) : Nat → Int
  | 0 => -1
  | k + 1 => if bt s k = c then (k : Int) else lastOf c s k
theorem lastOf_bd (c : Int) (s : ByteArray) : ∀ k, -1 ≤ lastOf c s k ∧ lastOf c s k < (k : Int)
  | 0 => by simp [lastOf]
  | k + 1 => by
    have := lastOf_bd c s k
    unfold lastOf; split <;> omega
theorem lastOf_hit {c : Int} {s : ByteArray} {k : Nat} (h : bt s k = c) : lastOf c s (k + 1) = k := by simp [lastOf, h]
theorem lastOf_miss {c : Int} {s : ByteArray} {k : Nat} (h : bt s k ≠ c) : lastOf c s (k + 1) = lastOf c s k := by simp [lastOf, h]
/-- The scan down and the two scans up agree. -/
theorem cut_last (s : ByteArray) : ∀ k, cutI s k = if lastOf 93 s k < lastOf 58 s k then some (lastOf 58 s k).toNat else .none
  | 0 => rfl
  | k + 1 => by
    have b58 := lastOf_bd 58 s k
    have b93 := lastOf_bd 93 s k
    by_cases h1 : bt s k = 58
    · rw [cut_hit h1, lastOf_hit h1, lastOf_miss (by omega), if_pos (by omega)]; simp
    · by_cases h2 : bt s k = 93
      · rw [cut_stop h2, lastOf_hit h2, lastOf_miss h1, if_neg (by omega)]
      · rw [cut_on h1 h2, lastOf_miss h1, lastOf_miss h2]; exact cut_last s k

set_option maxHeartbeats 400000 in
theorem model_any (s : ByteArray) (w : World) (hs : s.size ≤ maxLen) :
    Calls Try.prog 15 #[.string s] w fun e w' => e = .returned (.tuple #[.string (cutH s (cutI s s.size)), .string (cutP s (cutI s s.size))]) ∧ ∃ n, w' = w.drewN n := by
  unfold maxLen at hs
  have hbt := get_bt s
  go_enter Try.func15, Try.ntmps15
  go_wp2
  go_loop [4, 5, 6] (fun c b i => ∃ k : Nat, k ≤ s.size ∧ i = .int .i64 k ∧ c = .int .i64 (lastOf 58 s k) ∧ b = .int .i64 (lastOf 93 s k)) (fun _ _ i => s.size - (intOf i).toNat)
  case atStart => exact ⟨0, Nat.zero_le _, rfl, rfl, rfl⟩
  case round =>
    obtain ⟨k, hk, rfl, rfl, rfl⟩ := hrel
    have b58 := lastOf_bd 58 s k
    have b93 := lastOf_bd 93 s k
    by_cases hlt : k < s.size
    · by_cases h1 : bt s k = 58
      · have e1 : Hid (lastOf 58 s (k + 1) = k) := lastOf_hit h1
        have e2 : Hid (lastOf 93 s (k + 1) = lastOf 93 s k) := lastOf_miss (by omega)
        go_wp2
        go_round
        case rel => exact ⟨k + 1, by omega, by go_num, by rw [e1.out], by rw [e2.out]⟩
        case measure => simp [intOf]; omega
      · by_cases h2 : bt s k = 93
        · have e1 : Hid (lastOf 58 s (k + 1) = lastOf 58 s k) := lastOf_miss h1
          have e2 : Hid (lastOf 93 s (k + 1) = k) := lastOf_hit h2
          go_wp2
          go_round
          case rel => exact ⟨k + 1, by omega, by go_num, by rw [e1.out], by rw [e2.out]⟩
          case measure => simp [intOf]; omega
        · have e1 : Hid (lastOf 58 s (k + 1) = lastOf 58 s k) := lastOf_miss h1
          have e2 : Hid (lastOf 93 s (k + 1) = lastOf 93 s k) := lastOf_miss h2
          have g1 : (bt s k == 58) = false := by simpa using h1
          have g2 : (bt s k == 93) = false := by simpa using h2
          clear h1 h2
          go_wp2
          go_round
          case rel => exact ⟨k + 1, by omega, by go_num, by rw [e1.out], by rw [e2.out]⟩
          case measure => simp [intOf]; omega
    · obtain rfl : k = s.size := by omega
      by_cases hc : lastOf 93 s s.size < lastOf 58 s s.size
      · have e1 : Hid (cutI s s.size = some (lastOf 58 s s.size).toNat) := by have := cut_last s s.size; rw [if_pos hc] at this; exact this
        obtain ⟨m, hm⟩ : ∃ m : Nat, lastOf 58 s s.size = m := ⟨(lastOf 58 s s.size).toNat, by omega⟩
        rw [hm] at hc b58 e1 ⊢
        clear hm
        go_wp2
        go_quiet (fail)
        go_wp2
        go_ret2
        exact ⟨by rw [e1.out]; rfl, _, rfl⟩
      · have e1 : Hid (cutI s s.size = .none) := by have := cut_last s s.size; rw [if_neg hc] at this; exact this
        go_wp2
        go_ret2
        exact ⟨by rw [e1.out]; rfl, 0, rfl⟩

set_option maxHeartbeats 400000 in
theorem bytes13_yes (a : ByteArray) (w : World) (h : a.size ≤ 1048576) :
    Calls Try.prog 13 #[.string a] w fun e w' => e = .returned (.bool true) ∧ w' = w := by
  go_enter Try.func13, Try.ntmps13
  go_wp2
  go_ret
  exact ⟨rfl, rfl⟩

set_option maxHeartbeats 400000 in
theorem bytes13_no (a : ByteArray) (w : World) (ha : a.size ≤ maxLen) (h : 1048576 < a.size) :
    Calls Try.prog 13 #[.string a] w fun e w' => e = .returned (.bool false) ∧ w' = w := by
  unfold maxLen at ha
  go_enter Try.func13, Try.ntmps13
  go_wp2
  go_ret
  exact ⟨rfl, rfl⟩

theorem grown_drewN2 {W w : World} (h : Grown W w) (n : Nat) : Grown W (w.drewN n) := h

set_option maxHeartbeats 400000 in
theorem two_walk (a0 : ByteArray) (w0 : a0.size ≤ maxLen) (w : World) :
    Calls Try.prog 6 #[.string a0] w fun e w' => e = .returned (.bool true) ∧ Grown w w' := by
  have w1 : a0.size ≤ 9223372036854775807 := by unfold maxLen at w0; omega
  by_cases hsz : a0.size ≤ 1048576
  · go_enter Try.func6, Try.ntmps6
    go_wp2_with (first | (go_at_call 13; refine (bytes13_yes _ _ hsz).mono ?_; rintro e w' ⟨rfl, rfl⟩) | (go_at_call 14; refine (zzcut_any _ _ w0).mono ?_; rintro e w' ⟨rfl, n, rfl⟩) | (go_at_call 15; refine (model_any _ _ w0).mono ?_; rintro e w' ⟨rfl, n2, rfl⟩))
    go_ret
    exact ⟨rfl, grown_drewN2 (Grown.refl _) _⟩
  · go_enter Try.func6, Try.ntmps6
    go_wp2_with (go_at_call 13; refine (bytes13_no _ _ w0 (by omega)).mono ?_; rintro e w' ⟨rfl, rfl⟩)
    go_ret
    exact ⟨rfl, Grown.refl _⟩
end Go.Proofs.Qxb6601116a
