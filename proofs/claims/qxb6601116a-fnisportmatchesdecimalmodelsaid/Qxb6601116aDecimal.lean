/- The walk of zzModelIsPort and of FnIsPortMatchesDecimalModel. -/
import Derived.Test.Qxb6601116aModel
namespace Go.Proofs.Qxb6601116a
open Go.RowKit Go.PlainAid

theorem atMost_rest (s : ByteArray) (k : Nat) (r : Bool) (w : World) (hk : s.size = k + 5) (hr : r = true ↔ LexLe (s.extract k s.size) most 5) :
    Calls Try.prog 18 #[.string (s.extract k s.size), .string { data := #[54, 53, 53, 51, 53] }] w fun e w' => e = .returned (.bool r) ∧ ∃ n, w' = w.drewN n := by
  have e : (s.extract k s.size).size = 5 := by rw [ByteArray.size_extract]; omega
  exact atMost_any (s.extract k s.size) most r w e (by rw [e]; unfold maxLen; omega) (by rw [e]; exact hr)

set_option maxHeartbeats 1000000 in
theorem model10 (s : ByteArray) (b : Bool) (w : World) (hs : s.size ≤ maxLen) (hb : b = true ↔ IsPort s) :
    Calls Try.prog 10 #[.string s] w fun e w' => e = .returned (.bool b) ∧ ∃ n, w' = w.drewN n := by
  unfold maxLen at hs
  have hbt := get_bt s
  have HB : Hid (b = true ↔ IsPort s) := hb
  have no : Hid (¬ IsPort s → b = false) := fun h => by cases b; rfl; exact absurd (hb.1 rfl) h
  have yes : Hid (IsPort s → b = true) := hb.2
  clear hb
  by_cases h0 : s.size = 0
  · obtain rfl := no.out (port_empty h0)
    go_enter Try.func10, Try.ntmps10
    go_wp2
    go_ret
    exact ⟨rfl, 0, rfl⟩
  have h1 : ((s.size : Int) == 0) = false := by simpa using h0
  have h2 : 0 < s.size := by omega
  clear h0
  go_enter Try.func10, Try.ntmps10
  go_wp2
  go_loop [3] (fun i => ∃ k : Nat, k ≤ s.size ∧ i = .int .i64 k ∧ Hid (Digs s k)) (fun i => s.size - (intOf i).toNat)
  case atStart => exact ⟨0, Nat.zero_le _, rfl, fun j hj => by omega⟩
  case round =>
    obtain ⟨k, hk, rfl, hD⟩ := hrel
    by_cases hlt : k < s.size
    · by_cases hd1 : 48 ≤ bt s k
      · by_cases hd2 : bt s k ≤ 57
        · have hD' : Hid (Digs s (k + 1)) := digs_snoc hD.out hd1 hd2
          go_wp2
          go_round
          case rel => exact ⟨k + 1, by omega, by go_num, hD'⟩
          case measure => simp [intOf]; omega
        · obtain rfl := no.out (port_bad hlt (fun h => hd2 h.2))
          go_wp2
          go_ret
          exact ⟨rfl, 0, rfl⟩
      · obtain rfl := no.out (port_bad hlt (fun h => hd1 h.1))
        go_wp2
        go_ret
        exact ⟨rfl, 0, rfl⟩
    · have hDs : Hid (Digs s s.size) := digs_mono hD.out (by omega)
      clear hD
      go_wp2
      go_loop [4] (fun i => ∃ z : Nat, z ≤ s.size ∧ i = .int .i64 z ∧ Hid (∀ j, j < z → bt s j = 48)) (fun i => s.size - (intOf i).toNat)
      case atStart => exact ⟨0, Nat.zero_le _, rfl, fun j hj => by omega⟩
      case round =>
        obtain ⟨z, hz, rfl, hZ⟩ := hrel
        by_cases hzl : z < s.size
        · by_cases hz48 : bt s z = 48
          · have hZ' : Hid (∀ j, j < z + 1 → bt s j = 48) := fun j hj => by
              rcases Nat.lt_succ_iff_lt_or_eq.mp hj with h' | rfl
              · exact hZ.out j h'
              · exact hz48
            go_wp2
            go_round
            case rel => exact ⟨z + 1, by omega, by go_num, hZ'⟩
            case measure => simp [intOf]; omega
          · have gz : (bt s z == 48) = false := by simpa using hz48
            have HZ : Hid (bt s z ≠ 48) := hz48
            have r1 : (((s.size : Int) - z) == 0) = false := by simp; omega
            clear hz48
            by_cases c1 : z + 5 < s.size
            · obtain rfl := no.out (port_long hDs.out hZ.out HZ.out c1)
              go_wp2
              go_ret
              exact ⟨rfl, 0, rfl⟩
            · by_cases c2 : s.size < z + 5
              · obtain rfl := yes.out (port_short hDs.out hZ.out HZ.out hzl c2)
                go_wp2
                go_ret
                exact ⟨rfl, 0, rfl⟩
              · have HE : Hid (s.size = z + 5) := show s.size = z + 5 by omega
                have HL : Hid (b = true ↔ LexLe (s.extract z s.size) most 5) := HB.out.trans (port_five hDs.out hZ.out HZ.out HE.out)
                go_wp2_with (go_at_call 18; refine (atMost_rest s z b _ HE.out HL.out).mono ?_; rintro e w' ⟨rfl, n, rfl⟩)
                go_ret
                exact ⟨rfl, _, rfl⟩
        · obtain rfl := no.out (port_none hZ.out (by omega))
          have r1 : (((s.size : Int) - z) == 0) = true := by simp; omega
          go_wp2
          go_ret
          exact ⟨rfl, 0, rfl⟩

set_option maxHeartbeats 400000 in
theorem bytes8_yes (a : ByteArray) (w : World) (h : a.size ≤ 1048576) :
    Calls Try.prog 8 #[.string a] w fun e w' => e = .returned (.bool true) ∧ w' = w := by
  go_enter Try.func8, Try.ntmps8
  go_wp2
  go_ret
  exact ⟨rfl, rfl⟩

set_option maxHeartbeats 400000 in
theorem bytes8_no (a : ByteArray) (w : World) (ha : a.size ≤ maxLen) (h : 1048576 < a.size) :
    Calls Try.prog 8 #[.string a] w fun e w' => e = .returned (.bool false) ∧ w' = w := by
  unfold maxLen at ha
  go_enter Try.func8, Try.ntmps8
  go_wp2
  go_ret
  exact ⟨rfl, rfl⟩

theorem zzIsPort_is (s : ByteArray) (b : Bool) (w : World) (hs : s.size ≤ maxLen) (hb : b = true ↔ IsPort s) :
    Calls Try.prog 9 #[.string s] w fun e w' => e = .returned (.bool b) ∧ w' = w := by
  cases b
  · exact zzIsPort_no s w hs (fun h => absurd (hb.2 h) (by decide))
  · exact zzIsPort_yes s w hs (hb.1 rfl)

theorem grown_drewN3 {W w : World} (h : Grown W w) (n : Nat) : Grown W (w.drewN n) := h

set_option maxHeartbeats 400000 in
theorem decimal_walk (a0 : ByteArray) (w0 : a0.size ≤ maxLen) (w : World) :
    Calls Try.prog 3 #[.string a0] w fun e w' => e = .returned (.bool true) ∧ Grown w w' := by
  have w1 : a0.size ≤ 9223372036854775807 := by unfold maxLen at w0; omega
  obtain ⟨b, hb⟩ : ∃ b : Bool, b = true ↔ IsPort a0 := by
    by_cases h : IsPort a0
    · exact ⟨true, by simp [h]⟩
    · exact ⟨false, by simp [h]⟩
  have HB : Hid (b = true ↔ IsPort a0) := hb
  clear hb
  by_cases hsz : a0.size ≤ 1048576
  · go_enter Try.func3, Try.ntmps3
    go_wp2_with (first | (go_at_call 8; refine (bytes8_yes _ _ hsz).mono ?_; rintro e w' ⟨rfl, rfl⟩) | (go_at_call 9; refine (zzIsPort_is _ b _ w0 HB.out).mono ?_; rintro e w' ⟨rfl, rfl⟩) | (go_at_call 10; refine (model10 _ b _ w0 HB.out).mono ?_; rintro e w' ⟨rfl, n2, rfl⟩))
    go_ret
    exact ⟨by simp, grown_drewN3 (Grown.refl _) _⟩
  · go_enter Try.func3, Try.ntmps3
    go_wp2_with (go_at_call 8; refine (bytes8_no _ _ w0 (by omega)).mono ?_; rintro e w' ⟨rfl, rfl⟩)
    go_ret
    exact ⟨rfl, Grown.refl _⟩
end Go.Proofs.Qxb6601116a
