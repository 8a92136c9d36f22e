/- The walk of FnUnpackAfterPackIsIdentity. -/
import Derived.Test.Qxb6601178aCurrency
namespace Go.Proofs.Qxb6601178a
open Go.RowKit Go.PlainAid

theorem unpack_packed (s : ByteArray) (w : World) (h : IsCode s) :
    Calls Try.prog 16 #[.int .u16 (packed s)] w fun e w' => ∃ C : Array Value, e = .returned (.string s) ∧ w' = w.alloc (.cells C 29) := by
  have b := packed_bd h
  have c := zzunpack_some (packed s - 1) w (by omega) (by omega)
  have e1 : packed s - 1 + 1 = packed s := by omega
  have e2 : strOfNums [65 + (packed s - 1) / 26 / 26 % 26, 65 + (packed s - 1) / 26 % 26, 65 + (packed s - 1) % 26] = s := code_packed h
  rw [e1, e2] at c
  exact c

set_option maxHeartbeats 400000 in
theorem bytes17_yes (a : ByteArray) (w : World) (h : a.size ≤ 1048576) :
    Calls Try.prog 17 #[.string a] w fun e w' => e = .returned (.bool true) ∧ w' = w := by
  go_enter Try.func17, Try.ntmps17
  go_wp2
  go_ret
  exact ⟨rfl, rfl⟩

set_option maxHeartbeats 400000 in
theorem bytes17_no (a : ByteArray) (w : World) (ha : a.size ≤ maxLen) (h : 1048576 < a.size) :
    Calls Try.prog 17 #[.string a] w fun e w' => e = .returned (.bool false) ∧ w' = w := by
  unfold maxLen at ha
  go_enter Try.func17, Try.ntmps17
  go_wp2
  go_ret
  exact ⟨rfl, rfl⟩

set_option maxHeartbeats 400000 in
theorem identity_walk (a0 : ByteArray) (w0 : a0.size ≤ maxLen) (w : World) :
    Calls Try.prog 7 #[.string a0] w fun e w' => e = .returned (.bool true) ∧ Grown w w' := by
  have w1 : a0.size ≤ 9223372036854775807 := by unfold maxLen at w0; omega
  by_cases hsz : a0.size ≤ 1048576
  · by_cases h0 : a0.size = 0
    · obtain rfl : a0 = { data := #[] } := ByteArray.ext (Array.eq_empty_of_size_eq_zero h0)
      clear h0 w0 w1
      go_enter Try.func7, Try.ntmps7
      go_wp2_with (first | (go_at_call 17; refine (bytes17_yes _ _ hsz).mono ?_; rintro e w' ⟨rfl, rfl⟩) | (go_at_call 14; refine (zzpack_none _).mono ?_; rintro e w' ⟨rfl, rfl⟩) | (go_at_call 16; refine (zzunpack_none _).mono ?_; rintro e w' ⟨rfl, rfl⟩))
      go_ret
      exact ⟨rfl, Grown.refl _⟩
    · have h1 : ((a0.size : Int) != 0) = true := by rw [bne_iff_ne]; omega
      clear h0
      by_cases hc : IsCode a0
      · have HC : Hid (IsCode a0) := hc
        have ct := fun w => code_is a0 true w w0 (by simp [hc])
        have CT : Hid (∀ w, Calls Try.prog 13 #[.string a0] w fun e w' => e = .returned (.bool true) ∧ w' = w) := ct
        clear hc ct
        go_enter Try.func7, Try.ntmps7
        go_wp2_with (first | (go_at_call 17; refine (bytes17_yes _ _ hsz).mono ?_; rintro e w' ⟨rfl, rfl⟩) | (go_at_call 13; refine (CT.out _).mono ?_; rintro e w' ⟨rfl, rfl⟩) | (go_at_call 14; refine (zzpack_some _ _ HC.out).mono ?_; rintro e w' ⟨rfl, rfl⟩) | (go_at_call 16; refine (unpack_packed _ _ HC.out).mono ?_; rintro e w' ⟨C, rfl, rfl⟩))
        go_ret
        exact ⟨rfl, (Grown.refl _).alloc _ _⟩
      · have ct := fun w => code_is a0 false w w0 (by simp [hc])
        have CT : Hid (∀ w, Calls Try.prog 13 #[.string a0] w fun e w' => e = .returned (.bool false) ∧ w' = w) := ct
        clear hc ct
        go_enter Try.func7, Try.ntmps7
        go_wp2_with (first | (go_at_call 17; refine (bytes17_yes _ _ hsz).mono ?_; rintro e w' ⟨rfl, rfl⟩) | (go_at_call 13; refine (CT.out _).mono ?_; rintro e w' ⟨rfl, rfl⟩))
        go_ret
        exact ⟨rfl, Grown.refl _⟩
  · go_enter Try.func7, Try.ntmps7
    go_wp2_with (go_at_call 17; refine (bytes17_no _ _ w0 (by omega)).mono ?_; rintro e w' ⟨rfl, rfl⟩)
    go_ret
    exact ⟨rfl, Grown.refl _⟩
end Go.Proofs.Qxb6601178a
