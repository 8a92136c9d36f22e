/- The walk of FnPackAfterUnpackReducesModulo. -/
import Derived.Test.Qxb6601178aCurrency
import Derived.OpenShut
namespace Go.Proofs.Qxb6601178a
open Go.RowKit Go.PlainAid

theorem unpack_code (m : Int) (w : World) (h1 : 0 ≤ m) (h2 : m ≤ 65534) :
    Calls Try.prog 16 #[.int .u16 (m + 1)] w fun e w' => ∃ C : Array Value, e = .returned (.string (codeOf m)) ∧ w' = w.alloc (.cells C 29) := zzunpack_some m w h1 h2
theorem pack_code (m : Int) (w : World) :
    Calls Try.prog 14 #[.string (codeOf m)] w fun e w' => e = .returned (.int .u16 (m % 17576 + 1)) ∧ w' = w := by
  have := zzpack_some (codeOf m) w (isCode_code m)
  rw [packed_code m] at this
  exact this
theorem isCode_yes (m : Int) (w : World) :
    Calls Try.prog 13 #[.string (codeOf m)] w fun e w' => e = .returned (.bool true) ∧ w' = w :=
  code_is (codeOf m) true w (by show 3 ≤ maxLen; unfold maxLen; omega) (by simp [isCode_code m])

set_option maxHeartbeats 400000 in
theorem reduces_walk (a0 : Int) (w0 : (Lit.int .u16 a0).wf = true) (w : World) :
    Calls Try.prog 6 #[.int .u16 a0] w fun e w' => e = .returned (.bool true) ∧ Grown w w' := by
  have b0 := bounds_u16 w0
  clear w0
  by_cases h : a0 = 0
  · subst h
    clear b0
    go_enter Try.func6, Try.ntmps6
    go_wp2_with (first | (go_at_call 16; refine (zzunpack_none _).mono ?_; rintro e w' ⟨rfl, rfl⟩) | (go_at_call 14; refine (zzpack_none _).mono ?_; rintro e w' ⟨rfl, rfl⟩))
    go_ret
    exact ⟨rfl, Grown.refl _⟩
  · obtain ⟨m, rfl⟩ : ∃ m, a0 = m + 1 := ⟨a0 - 1, by omega⟩
    have h1 : 0 ≤ m := by omega
    have h2 : m ≤ 65534 := by omega
    have h3 : (m + 1 == 0) = false := by simp; omega
    clear h b0
    go_enter Try.func6, Try.ntmps6
    go_wp2_with (first | (go_at_call 16; refine (unpack_code _ _ h1 h2).mono ?_; rintro e w' ⟨C, rfl, rfl⟩) | (go_at_call 14; refine (pack_code _ _).mono ?_; rintro e w' ⟨rfl, rfl⟩) | (go_at_call 13; refine (isCode_yes _ _).mono ?_; rintro e w' ⟨rfl, rfl⟩))
    go_ret
    exact ⟨rfl, (Grown.refl _).alloc _ _⟩
end Go.Proofs.Qxb6601178a
