/- tenToThe and padDigits: their walks. -/
import Derived.Test.Qxb6000776aRows
import Derived.WalkKit
import Derived.WalkSpells
import Derived.WalkLawsBesides
import Derived.Deep.QuietTactic
import Derived.BigQuiet
import Derived.PlainAid
import Derived.Laws.BytesArg
import Derived.Deep.OwnRows
namespace Go.Proofs.Qxb6000776a
open Go.RowKit Go.PlainAid

/-- The power of ten. -/
def p10 : Nat → Int
  | 0 => 1
  | k + 1 => p10 k * 10
theorem p10_pos : ∀ k, 1 ≤ p10 k
  | 0 => by simp [p10]
  | k + 1 => by have := p10_pos k; show 1 ≤ p10 k * 10; omega
theorem p10_mono {k m : Nat} (h : k ≤ m) : p10 k ≤ p10 m := by
  induction m with
  | zero => obtain rfl : k = 0 := by omega
            exact Int.le_refl _
  | succ m ih =>
    by_cases e : k = m + 1
    · subst e; exact Int.le_refl _
    · have := ih (by omega)
      have := p10_pos m
      show p10 k ≤ p10 m * 10; omega
theorem p10_le {k : Nat} (h : k ≤ 9) : p10 k ≤ 1000000000 := p10_mono (m := 9) h

set_option maxHeartbeats 400000 in
theorem ten_any (k : Nat) (w : World) (hk : k ≤ 9) :
    Calls Try.prog 5 #[.int .i64 k] w fun e w' => e = .returned (.int .i64 (p10 k)) ∧ w' = w := by
  go_enter Try.func5, Try.ntmps5
  go_wp2
  go_loop [3, 4] (fun p i => ∃ m : Nat, m ≤ k ∧ i = .int .i64 m ∧ p = .int .i64 (p10 m)) (fun _ i => k - (intOf i).toNat)
  case atStart => exact ⟨0, Nat.zero_le _, rfl, rfl⟩
  case round =>
    obtain ⟨m, hm, rfl, rfl⟩ := hrel
    have h1 := p10_pos m
    have h2 := p10_le (show m ≤ 9 by omega)
    by_cases hlt : m < k
    · go_wp2
      go_round
      case rel => exact ⟨m + 1, by omega, by go_num, rfl⟩
      case measure => simp [intOf]; omega
    · obtain rfl : m = k := by omega
      go_wp2
      go_ret
      exact ⟨rfl, rfl⟩

/-- The number that a list of digits spells. -/
def sv : List Int → Int
  | [] => 0
  | c :: l => (c - 48) * p10 l.length + sv l
def DigL (l : List Int) : Prop := ∀ c ∈ l, 48 ≤ c ∧ c ≤ 57
theorem sv_nonneg : ∀ {l : List Int}, DigL l → 0 ≤ sv l
  | [], _ => Int.le_refl _
  | c :: l, h => by
    have h1 := sv_nonneg (l := l) (fun x hx => h x (List.mem_cons_of_mem _ hx))
    have h2 := h c (List.mem_cons_self ..)
    have h4 := p10_pos l.length
    have h3 : 0 ≤ (c - 48) * p10 l.length := Int.mul_nonneg (by omega) (by omega)
    show 0 ≤ (c - 48) * p10 l.length + sv l; omega
/-- What is left of U when the digits l have been written: v. -/
def Inv (U v : Int) (l : List Int) : Prop := U = v * p10 l.length + sv l ∧ 0 ≤ v ∧ DigL l
theorem inv_start {U : Int} (h : 0 ≤ U) : Inv U U [] := ⟨by simp [sv, p10], h, by simp [DigL]⟩
theorem inv_step {U v : Int} {l : List Int} (h : Inv U v l) : Inv U (v / 10) ((48 + v % 10) :: l) := by
  obtain ⟨h1, h2, h3⟩ := h
  refine ⟨?_, by omega, ?_⟩
  · have e : v = v / 10 * 10 + v % 10 := by omega
    show U = v / 10 * (p10 l.length * 10) + ((48 + v % 10 - 48) * p10 l.length + sv l)
    have e2 : (48 + v % 10 - 48) = v % 10 := by omega
    rw [h1, e2, Int.mul_comm (p10 l.length) 10, ← Int.mul_assoc, ← Int.add_assoc, ← Int.add_mul, ← e]
  · intro c hc
    rcases List.mem_cons.mp hc with rfl | hc
    · omega
    · exact h3 c hc
theorem inv_le {U v : Int} {l : List Int} (h : Inv U v l) : v ≤ U := by
  obtain ⟨h1, h2, h3⟩ := h
  have h5 := sv_nonneg h3
  have h7 : v * 1 ≤ v * p10 l.length := Int.mul_le_mul_of_nonneg_left (p10_pos _) h2
  omega
theorem inv_end {U v : Int} {l : List Int} (h : Inv U v l) (hU : U < p10 l.length) : sv l = U := by
  obtain ⟨h1, h2, h3⟩ := h
  have h5 := sv_nonneg h3
  have h6 := p10_pos l.length
  by_cases hv : v = 0
  · rw [hv] at h1; omega
  · exfalso
    have h7 : 1 * p10 l.length ≤ v * p10 l.length := Int.mul_le_mul_of_nonneg_right (by omega) (by omega)
    omega
/-- The cells of a row of W from m on hold the digits l. -/
def Tail (W : Nat) (C : Array Value) (m : Nat) (l : List Int) : Prop := C.size = W ∧ m + l.length = W ∧ ∀ j, j < l.length → C[m + j]? = some (.int .u8 (l.getD j 0))
theorem tail_step {W : Nat} {C : Array Value} {m : Nat} {l : List Int} (h : Tail W C (m + 1) l) (c : Int) : Tail W (C.setIfInBounds m (.int .u8 c)) m (c :: l) := by
  obtain ⟨h1, h2, h3⟩ := h
  refine ⟨by simp [h1], by simp only [List.length_cons]; omega, fun j hj => ?_⟩
  rcases j with _ | j
  · simp only [Nat.add_zero, List.getD_cons_zero]
    rw [Array.getElem?_setIfInBounds, if_pos rfl, if_pos (by omega)]
  · have := h3 j (by simpa using hj)
    rw [Array.getElem?_setIfInBounds, if_neg (by omega), show m + (j + 1) = m + 1 + j by omega, this]
    simp

theorem info5 : (Try.prog.info? 5).map (fun i => (i.zero, i.size, i.bytes)) = some (some (.int .u8 0), 1, 1) := by kernel_rfl
theorem run_str (W : Nat) (w : World) (C : Array Value) (l : List Int) (h : Tail W C 0 l) :
    Sem.run Try.prog (convert 27 9 (.slice (some ⟨w.heap.size, 0, none⟩) W W)) (w.alloc (.cells C 5)) = .ok (.string (strOfNums l)) (w.alloc (.cells C 5)) := by
  obtain ⟨h1, h2, h3⟩ := h
  refine run_convert_bytes_arg _ 27 5 Try.underlying27 Try.underlying5 w.heap.size 0 W W l (by omega) (fun i hi => ?_) 9 Try.underlying9
  rw [World.cell?_alloc_mark, h3 i (by omega)]

set_option maxHeartbeats 400000 in
theorem pad_any (n : Int) (W : Nat) (w : World) (hW : W ≤ 9) (h0 : 0 ≤ n) (h1 : n < p10 W) :
    Calls Try.prog 6 #[.int .i64 n, .int .i64 W] w fun e w' => ∃ (l : List Int) (C : Array Value), e = .returned (.string (strOfNums l)) ∧ l.length = W ∧ DigL l ∧ sv l = n ∧ w' = w.alloc (.cells C 5) := by
  have hb := p10_le hW
  have hmk := run_make_row' (P := Try.prog) 27 5 (.int .u8 0) 1 Try.underlying27 info5 rfl .i64 .i64 W (by omega) (by omega) w
  go_enter Try.func6, Try.ntmps6
  go_wp2
  go_loopw [6, 0] (fun i u wr => ∃ (m : Nat) (v : Int) (l : List Int) (C : Array Value), i = .int .i64 ((m : Int) - 1) ∧ u = .int .i64 v ∧ wr = w.alloc (.cells C 5) ∧ C.size = W ∧ m ≤ W ∧ Hid (Tail W C m l) ∧ Hid (Inv n v l)) (fun i _ _ => (intOf i + 1).toNat)
  case atStart => exact ⟨W, n, [], _, rfl, rfl, rfl, size_madeCells _ _, Nat.le_refl _, ⟨size_madeCells _ _, rfl, fun j hj => absurd hj (by simp)⟩, inv_start h0⟩
  case round =>
    clear hmk
    obtain ⟨m, v, l, C, rfl, rfl, rfl, hC, hmW, hT, hI⟩ := hrel
    have v0 := hI.out.2.1
    have v1 : v ≤ n := inv_le hI.out
    rcases m with _ | m
    · have hl : l.length = W := by have := hT.out.2.1; omega
      have HE : Hid (sv l = n ∧ l.length = W) := ⟨inv_end hI.out (by rw [hl]; exact h1), hl⟩
      have hcv := run_str W w C l hT.out
      clear hl
      go_wp2
      go_ret
      exact ⟨l, C, rfl, HE.out.2, hI.out.2.2, HE.out.1, rfl⟩
    · have hT' : Hid (Tail W (C.setIfInBounds m (.int .u8 (48 + v % 10))) m ((48 + v % 10) :: l)) := tail_step hT.out _
      have HI' : Hid (Inv n (v / 10) ((48 + v % 10) :: l)) := inv_step hI.out
      have hm2 : m < W := by omega
      go_wp2
      go_roundw
      case rel => exact ⟨m, _, _, _, rfl, rfl, rfl, by simpa using hC, by omega, hT', HI'⟩
      case measure => simp [intOf]
end Go.Proofs.Qxb6000776a
