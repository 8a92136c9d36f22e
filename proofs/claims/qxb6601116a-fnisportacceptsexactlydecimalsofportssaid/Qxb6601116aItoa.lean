/- zzItoa writes the digits of a number from the end of a row of 24 cells. -/
import Derived.Test.Qxb6601116aPort
import Derived.Laws.BytesArg
namespace Go.Proofs.Qxb6601116a
open Go.RowKit Go.PlainAid

/-- The number that a list of digits spells. -/
def sv : List Int → Int
  | [] => 0
  | c :: l => (c - 48) * 10 ^ l.length + sv l
def DigL (l : List Int) : Prop := ∀ c ∈ l, 48 ≤ c ∧ c ≤ 57
/-- What is left of U when the digits l have been written: v. -/
def Inv (U v : Int) (l : List Int) : Prop := U = v * 10 ^ l.length + sv l ∧ 0 ≤ v ∧ DigL l ∧ (l = [] ∨ 1 ≤ v)

theorem pow_pos10 (n : Nat) : (0 : Int) < 10 ^ n := Int.pow_pos (by decide)
theorem sv_nonneg : ∀ {l : List Int}, DigL l → 0 ≤ sv l
  | [], _ => Int.le_refl _
  | c :: l, h => by
    have h1 := sv_nonneg (l := l) (fun x hx => h x (List.mem_cons_of_mem _ hx))
    have h2 := h c (List.mem_cons_self ..)
    have h3 : 0 ≤ (c - 48) * 10 ^ l.length := Int.mul_nonneg (by omega) (Int.le_of_lt (pow_pos10 _))
    show 0 ≤ (c - 48) * 10 ^ l.length + sv l; omega
theorem inv_start {U : Int} (h : 0 ≤ U) : Inv U U [] := ⟨by simp [sv], h, by simp [DigL], .inl rfl⟩
/-- One more digit. -/
theorem step_eq {U v : Int} {l : List Int} (h : Inv U v l) : U = v / 10 * 10 ^ (((48 + v % 10) :: l).length) + sv ((48 + v % 10) :: l) ∧ 0 ≤ v / 10 ∧ DigL ((48 + v % 10) :: l) := by
  obtain ⟨h1, h2, h3, _⟩ := h
  refine ⟨?_, by omega, ?_⟩
  · have e : v = v / 10 * 10 + v % 10 := by omega
    show U = v / 10 * 10 ^ (l.length + 1) + ((48 + v % 10 - 48) * 10 ^ l.length + sv l)
    have e2 : (48 + v % 10 - 48) = v % 10 := by omega
    rw [h1, e2, Int.pow_succ, Int.mul_comm (10 ^ l.length) 10, ← Int.mul_assoc, ← Int.add_assoc, ← Int.add_mul, ← e]
  · intro c hc
    rcases List.mem_cons.mp hc with rfl | hc
    · omega
    · exact h3 c hc
theorem inv_step {U v : Int} {l : List Int} (h : Inv U v l) (hz : (v / 10 == 0) = false) : Inv U (v / 10) ((48 + v % 10) :: l) := by
  obtain ⟨h1, h2, h3⟩ := step_eq h
  have hz' : v / 10 ≠ 0 := by simpa using hz
  exact ⟨h1, h2, h3, .inr (by omega)⟩
theorem inv_last {U v : Int} {l : List Int} (h : Inv U v l) (hz : (v / 10 == 0) = true) : U = sv ((48 + v % 10) :: l) ∧ DigL ((48 + v % 10) :: l) := by
  obtain ⟨h1, _, h3⟩ := step_eq h
  have hz' : v / 10 = 0 := by simpa using hz
  rw [hz'] at h1
  refine ⟨?_, h3⟩
  rw [h1]; simp
theorem inv_len {U v : Int} {l : List Int} (h : Inv U v l) (hU : U < 100000000000000000000) : l.length < 20 := by
  obtain ⟨h1, h2, h3, h4⟩ := h
  rcases h4 with rfl | h4
  · simp
  · rcases Nat.lt_or_ge l.length 20 with h | h
    · exact h
    · exfalso
      have h5 := sv_nonneg h3
      have h6 : (10 : Int) ^ 20 ≤ 10 ^ l.length := by
        have := Nat.pow_le_pow_right (show 0 < 10 by decide) h
        exact_mod_cast this
      have h7 : 1 * (10 : Int) ^ l.length ≤ v * 10 ^ l.length := Int.mul_le_mul_of_nonneg_right h4 (Int.le_of_lt (pow_pos10 _))
      have h8 : (10 : Int) ^ 20 = 100000000000000000000 := by decide
      omega

/-- The last cells of a block of 24 hold the digits l. -/
def Tail (C : Array Value) (m : Nat) (l : List Int) : Prop := C.size = 24 ∧ m + l.length = 24 ∧ ∀ j, j < l.length → C[m + j]? = some (.int .u8 (l.getD j 0))
theorem tail_step {C : Array Value} {m : Nat} {l : List Int} (h : Tail C (m + 1) l) (c : Int) : Tail (C.setIfInBounds m (.int .u8 c)) m (c :: l) := by
  obtain ⟨h1, h2, h3⟩ := h
  refine ⟨by simp [h1], by simp only [List.length_cons]; omega, fun j hj => ?_⟩
  rcases j with _ | j
  · simp only [List.length_cons, Nat.add_zero, List.getD_cons_zero] at *
    rw [Array.getElem?_setIfInBounds, if_pos rfl, if_pos (by omega)]
  · have := h3 j (by simpa using hj)
    rw [Array.getElem?_setIfInBounds, if_neg (by omega), show m + (j + 1) = m + 1 + j by omega, this]
    simp

theorem len30 : Try.prog.arrayLen 30 = 24 := by kernel_rfl
theorem el30 : Try.prog.elem 30 = 5 := by kernel_rfl
theorem cells5 : Try.prog.cellsOf 5 = 1 := by kernel_rfl
theorem run_tail (b m : Nat) (hm : m < 24) (w : World) :
    Sem.run Try.prog (Instr.sliceAt 30 (.pointer (some ⟨b, 0, none⟩)) (some (.int .i64 (m : Int))) none none) w = .ok (.slice (some ⟨b, m, none⟩) (24 - m) (24 - m)) w := by
  have hu : Try.prog.underlying 30 = some (.array (Try.prog.arrayLen 30) (Try.prog.elem 30)) := by kernel_rfl
  have h := run_sliceAt_array_l w 30 ⟨b, 0, none⟩ hu .i64 (m : Int) (by omega) (by rw [len30]; omega)
  refine h.trans ?_
  have hs : (sizeOf (Try.prog.elem 30)).run Try.prog w = .ok 1 w := by kernel_rfl
  rw [hs, len30]
  simp only [Result.andThen, slicedAt, Int.toNat_natCast]
  rw [if_neg (by omega)]
  simp [Addr.add]
  exact fun h => h.symm
theorem run_str (w : World) (C : Array Value) (m : Nat) (l : List Int) (h : Tail C m l) :
    Sem.run Try.prog (convert 23 9 (.slice (some ⟨w.heap.size, m, none⟩) (24 - m) (24 - m))) (w.alloc (.cells C 30)) = .ok (.string (strOfNums l)) (w.alloc (.cells C 30)) := by
  obtain ⟨h1, h2, h3⟩ := h
  refine run_convert_bytes_arg _ 23 5 Try.underlying23 Try.underlying5 w.heap.size m (24 - m) (24 - m) l (by omega) (fun i hi => ?_) 9 Try.underlying9
  rw [World.cell?_alloc_mark, h3 i (by omega)]

theorem inv_le {U v : Int} {l : List Int} (h : Inv U v l) : v ≤ U := by
  obtain ⟨h1, h2, h3, _⟩ := h
  have h5 := sv_nonneg h3
  have h7 : v * 1 ≤ v * 10 ^ l.length := Int.mul_le_mul_of_nonneg_left (pow_pos10 _) h2
  omega

set_option maxHeartbeats 400000 in
theorem itoa_pos (n : Int) (w : World) (h0 : 0 ≤ n) (h1 : n ≤ 9223372036854775807) :
    Calls Try.prog 12 #[.int .i64 n] w fun e w' => ∃ (l : List Int) (C : Array Value), e = .returned (.string (strOfNums l)) ∧ DigL l ∧ sv l = n ∧ 1 ≤ l.length ∧ l.length ≤ 20 ∧ w' = w.alloc (.cells C 30) := by
  have HU : Hid (n < 100000000000000000000) := show n < 100000000000000000000 by omega
  go_enter Try.func12, Try.ntmps12
  go_wp2
  go_loopw [5, 3] (fun i u wr => ∃ (m : Nat) (v : Int) (l : List Int) (C : Array Value), i = .int .i64 m ∧ u = .int .u64 v ∧ wr = w.alloc (.cells C 30) ∧ C.size = 24 ∧ Hid (Tail C m l) ∧ Hid (Inv n v l)) (fun i _ _ => (intOf i).toNat)
  case atStart => exact ⟨24, n, [], _, rfl, rfl, rfl, rfl, ⟨rfl, rfl, fun j hj => absurd hj (by simp)⟩, inv_start h0⟩
  case round =>
    obtain ⟨m, v, l, C, rfl, rfl, rfl, hC, hT, hI⟩ := hrel
    have hl := inv_len hI.out HU.out
    have hm := hT.out.2.1
    have v0 := hI.out.2.1
    have v1 : v ≤ n := inv_le hI.out
    obtain ⟨m, rfl⟩ : ∃ m', m = m' + 1 := ⟨m - 1, by omega⟩
    have hm2 : m < 24 := by omega
    have HL : Hid (l.length < 20) := hl
    clear hl hm
    have hT' : Hid (Tail (C.setIfInBounds m (.int .u8 (48 + v % 10))) m ((48 + v % 10) :: l)) := tail_step hT.out _
    by_cases hz : (v / 10 == 0) = true
    · have HI : Hid (n = sv ((48 + v % 10) :: l) ∧ DigL ((48 + v % 10) :: l)) := inv_last hI.out hz
      have hsl := run_tail w.heap.size m hm2
      have hcv := run_str w _ m _ hT'.out
      go_wp2
      go_ret
      exact ⟨_, _, rfl, HI.out.2, HI.out.1.symm, by simp, by have := HL.out; simp; omega, rfl⟩
    · have hz : (v / 10 == 0) = false := by simpa using hz
      have HI := inv_step hI.out hz
      have HI' : Hid (Inv n (v / 10) ((48 + v % 10) :: l)) := HI
      clear HI
      go_wp2
      go_roundw
      case rel => exact ⟨m, _, _, _, rfl, rfl, rfl, by simpa using hC, hT', HI'⟩
      case measure => simp [intOf]

set_option maxHeartbeats 400000 in
theorem itoa_neg (n : Int) (w : World) (h0 : n < 0) (h1 : -9223372036854775808 ≤ n) :
    Calls Try.prog 12 #[.int .i64 n] w fun e w' => ∃ (l : List Int) (C : Array Value), e = .returned (.string (strOfNums (45 :: l))) ∧ DigL l ∧ l.length ≤ 20 ∧ w' = w.alloc (.cells C 30) := by
  have HU : Hid (-n < 100000000000000000000) := show -n < 100000000000000000000 by omega
  go_enter Try.func12, Try.ntmps12
  go_wp2
  go_loopw [5, 3] (fun i u wr => ∃ (m : Nat) (v : Int) (l : List Int) (C : Array Value), i = .int .i64 m ∧ u = .int .u64 v ∧ wr = w.alloc (.cells C 30) ∧ C.size = 24 ∧ Hid (Tail C m l) ∧ Hid (Inv (-n) v l)) (fun i _ _ => (intOf i).toNat)
  case atStart => exact ⟨24, -n, [], _, rfl, by go_num, rfl, rfl, ⟨rfl, rfl, fun j hj => absurd hj (by simp)⟩, inv_start (by omega)⟩
  case round =>
    obtain ⟨m, v, l, C, rfl, rfl, rfl, hC, hT, hI⟩ := hrel
    have hl := inv_len hI.out HU.out
    have hm := hT.out.2.1
    have v0 := hI.out.2.1
    have v1 : v ≤ -n := inv_le hI.out
    obtain ⟨m, rfl⟩ : ∃ m', m = m' + 1 + 1 := ⟨m - 2, by omega⟩
    have hm2 : m + 1 < 24 := by omega
    have HL : Hid (l.length < 20) := hl
    clear hl hm
    have hT' : Hid (Tail (C.setIfInBounds (m + 1) (.int .u8 (48 + v % 10))) (m + 1) ((48 + v % 10) :: l)) := tail_step hT.out _
    by_cases hz : (v / 10 == 0) = true
    · have HI : Hid (DigL ((48 + v % 10) :: l)) := (inv_last hI.out hz).2
      have hT2 : Hid (Tail ((C.setIfInBounds (m + 1) (.int .u8 (48 + v % 10))).setIfInBounds m (.int .u8 45)) m (45 :: (48 + v % 10) :: l)) := tail_step hT'.out _
      obtain ⟨u, hu⟩ : ∃ u, C[m]? = some u := ⟨_, Array.getElem?_eq_getElem (by omega)⟩
      have hsl := run_tail w.heap.size m (by omega)
      have hcv := run_str w _ m _ hT2.out
      go_wp2
      go_ret
      exact ⟨_, _, rfl, HI.out, by have := HL.out; simp; omega, rfl⟩
    · have hz : (v / 10 == 0) = false := by simpa using hz
      have HI := inv_step hI.out hz
      have HI' : Hid (Inv (-n) (v / 10) ((48 + v % 10) :: l)) := HI
      clear HI
      go_wp2
      go_roundw
      case rel => exact ⟨m + 1, _, _, _, rfl, rfl, rfl, by simpa using hC, hT', HI'⟩
      case measure => simp [intOf]; omega
end Go.Proofs.Qxb6601116a
