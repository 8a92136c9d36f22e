/- The plain law on zeros and digits; the walk of FnIsPortAcceptsExactlyDecimalsOfPorts. -/
import Derived.Test.Qxb6601116aItoa
import Derived.OpenShut
namespace Go.Proofs.Qxb6601116a
open Go.RowKit Go.PlainAid

/-! ### The plain law -/
def Bytes (xs : List Int) : Prop := ∀ c ∈ xs, 0 ≤ c ∧ c ≤ 255
theorem bt_nums {xs : List Int} (h : Bytes xs) (j : Nat) (hj : j < xs.length) : bt (strOfNums xs) j = xs[j] := by
  have hs : j < (strOfNums xs).size := by rw [strOfNums_size]; exact hj
  have hb := h xs[j] (List.getElem_mem hj)
  unfold bt
  rw [dif_pos hs]
  have e : (strOfNums xs)[j] = UInt8.ofNat (xs[j]).toNat := by
    show (strOfNums xs).data[j] = _
    simp [strOfNums]
  rw [e, UInt8.toNat_ofNat', Nat.mod_eq_of_lt (by omega)]
  omega
/-- The number that a list spells, from the left, behind what a spells. -/
def fv (a : Int) (l : List Int) : Int := l.foldl (fun a c => a * 10 + (c - 48)) a
theorem fv_sv : ∀ (l : List Int) (a : Int), fv a l = a * 10 ^ l.length + sv l
  | [], a => by simp [fv, sv]
  | c :: l, a => by
    show fv (a * 10 + (c - 48)) l = a * 10 ^ (l.length + 1) + ((c - 48) * 10 ^ l.length + sv l)
    rw [fv_sv l, Int.pow_succ, Int.mul_comm (10 ^ l.length) 10, ← Int.mul_assoc, ← Int.add_assoc, ← Int.add_mul]
theorem val_nums {xs : List Int} (h : Bytes xs) : ∀ k, k ≤ xs.length → val (strOfNums xs) k = fv 0 (xs.take k)
  | 0, _ => by simp [val, fv]
  | k + 1, hk => by
    show val (strOfNums xs) k * 10 + (bt (strOfNums xs) k - 48) = _
    rw [val_nums h k (by omega), bt_nums h k (by omega), List.take_succ_eq_append_getElem (by omega)]
    unfold fv; rw [List.foldl_append]; rfl
/-- k zeros. -/
def zs (k : Nat) : List Int := List.replicate k 48
theorem zs_length (k : Nat) : (zs k).length = k := by simp [zs]
theorem zs_succ (k : Nat) : zs (k + 1) = zs k ++ [48] := by simp [zs, List.replicate_succ']
theorem fv_zs : ∀ k, fv 0 (zs k) = 0
  | 0 => rfl
  | k + 1 => by
    have h := fv_zs k
    rw [zs_succ]; unfold fv at h ⊢; rw [List.foldl_append, h]; rfl
theorem bytes_zs (k : Nat) {l : List Int} (h : Bytes l) : Bytes (zs k ++ l) := fun c hc => by
  rcases List.mem_append.mp hc with hc | hc
  · have := (List.mem_replicate.mp hc).2; omega
  · exact h c hc
theorem accepts_pos {k : Nat} {l : List Int} {n : Int} (hd : DigL l) (hv : sv l = n) : (1 ≤ n ∧ n ≤ 65535) ↔ IsPort (strOfNums (zs k ++ l)) := by
  have hb : Bytes (zs k ++ l) := bytes_zs k (fun c hc => by have := hd c hc; omega)
  have hval : val (strOfNums (zs k ++ l)) (strOfNums (zs k ++ l)).size = n := by
    rw [strOfNums_size, val_nums hb _ (Nat.le_refl _), List.take_length]
    show List.foldl _ _ _ = _
    rw [List.foldl_append]
    show fv (fv 0 (zs k)) l = n
    rw [fv_zs, fv_sv, hv]; simp
  have hds : Digs (strOfNums (zs k ++ l)) (strOfNums (zs k ++ l)).size := fun j hj => by
    rw [strOfNums_size] at hj
    rw [bt_nums hb j hj]
    rcases List.mem_append.mp (List.getElem_mem hj) with hc | hc
    · have := (List.mem_replicate.mp hc).2; omega
    · exact hd _ hc
  constructor
  · intro h; exact ⟨hds, by rw [hval]; exact h.1, by rw [hval]; exact h.2⟩
  · intro h; have h1 := h.2.1; have h2 := h.2.2; rw [hval] at h1 h2; exact ⟨h1, h2⟩
theorem bt_nums_at {xs : List Int} (j : Nat) (c : Int) (hj : xs[j]? = some c) (h0 : 0 ≤ c) (h1 : c ≤ 255) : bt (strOfNums xs) j = c := by
  obtain ⟨hl, e0⟩ := List.getElem?_eq_some_iff.mp hj
  have hs : j < (strOfNums xs).size := by rw [strOfNums_size]; exact hl
  unfold bt
  rw [dif_pos hs]
  have e : (strOfNums xs)[j] = UInt8.ofNat (xs[j]).toNat := by
    show (strOfNums xs).data[j] = _
    simp [strOfNums]
  rw [e, e0, UInt8.toNat_ofNat', Nat.mod_eq_of_lt (by omega)]
  omega
theorem accepts_neg {k : Nat} {l : List Int} : ¬ IsPort (strOfNums (zs k ++ 45 :: l)) := fun h => by
  have hj : k < (strOfNums (zs k ++ 45 :: l)).size := by rw [strOfNums_size]; simp [zs_length]
  have := h.1 k hj
  rw [bt_nums_at k 45 (by rw [List.getElem?_append_right (by rw [zs_length]; exact Nat.le_refl _)]; simp [zs_length]) (by decide) (by decide)] at this
  omega

/-! ### The walk -/
theorem info5 : (Try.prog.info? 5).map (fun i => (i.zero, i.size, i.bytes)) = some (some (.int .u8 0), 1, 1) := by kernel_rfl

theorem run_own_str (w : World) (B g n cap : Nat) (xs : List Int) (hx : xs.length = n) (h : w.ownsRow B 5 1 (.slice (some ⟨g, 0, none⟩) n cap) n (xs.map (Value.int .u8))) :
    Sem.run Try.prog (convert 23 9 (.slice (some ⟨g, 0, none⟩) n cap)) w = .ok (.string (strOfNums xs)) w := by
  refine run_convert_bytes_arg _ 23 5 Try.underlying23 Try.underlying5 g 0 n cap xs hx (fun i hi => ?_) 9 Try.underlying9
  rw [Nat.zero_add, h.cellAt i (by omega)]
  simp [List.getD, List.getElem?_eq_getElem (show i < xs.length by omega)]

theorem zzIsPort_at (s : ByteArray) (b : Bool) (w : World) (hs : s.size ≤ maxLen) (hb : b = true ↔ IsPort s) :
    Calls Try.prog 9 #[.string s] w fun e w' => e = .returned (.bool b) ∧ w' = w := by
  cases b
  · exact zzIsPort_no s w hs (fun h => absurd (hb.2 h) (by decide))
  · exact zzIsPort_yes s w hs (hb.1 rfl)

/-- The first j bytes of d. -/
def bl (d : ByteArray) (j : Nat) : List Int := (List.range j).map (fun i => bt d i)
theorem bl_length (d : ByteArray) (j : Nat) : (bl d j).length = j := by simp [bl]
theorem bl_succ (d : ByteArray) (j : Nat) : bl d (j + 1) = bl d j ++ [bt d j] := by simp [bl, List.range_succ]
theorem bl_nums {l : List Int} (h : Bytes l) : bl (strOfNums l) (strOfNums l).size = l := by
  rw [strOfNums_size]
  apply List.ext_getElem (by rw [bl_length])
  intro i h1 h2
  simp only [bl, List.getElem_map, List.getElem_range]
  exact bt_nums h i h2

theorem itoa_any (n : Int) (w : World) (h0 : -9223372036854775808 ≤ n) (h1 : n ≤ 9223372036854775807) :
    Calls Try.prog 12 #[.int .i64 n] w fun e w' => ∃ (d : ByteArray) (C : Array Value), e = .returned (.string d) ∧ d.size ≤ 21 ∧ Hid (∀ k, (1 ≤ n ∧ n ≤ 65535) ↔ IsPort (strOfNums (zs k ++ bl d d.size))) ∧ w' = w.alloc (.cells C 30) := by
  by_cases h : 0 ≤ n
  · refine (itoa_pos n w h h1).mono ?_
    rintro e w' ⟨l, C, rfl, hd, hv, _, hl, rfl⟩
    refine ⟨strOfNums l, C, rfl, by rw [strOfNums_size]; omega, fun k => ?_, rfl⟩
    rw [bl_nums (fun c hc => by have := hd c hc; omega)]
    exact accepts_pos hd hv
  · refine (itoa_neg n w (by omega) h0).mono ?_
    rintro e w' ⟨l, C, rfl, hd, hl, rfl⟩
    refine ⟨strOfNums (45 :: l), C, rfl, by rw [strOfNums_size]; simp; omega, fun k => ?_, rfl⟩
    rw [bl_nums (fun c hc => by
      rcases List.mem_cons.mp hc with rfl | hc
      · omega
      · have := hd c hc; omega)]
    exact ⟨fun h' => by omega, fun h' => absurd h' accepts_neg⟩

theorem own_more {w' : World} {B g k cap : Nat} {xs : List Int} {c : Int} (h : w'.ownsRow B 5 1 (.slice (some ⟨g, 0, none⟩) (k + 1) cap) (k + 1) (xs.map (Value.int .u8) ++ [.int .u8 c])) :
    w'.ownsRow B 5 1 (.slice (some ⟨g, 0, none⟩) (k + 1) cap) (k + 1) ((xs ++ [c]).map (Value.int .u8)) := by
  rw [List.map_append]; exact h

set_option maxHeartbeats 1000000 in
theorem accepts_go (n : Int) (z : Nat) (w : World) (hz : z ≤ 4096) (h0 : -9223372036854775808 ≤ n) (h1 : n ≤ 9223372036854775807) :
    Calls Try.prog 5 #[.int .i64 n, .int .i64 z] w fun e w' => e = .returned (.bool true) ∧ Below w.heap.size w w' := by
  obtain ⟨i0, hi, hz0, hz1, hz2⟩ := info_parts info5
  go_enter Try.func5, Try.ntmps5
  go_wp2_with (at_make; refine wpList_make_own _ rfl _ _ 23 rfl w.heap.size 5 i0 (.int .u8 0) 1 Try.underlying23 hi hz0 hz1 .i64 .i64 _ (z + 24) rfl rfl (by omega) (by rw [hz2]; omega) (by unfold maxLen; omega) (Nat.le_refl _) ?_; intro w1 hown1 hgrow1)
  have hb1 : Below w.heap.size w w1 := (Below.refl _ _).grown hgrow1 (Nat.le_refl _) (by simp)
  clear hgrow1
  go_loopw [5, 6] (fun v i wr => ∃ k : Nat, k ≤ z ∧ i = .int .i64 k ∧ v = .slice (some ⟨w.heap.size, 0, none⟩) k (z + 24) ∧ wr.ownsRow w.heap.size 5 1 (.slice (some ⟨w.heap.size, 0, none⟩) k (z + 24)) k ((zs k).map (Value.int .u8)) ∧ Below w.heap.size w wr) (fun _ i _ => z - (intOf i).toNat)
  case atStart => exact ⟨0, Nat.zero_le _, rfl, rfl, hown1, hb1⟩
  case round =>
    clear hown1 hb1
    obtain ⟨k, hk, rfl, rfl, hown, hbel⟩ := hrel
    by_cases hlt : k < z
    · go_wp2_with (at_builtin; refine wpList_append_fits _ rfl (.tmp 23) (.tmp 24) 23 rfl w.heap.size 5 i0 1 Try.underlying23 hi hz1 w.heap.size k (z + 24) ((zs k).map (Value.int .u8)) rfl (hown.alloc _) ⟨wr.heap.size, 0, none⟩ 1 1 [.int .u8 48] rfl rfl ?c1 ?c2 ?c3 ?_)
      case c1 => exact cell_one_new _ _ _
      case c2 => intro u hu; simp at hu; subst hu; rfl
      case c3 => omega
      intro w2 hown2 hgrow2
      have R : Hid (w2.ownsRow w.heap.size 5 1 (.slice (some ⟨w.heap.size, 0, none⟩) (k + 1) (z + 24)) (k + 1) ((zs (k + 1)).map (Value.int .u8))) := by rw [zs_succ]; exact own_more hown2
      have hb2 : Below w.heap.size w w2 := (hbel.alloc hbel.size _).grown hgrow2 (by have := hbel.size; simp; omega) (by simp)
      clear hown2 hgrow2 hown hbel
      go_wp2
      go_roundw
      case rel => exact ⟨k + 1, by omega, by go_num, rfl, R.out, hb2⟩
      case measure => simp [intOf]; omega
    · obtain rfl : k = z := by omega
      go_wp2_with (go_at_call 12; refine (itoa_any _ _ h0 h1).mono ?_; rintro e w' ⟨d, C, rfl, hd, hI, rfl⟩)
      have hbt := get_bt d
      go_loopw [5, 8] (fun v i wq => ∃ j : Nat, j ≤ d.size ∧ i = .int .i64 j ∧ v = .slice (some ⟨w.heap.size, 0, none⟩) (k + j) (k + 24) ∧ wq.ownsRow w.heap.size 5 1 (.slice (some ⟨w.heap.size, 0, none⟩) (k + j) (k + 24)) (k + j) ((zs k ++ bl d j).map (Value.int .u8)) ∧ Below w.heap.size w wq) (fun _ i _ => d.size - (intOf i).toNat)
      case atStart => exact ⟨0, Nat.zero_le _, rfl, rfl, by simpa [bl] using hown.alloc _, hbel.alloc hbel.size _⟩
      case round =>
        clear hown hbel
        obtain ⟨j, hj, rfl, rfl, hown, hbel⟩ := hrel
        by_cases hlt2 : j < d.size
        · go_wp2_with (at_builtin; refine wpList_append_fits _ rfl (.tmp 34) (.tmp 38) 23 rfl w.heap.size 5 i0 1 Try.underlying23 hi hz1 w.heap.size (k + j) (k + 24) ((zs k ++ bl d j).map (Value.int .u8)) rfl (hown.alloc _) ⟨_, 0, none⟩ 1 1 [.int .u8 (bt d j)] rfl rfl ?e1 ?e2 ?e3 ?_)
          case e1 => exact cell_one_new _ _ _
          case e2 => intro u hu; simp at hu; subst hu; rfl
          case e3 => omega
          intro w2 hown2 hgrow2
          have R : Hid (w2.ownsRow w.heap.size 5 1 (.slice (some ⟨w.heap.size, 0, none⟩) (k + (j + 1)) (k + 24)) (k + (j + 1)) ((zs k ++ bl d (j + 1)).map (Value.int .u8))) := by rw [bl_succ]; show World.ownsRow _ _ _ _ _ _ _; simpa [← Nat.add_assoc] using hown2
          have hb2 : Below w.heap.size w w2 := (hbel.alloc hbel.size _).grown hgrow2 (by have := hbel.size; simp; omega) (by simp)
          clear hown2 hgrow2 hown hbel
          go_wp2
          go_roundw
          case rel => exact ⟨j + 1, by omega, by go_num, rfl, R.out, hb2⟩
          case measure => simp [intOf]; omega
        · obtain rfl : j = d.size := by omega
          have hcv := run_own_str _ _ _ _ _ _ (by simp [zs_length, bl_length]) hown
          obtain ⟨b, hb⟩ : ∃ b : Bool, b = decide (1 ≤ n ∧ n ≤ 65535) := ⟨_, rfl⟩
          have HB : Hid (b = true ↔ IsPort (strOfNums (zs k ++ bl d d.size))) := by rw [hb]; exact decide_eq_true_iff.trans (hI.out k)
          have HB2 : Hid (b = decide (1 ≤ n ∧ n ≤ 65535)) := hb
          clear hb
          by_cases hn1 : 1 ≤ n
          · go_wp2_with (go_at_call 9; refine (zzIsPort_at _ b _ (by rw [strOfNums_size]; simp [zs_length, bl_length]; unfold maxLen; omega) HB.out).mono ?_; rintro e w' ⟨rfl, rfl⟩)
            go_ret
            exact ⟨ret_bool (by rw [HB2.out]; simp [hn1]), hbel⟩
          · go_wp2_with (go_at_call 9; refine (zzIsPort_at _ b _ (by rw [strOfNums_size]; simp [zs_length, bl_length]; unfold maxLen; omega) HB.out).mono ?_; rintro e w' ⟨rfl, rfl⟩)
            go_ret
            exact ⟨ret_bool (by rw [HB2.out]; simp [hn1]), hbel⟩

set_option maxHeartbeats 400000 in
theorem accepts_walk (a0 a1 : Int) (w0 : (Lit.int .i64 a0).wf = true) (w1 : (Lit.int .i64 a1).wf = true) (w : World) :
    Calls Try.prog 5 #[.int .i64 a0, .int .i64 a1] w fun e w' => e = .returned (.bool true) ∧ Below w.heap.size w w' := by
  have b0 := bounds_i64 w0
  have b1 := bounds_i64 w1
  by_cases h1 : a1 < 0
  · go_enter Try.func5, Try.ntmps5
    go_wp2
    go_ret
    exact ⟨rfl, Below.refl _ _⟩
  · by_cases h2 : 4096 < a1
    · go_enter Try.func5, Try.ntmps5
      go_wp2
      go_ret
      exact ⟨rfl, Below.refl _ _⟩
    · obtain ⟨z, rfl⟩ : ∃ z : Nat, a1 = z := ⟨a1.toNat, by omega⟩
      exact accepts_go a0 z w (by omega) b0.1 b0.2
end Go.Proofs.Qxb6601116a
