/- Contracts of the functions over numbers: what the program's and the reference's number functions return, for sizes of 8, 16, 32 and 64 bits.
   Conditions: each theorem's own (the size is one of the four; the arguments are numbers of their kinds). -/
import Derived.Test.YtobfdjgikpolkaaProg
import Derived.Test.YtobfdjgikpolkaaPlain
import Derived.Below
import Derived.WalkKit
import Derived.KernelRfl
import Derived.Tactics
import Derived.Laws.Bits64
import Derived.Lib.Hide
namespace Go.Proofs.Ytobfdjgikpolkaa
open Go.RowKit
open Lib (hid)

/-! numbers -/
theorem sgn_64 (x : Int) : sgn 64 x = wrap64 x := by unfold sgn wrap64; rw [M64]; split <;> omega
theorem uns_64 {x : Int} (h : U64 x) : uns 64 x = x := by unfold U64 at h; unfold uns; rw [M64]; omega
theorem tmod_pos {x k : Int} (h : 0 ≤ x) : x.tmod k = x % k := Int.tmod_eq_emod_of_nonneg h

theorem top_calls (b : Int) (hb : Sz b) (w : World) : Calls Try.prog 22 #[.int .u64 b] w fun e w' => e = .returned (.int .u64 (top b)) ∧ w = w' := by
  rcases hb with rfl | rfl | rfl | rfl
  all_goals
    go_enter Try.func22, Try.ntmps22
    go_wp2
    go_ret
    exact ⟨rfl, rfl⟩

theorem great_calls (b : Int) (hb : Sz b) (w : World) : Calls Try.prog 20 #[.int .u64 b] w fun e w' => e = .returned (.int .i64 (great b)) ∧ w = w' := by
  rcases hb with rfl | rfl | rfl | rfl
  all_goals
    go_enter Try.func20, Try.ntmps20
    go_wp2
    go_ret
    exact ⟨rfl, rfl⟩

theorem least_calls (b : Int) (hb : Sz b) (w : World) : Calls Try.prog 21 #[.int .u64 b] w fun e w' => e = .returned (.int .i64 (least b)) ∧ w = w' := by
  rcases hb with rfl | rfl | rfl | rfl
  all_goals
    go_enter Try.func21, Try.ntmps21
    go_wp2
    go_ret
    exact ⟨rfl, rfl⟩


theorem uns_calls (b x : Int) (hb : Sz b) (hx : U64 x) (w : World) : Calls Try.prog 15 #[.int .u64 x, .int .u64 b] w fun e w' => e = .returned (.int .u64 (uns b x)) ∧ w = w' := by
  have h0 : 0 ≤ x := hx.1
  rcases hb with rfl | rfl | rfl | rfl
  case inr.inr.inr =>
    rw [uns_64 hx]
    clear hx
    go_enter Try.func15, Try.ntmps15
    go_wp2
    go_ret
    exact ⟨rfl, rfl⟩
  all_goals
    clear hx
    go_enter Try.func15, Try.ntmps15
    go_wp2
    go_ret
    exact ⟨rfl, rfl⟩

theorem sgn_calls (b x : Int) (hb : Sz b) (hx : U64 x) (w : World) : Calls Try.prog 14 #[.int .u64 x, .int .u64 b] w fun e w' => e = .returned (.int .i64 (sgn b x)) ∧ w = w' := by
  have h0 : 0 ≤ x := hx.1
  rcases hb with rfl | rfl | rfl | rfl
  case inr.inr.inr =>
    rw [sgn_64]
    clear hx
    go_enter Try.func14, Try.ntmps14
    go_wp2
    go_ret
    exact ⟨rfl, rfl⟩
  case inl =>
    clear hx
    by_cases h : x % 256 < 128
    · have e : sgn 8 x = x % 256 := if_pos h
      rw [e]; clear e
      go_enter Try.func14, Try.ntmps14
      go_wp2
      go_ret
      exact ⟨rfl, rfl⟩
    · have e : sgn 8 x = x % 256 - 256 := if_neg h
      rw [e]; clear e
      go_enter Try.func14, Try.ntmps14
      go_wp2
      go_ret
      exact ⟨rfl, rfl⟩
  case inr.inl =>
    clear hx
    by_cases h : x % 65536 < 32768
    · have e : sgn 16 x = x % 65536 := if_pos h
      rw [e]; clear e
      go_enter Try.func14, Try.ntmps14
      go_wp2
      go_ret
      exact ⟨rfl, rfl⟩
    · have e : sgn 16 x = x % 65536 - 65536 := if_neg h
      rw [e]; clear e
      go_enter Try.func14, Try.ntmps14
      go_wp2
      go_ret
      exact ⟨rfl, rfl⟩
  case inr.inr.inl =>
    clear hx
    by_cases h : x % 4294967296 < 2147483648
    · have e : sgn 32 x = x % 4294967296 := if_pos h
      rw [e]; clear e
      go_enter Try.func14, Try.ntmps14
      go_wp2
      go_ret
      exact ⟨rfl, rfl⟩
    · have e : sgn 32 x = x % 4294967296 - 4294967296 := if_neg h
      rw [e]; clear e
      go_enter Try.func14, Try.ntmps14
      go_wp2
      go_ret
      exact ⟨rfl, rfl⟩

theorem fitsU_calls (b x : Int) (hb : Sz b) (hx : U64 x) (w : World) : Calls Try.prog 33 #[.int .u64 x, .int .u64 b] w fun e w' => e = .returned (.bool (fitsU b x)) ∧ w = w' := by
  have h0 : 0 ≤ x := hx.1
  have e : fitsU b x = (x / M b == 0) := by
    unfold fitsU top U64 at *
    rw [Bool.eq_iff_iff, decide_eq_true_iff, beq_iff_eq]
    rcases hb with rfl | rfl | rfl | rfl
    · rw [M8]; omega
    · rw [M16]; omega
    · rw [M32]; omega
    · rw [M64]; omega
  rw [e]
  clear e hx
  rcases hb with rfl | rfl | rfl | rfl
  all_goals
    go_enter Try.func33, Try.ntmps33
    go_wp2
    go_ret
    exact ⟨rfl, rfl⟩

theorem fitsS_calls (b x : Int) (hb : Sz b) (hx : I64 x) (w : World) : Calls Try.prog 32 #[.int .i64 x, .int .u64 b] w fun e w' => e = .returned (.bool (fitsS b x)) ∧ w = w' := by
  rcases hb with rfl | rfl | rfl | rfl
  case inr.inr.inr =>
    have e : fitsS 64 x = true := decide_eq_true hx
    rw [e]
    clear e hx
    go_enter Try.func32, Try.ntmps32
    go_wp2
    go_ret
    exact ⟨rfl, rfl⟩
  case inl =>
    clear hx
    by_cases h : -128 ≤ x
    · have e : fitsS 8 x = decide (x ≤ 127) := by unfold fitsS least great; rw [M8, Bool.eq_iff_iff]; simp; omega
      rw [e]; clear e
      go_enter Try.func32, Try.ntmps32
      go_wp2
      go_ret
      exact ⟨rfl, rfl⟩
    · have e : fitsS 8 x = false := decide_eq_false (by unfold least; rw [M8]; omega)
      rw [e]; clear e
      go_enter Try.func32, Try.ntmps32
      go_wp2
      go_ret
      exact ⟨rfl, rfl⟩
  case inr.inl =>
    clear hx
    by_cases h : -32768 ≤ x
    · have e : fitsS 16 x = decide (x ≤ 32767) := by unfold fitsS least great; rw [M16, Bool.eq_iff_iff]; simp; omega
      rw [e]; clear e
      go_enter Try.func32, Try.ntmps32
      go_wp2
      go_ret
      exact ⟨rfl, rfl⟩
    · have e : fitsS 16 x = false := decide_eq_false (by unfold least; rw [M16]; omega)
      rw [e]; clear e
      go_enter Try.func32, Try.ntmps32
      go_wp2
      go_ret
      exact ⟨rfl, rfl⟩
  case inr.inr.inl =>
    clear hx
    by_cases h : -2147483648 ≤ x
    · have e : fitsS 32 x = decide (x ≤ 2147483647) := by unfold fitsS least great; rw [M32, Bool.eq_iff_iff]; simp; omega
      rw [e]; clear e
      go_enter Try.func32, Try.ntmps32
      go_wp2
      go_ret
      exact ⟨rfl, rfl⟩
    · have e : fitsS 32 x = false := decide_eq_false (by unfold least; rw [M32]; omega)
      rw [e]; clear e
      go_enter Try.func32, Try.ntmps32
      go_wp2
      go_ret
      exact ⟨rfl, rfl⟩

theorem cvU_8 (x : Int) : cvU 8 x = IntKind.u64.wrap (IntKind.i8.wrap x) := by
  unfold cvU sgn; rw [M8, IntKind.wrap_u64]; simp [IntKind.wrap, IntKind.bits, IntKind.signed]; split <;> omega
theorem cvU_16 (x : Int) : cvU 16 x = IntKind.u64.wrap (IntKind.i16.wrap x) := by
  unfold cvU sgn; rw [M16, IntKind.wrap_u64]; simp [IntKind.wrap, IntKind.bits, IntKind.signed]; split <;> omega
theorem cvU_32 (x : Int) : cvU 32 x = IntKind.u64.wrap (wrap32 x) := by
  unfold cvU sgn wrap32; rw [M32, IntKind.wrap_u64]; split <;> omega
theorem cvU_64 (x : Int) : cvU 64 x = IntKind.u64.wrap x := by
  unfold cvU sgn; rw [M64, IntKind.wrap_u64]; split <;> omega
theorem sgn_8 (x : Int) : sgn 8 x = wrap64 (IntKind.i8.wrap x) := by
  unfold sgn wrap64; rw [M8]; simp [IntKind.wrap, IntKind.bits, IntKind.signed]; split <;> omega
theorem sgn_16 (x : Int) : sgn 16 x = wrap64 (IntKind.i16.wrap x) := by
  unfold sgn wrap64; rw [M16]; simp [IntKind.wrap, IntKind.bits, IntKind.signed]; split <;> omega
theorem sgn_32 (x : Int) : sgn 32 x = wrap64 (wrap32 x) := by
  unfold sgn wrap64 wrap32; rw [M32]; split <;> omega

theorem cvU_calls (b x : Int) (hb : Sz b) (w : World) : Calls Try.prog 26 #[.int .i64 x, .int .u64 b] w fun e w' => e = .returned (.int .u64 (cvU b x)) ∧ w = w' := by
  rcases hb with rfl | rfl | rfl | rfl
  · rw [cvU_8]
    go_enter Try.func26, Try.ntmps26
    go_wp2
    go_ret
    exact ⟨rfl, rfl⟩
  · rw [cvU_16]
    go_enter Try.func26, Try.ntmps26
    go_wp2
    go_ret
    exact ⟨rfl, rfl⟩
  · rw [cvU_32]
    go_enter Try.func26, Try.ntmps26
    go_wp2
    go_ret
    exact ⟨rfl, rfl⟩
  · rw [cvU_64]
    go_enter Try.func26, Try.ntmps26
    go_wp2
    go_ret
    exact ⟨rfl, rfl⟩

theorem cvS_calls (b x : Int) (hb : Sz b) (w : World) : Calls Try.prog 27 #[.int .u64 x, .int .u64 b] w fun e w' => e = .returned (.int .i64 (sgn b x)) ∧ w = w' := by
  rcases hb with rfl | rfl | rfl | rfl
  · rw [sgn_8]
    go_enter Try.func27, Try.ntmps27
    go_wp2
    go_ret
    exact ⟨rfl, rfl⟩
  · rw [sgn_16]
    go_enter Try.func27, Try.ntmps27
    go_wp2
    go_ret
    exact ⟨rfl, rfl⟩
  · rw [sgn_32]
    go_enter Try.func27, Try.ntmps27
    go_wp2
    go_ret
    exact ⟨rfl, rfl⟩
  · rw [sgn_64]
    go_enter Try.func27, Try.ntmps27
    go_wp2
    go_ret
    exact ⟨rfl, rfl⟩

/-! the sums that tell whether they fit -/
def safe (b x y : Int) : Int := if fitsS b (x + y) then x + y else 0
def safeU (b x y : Int) : Int := if fitsU b (x + y) then x + y else 0

theorem fitsS_I64 {b x : Int} (hb : Sz b) (h : fitsS b x = true) : I64 x := by
  have := of_decide_eq_true h
  unfold least great at this; unfold I64
  rcases hb with rfl | rfl | rfl | rfl
  · rw [M8] at this; omega
  · rw [M16] at this; omega
  · rw [M32] at this; omega
  · rw [M64] at this; omega
theorem fitsU_U64 {b x : Int} (hb : Sz b) (h : fitsU b x = true) : U64 x := by
  have := of_decide_eq_true h
  unfold top at this; unfold U64
  rcases hb with rfl | rfl | rfl | rfl
  · rw [M8] at this; omega
  · rw [M16] at this; omega
  · rw [M32] at this; omega
  · rw [M64] at this; omega

theorem safe_calls (b x y : Int) (hb : Sz b) (hx : I64 x) (hy : I64 y) (w : World) :
    Calls Try.prog 29 #[.int .i64 x, .int .i64 y, .int .u64 b] w fun e w' => e = .returned (.tuple #[.int .i64 (safe b x y), .bool (fitsS b (x + y))]) ∧ w = w' := by
  by_cases hf : fitsS b (x + y) = true
  · -- the sum fits
    have hi := fitsS_I64 hb hf
    have e : safe b x y = x + y := if_pos hf
    have c := fitsS_calls b (x + y) hb hi
    rw [e, hf] at *
    unfold I64 at *
    obtain ⟨h1, h2⟩ := hx
    obtain ⟨h3, h4⟩ := hy
    obtain ⟨h5, h6⟩ := hi
    have C := hid c
    clear c e hf
    by_cases g1 : 0 ≤ x <;> by_cases g2 : 0 ≤ y
    all_goals
      go_enter Try.func29, Try.ntmps29
      go_wp2_with (go_at_call 32; refine (C.out _).mono ?_; rintro e w' ⟨rfl, rfl⟩)
      go_ret2
      exact ⟨rfl, rfl⟩
  · have hf' : fitsS b (x + y) = false := by simpa using hf
    have e : safe b x y = 0 := if_neg hf
    rw [e, hf']
    by_cases h64 : I64 (x + y)
    · -- it fits in 64 bits alone
      have c := fitsS_calls b (x + y) hb h64
      rw [hf'] at c
      unfold I64 at *
      obtain ⟨h1, h2⟩ := hx
      obtain ⟨h3, h4⟩ := hy
      obtain ⟨h5, h6⟩ := h64
      have C := hid c
      clear c e hf hf'
      by_cases g1 : 0 ≤ x <;> by_cases g2 : 0 ≤ y
      all_goals
        go_enter Try.func29, Try.ntmps29
        go_wp2_with (go_at_call 32; refine (C.out _).mono ?_; rintro e w' ⟨rfl, rfl⟩)
        go_ret2
        exact ⟨rfl, rfl⟩
    · -- it goes round
      clear e hf hf'
      unfold I64 at *
      obtain ⟨h1, h2⟩ := hx
      obtain ⟨h3, h4⟩ := hy
      by_cases g1 : 0 ≤ x
      · have g2 : 0 ≤ y := by omega
        have g3 : wrap64 (x + y) < 0 := by unfold wrap64; omega
        clear h64
        go_enter Try.func29, Try.ntmps29
        go_wp2_with fail
        go_ret2
        exact ⟨rfl, rfl⟩
      · have g2 : y < 0 := by omega
        have g3 : 0 ≤ wrap64 (x + y) := by unfold wrap64; omega
        clear h64
        go_enter Try.func29, Try.ntmps29
        go_wp2_with fail
        go_ret2
        exact ⟨rfl, rfl⟩

theorem safeU_calls (b x y : Int) (hb : Sz b) (hx : U64 x) (hy : U64 y) (w : World) :
    Calls Try.prog 30 #[.int .u64 x, .int .u64 y, .int .u64 b] w fun e w' => e = .returned (.tuple #[.int .u64 (safeU b x y), .bool (fitsU b (x + y))]) ∧ w = w' := by
  by_cases h64 : U64 (x + y)
  · have c := fitsU_calls b (x + y) hb h64
    have ew : IntKind.u64.wrap (x + y) = x + y := by unfold U64 at h64; rw [IntKind.wrap_u64]; omega
    have g1 : ¬ (x + y < x) := by unfold U64 at *; omega
    have g2 : ¬ (x + y < y) := by unfold U64 at *; omega
    clear hx hy h64
    have C := hid c
    clear c
    by_cases hf : fitsU b (x + y) = true
    · have e : safeU b x y = x + y := if_pos hf
      rw [e]
      rw [hf] at C ⊢
      clear e hf
      go_enter Try.func30, Try.ntmps30
      go_wp2_with (go_at_call 33; refine (C.out _).mono ?_; rintro e w' ⟨rfl, rfl⟩)
      go_ret2
      exact ⟨rfl, rfl⟩
    · have e : safeU b x y = 0 := if_neg hf
      have hf' : fitsU b (x + y) = false := by simpa using hf
      rw [e]
      rw [hf'] at C ⊢
      clear e hf hf'
      go_enter Try.func30, Try.ntmps30
      go_wp2_with (go_at_call 33; refine (C.out _).mono ?_; rintro e w' ⟨rfl, rfl⟩)
      go_ret2
      exact ⟨rfl, rfl⟩
  · have hf' : fitsU b (x + y) = false := by
      cases h : fitsU b (x + y) with
      | false => rfl
      | true => exact absurd (fitsU_U64 hb h) h64
    have e : safeU b x y = 0 := if_neg (by rw [hf']; decide)
    rw [e, hf']
    have g1 : IntKind.u64.wrap (x + y) < x := by unfold U64 at *; rw [IntKind.wrap_u64]; omega
    clear e hf' h64 hx hy
    go_enter Try.func30, Try.ntmps30
    go_wp2_with fail
    go_ret2
    exact ⟨rfl, rfl⟩

theorem bits_calls (n : Int) (w : World) : Calls Try.prog 6 #[.int .i64 n] w fun e w' => e = .returned (.int .u64 (bitsOf n)) ∧ w = w' := by
  have h1 : n.tmod 4 = n % 4 ∨ n.tmod 4 = n % 4 - 4 := by
    rw [Int.tmod_eq_emod]; split <;> omega
  obtain ⟨t, ht⟩ : ∃ t, n.tmod 4 = t := ⟨_, rfl⟩
  rw [ht] at h1
  have hb : -4 ≤ t ∧ t ≤ 4 := by omega
  have h2 : (n % 4 = 0 ∧ (t + 4) % 4 = 0) ∨ (n % 4 = 1 ∧ (t + 4) % 4 = 1) ∨ (n % 4 = 2 ∧ (t + 4) % 4 = 2) ∨ (n % 4 = 3 ∧ (t + 4) % 4 = 3) := by
    omega
  obtain ⟨hb1, hb2⟩ := hb
  clear h1
  rcases h2 with ⟨h3, h4⟩ | ⟨h3, h4⟩ | ⟨h3, h4⟩ | ⟨h3, h4⟩
  · have e : bitsOf n = 8 := if_pos h3
    rw [e]
    clear e h3
    go_enter Try.func6, Try.ntmps6
    go_wp2
    go_ret
    exact ⟨rfl, rfl⟩
  · have e : bitsOf n = 16 := by unfold bitsOf; rw [if_neg (by omega), if_pos h3]
    rw [e]
    clear e h3
    go_enter Try.func6, Try.ntmps6
    go_wp2
    go_ret
    exact ⟨rfl, rfl⟩
  · have e : bitsOf n = 32 := by unfold bitsOf; rw [if_neg (by omega), if_neg (by omega), if_pos h3]
    rw [e]
    clear e h3
    go_enter Try.func6, Try.ntmps6
    go_wp2
    go_ret
    exact ⟨rfl, rfl⟩
  · have e : bitsOf n = 64 := by unfold bitsOf; rw [if_neg (by omega), if_neg (by omega), if_neg (by omega)]
    rw [e]
    clear e h3
    go_enter Try.func6, Try.ntmps6
    go_wp2
    go_ret
    exact ⟨rfl, rfl⟩

theorem sumFitsU_calls (b x y : Int) (hb : Sz b) (hy : 0 ≤ y ∧ y ≤ top b) (w : World) :
    Calls Try.prog 13 #[.int .u64 x, .int .u64 y, .int .u64 b] w fun e w' => e = .returned (.bool (sumFitsU x y b)) ∧ w = w' := by
  unfold sumFitsU
  have c := top_calls b hb
  have hw : IntKind.u64.wrap (top b - y) = top b - y := by
    rw [IntKind.wrap_u64]; unfold top at *
    rcases hb with rfl | rfl | rfl | rfl
    · rw [M8] at *; omega
    · rw [M16] at *; omega
    · rw [M32] at *; omega
    · rw [M64] at *; omega
  have C := hid c
  clear c hy
  go_enter Try.func13, Try.ntmps13
  go_wp2_with (go_at_call 22; refine (C.out _).mono ?_; rintro e w' ⟨rfl, rfl⟩)
  go_ret
  exact ⟨rfl, rfl⟩

theorem sumFits_calls (b x y : Int) (hb : Sz b) (hy : least b ≤ y ∧ y ≤ great b) (w : World) :
    Calls Try.prog 12 #[.int .i64 x, .int .i64 y, .int .u64 b] w fun e w' => e = .returned (.bool (sumFits x y b)) ∧ w = w' := by
  have c := great_calls b hb
  have c2 := least_calls b hb
  have hg : -9223372036854775808 ≤ least b ∧ least b ≤ -128 ∧ great b ≤ 9223372036854775807 ∧ 127 ≤ great b ∧ least b = -great b - 1 := by
    unfold least great
    rcases hb with rfl | rfl | rfl | rfl
    · rw [M8]; omega
    · rw [M16]; omega
    · rw [M32]; omega
    · rw [M64]; omega
  unfold sumFits
  obtain ⟨h1, h2, h3, h4, h5⟩ := hg
  obtain ⟨h6, h7⟩ := hy
  have C := hid c
  have C2 := hid c2
  clear c c2
  by_cases h : 0 ≤ y
  · rw [if_pos h]
    have H5 := hid h5
    clear h5
    go_enter Try.func12, Try.ntmps12
    go_wp2_with (go_at_call 20; refine (C.out _).mono ?_; rintro e w' ⟨rfl, rfl⟩)
    go_ret
    exact ⟨rfl, rfl⟩
  · rw [if_neg h]
    have h8 : least b - y ≤ 0 := by omega
    have H5 := hid h5
    clear h5
    go_enter Try.func12, Try.ntmps12
    go_wp2_with (go_at_call 21; refine (C2.out _).mono ?_; rintro e w' ⟨rfl, rfl⟩)
    go_ret
    exact ⟨rfl, rfl⟩

end Go.Proofs.Ytobfdjgikpolkaa
