/- The limit of a sum where both limits are of one value: the program's add returns the limit that the plain function addL names.
   Conditions: the size is one of the four. -/
import Derived.Test.YtobfdjgikpolkaaStructs
import Derived.Laws.Bits64b
namespace Go.Proofs.Ytobfdjgikpolkaa
open Go.RowKit
open Lib (hid)

/-! the sum of two limits: the way on which both are constants -/
theorem valC_a {b p q r s : Int} (h : (p == q) = true) : cvU b p = valC b ⟨p, q, r, s⟩ := (if_pos (by simpa using h)).symm
theorem valC_b {b p q r s : Int} (h : (p == q) = false) (h' : (r == s) = true) : r = valC b ⟨p, q, r, s⟩ := by
  have e : valC b ⟨p, q, r, s⟩ = r := by
    unfold valC
    rw [if_neg (by simpa using h), if_pos (by simpa using h')]
  exact e.symm
theorem isC_no {p q r s : Int} (h : (p == q) = false) (h' : (r == s) = false) (hc : isC ⟨p, q, r, s⟩ = true) : False := by
  have h1 : p = q ∨ r = s := of_decide_eq_true hc
  rcases h1 with rfl | rfl
  · simp at h
  · simp at h'

theorem and_top {b : Int} (hb : Sz b) (x : Int) : bits .and .u64 (IntKind.u64.wrap x) (M b - 1) = x % M b := by
  rw [IntKind.wrap_u64]
  obtain ⟨n, hn⟩ : ∃ n : Nat, x % 18446744073709551616 = n := ⟨(x % 18446744073709551616).toNat, by omega⟩
  have hlt : n < 18446744073709551616 := by omega
  rw [hn]
  have key : ∀ k : Nat, k ≤ 64 → bits .and .u64 (n : Int) (((2 ^ k - 1 : Nat) : Int)) = ((n % 2 ^ k : Nat) : Int) := by
    intro k hk
    have h2 : (2 : Nat) ^ k ≤ 2 ^ 64 := Nat.pow_le_pow_right (by decide) hk
    rw [bits_and_u64_nat n (2 ^ k - 1) hlt (by omega), Nat.and_two_pow_sub_one_eq_mod]
  rcases hb with rfl | rfl | rfl | rfl
  · rw [M8]
    refine (key 8 (by decide)).trans ?_
    omega
  · rw [M16]
    refine (key 16 (by decide)).trans ?_
    omega
  · rw [M32]
    refine (key 32 (by decide)).trans ?_
    omega
  · rw [M64]
    refine (key 64 (by decide)).trans ?_
    omega

theorem addL_consts {b p q r s p' q' r' s' c c' : Int} (hc : isC ⟨p, q, r, s⟩ = true) (hc' : isC ⟨p', q', r', s'⟩ = true) (h : c = valC b ⟨p, q, r, s⟩) (h' : c' = valC b ⟨p', q', r', s'⟩) :
    addL b ⟨p, q, r, s⟩ ⟨p', q', r', s'⟩ = ⟨sgn b ((c + c') % M b), sgn b ((c + c') % M b), (c + c') % M b, (c + c') % M b⟩ := by
  unfold addL
  rw [if_pos (by rw [hc, hc']; rfl), ← h, ← h']

set_option maxRecDepth 100000 in
set_option maxHeartbeats 1600000 in
theorem add_consts (b p q r s p' q' r' s' : Int) (hb : Sz b)
    (hc : isC ⟨p, q, r, s⟩ = true) (hc' : isC ⟨p', q', r', s'⟩ = true) (L : Lim) (hL : addL b ⟨p, q, r, s⟩ ⟨p', q', r', s'⟩ = L) (w : World) :
    Calls Try.prog 24 #[.agg #[.int .i64 p, .int .i64 q, .int .u64 r, .int .u64 s], .agg #[.int .i64 p', .int .i64 q', .int .u64 r', .int .u64 s'], .int .u64 b] w fun e w' =>
      e = .returned (.agg #[.int .i64 L.mn, .int .i64 L.mx, .int .u64 L.um, .int .u64 L.ux]) ∧ Below w.heap.size w w' := by
  have D1 := hid (cvU_calls b p hb)
  have D2 := hid (cvU_calls b p' hb)
  have HL := hid hL
  have HC := hid hc
  have HC' := hid hc'
  have HB := hid hb
  clear hc hc' hL hb
  go_enter Try.func24, Try.ntmps24
  go_upto_if 26 with fail
  go_cut [7, 9] (fun s7 s9 wx => (∃ c, s7 = .bool true ∧ s9 = .int .u64 c ∧ c = valC b ⟨p, q, r, s⟩) ∧ wx = (((w.alloc (.cells #[.int .i64 p, .int .i64 q, .int .u64 r, .int .u64 s] 46)).alloc (.cells #[.int .i64 p', .int .i64 q', .int .u64 r', .int .u64 s'] 46)).alloc (.cells #[.int .i64 0, .int .i64 0, .int .u64 0, .int .u64 0] 46)))
  case first =>
    go_wp2_with (go_at_call 26; refine (D1.out _).mono ?_; rintro e w1 ⟨rfl, rfl⟩)
    · go_meet
      exact ⟨⟨_, rfl, rfl, valC_a (by assumption)⟩, rfl⟩
    · go_meet
      exact ⟨⟨_, rfl, rfl, valC_b (by assumption) (by assumption)⟩, rfl⟩
    · exact (isC_no (by assumption) (by assumption) HC.out).elim
  case rest =>
    obtain ⟨⟨c, rfl, rfl, hc⟩, rfl⟩ := hcut
    have HK := hid hc
    clear hc
    go_upto_if 42 with fail
    go_cut [8, 10] (fun s8 s10 wx => (∃ c, s8 = .bool true ∧ s10 = .int .u64 c ∧ c = valC b ⟨p', q', r', s'⟩) ∧ wx = (((w.alloc (.cells #[.int .i64 p, .int .i64 q, .int .u64 r, .int .u64 s] 46)).alloc (.cells #[.int .i64 p', .int .i64 q', .int .u64 r', .int .u64 s'] 46)).alloc (.cells #[.int .i64 0, .int .i64 0, .int .u64 0, .int .u64 0] 46)))
    case first =>
      go_wp2_with (go_at_call 26; refine (D2.out _).mono ?_; rintro e w1 ⟨rfl, rfl⟩)
      · go_meet
        exact ⟨⟨_, rfl, rfl, valC_a (by assumption)⟩, rfl⟩
      · go_meet
        exact ⟨⟨_, rfl, rfl, valC_b (by assumption) (by assumption)⟩, rfl⟩
      · exact (isC_no (by assumption) (by assumption) HC'.out).elim
    case rest =>
      obtain ⟨⟨c', rfl, rfl, hc'⟩, rfl⟩ := hcut
      have hL := HL.out
      rw [addL_consts HC.out HC'.out HK.out hc'] at hL
      subst hL
      clear HK hc' HL HC HC'
      have hb := HB.out
      have ha := and_top hb (c + c')
      have C := hid (cvS_calls b ((c + c') % M b) hb)
      clear HB
      rcases hb with rfl | rfl | rfl | rfl
      · have HA := hid (show bits BinOp.and IntKind.u64 (IntKind.u64.wrap (c + c')) 255 = (c + c') % M 8 from ha)
        clear ha
        go_wp2_with (go_at_call 27; rw [HA.out]; refine (C.out _).mono ?_; rintro e w1 ⟨rfl, rfl⟩)
        exact bodyPost_ret (v := .agg #[.int .i64 _, .int .i64 _, .int .u64 _, .int .u64 _]) (by simp [results, Try.results24, go_sem]) rfl ⟨rfl, (((Below.refl _ _).alloc (Nat.le_refl _) _).alloc (by simp) _).alloc (by simp; omega) _⟩
      · have HA := hid (show bits BinOp.and IntKind.u64 (IntKind.u64.wrap (c + c')) 65535 = (c + c') % M 16 from ha)
        clear ha
        go_wp2_with (go_at_call 27; rw [HA.out]; refine (C.out _).mono ?_; rintro e w1 ⟨rfl, rfl⟩)
        exact bodyPost_ret (v := .agg #[.int .i64 _, .int .i64 _, .int .u64 _, .int .u64 _]) (by simp [results, Try.results24, go_sem]) rfl ⟨rfl, (((Below.refl _ _).alloc (Nat.le_refl _) _).alloc (by simp) _).alloc (by simp; omega) _⟩
      · have HA := hid (show bits BinOp.and IntKind.u64 (IntKind.u64.wrap (c + c')) 4294967295 = (c + c') % M 32 from ha)
        clear ha
        go_wp2_with (go_at_call 27; rw [HA.out]; refine (C.out _).mono ?_; rintro e w1 ⟨rfl, rfl⟩)
        exact bodyPost_ret (v := .agg #[.int .i64 _, .int .i64 _, .int .u64 _, .int .u64 _]) (by simp [results, Try.results24, go_sem]) rfl ⟨rfl, (((Below.refl _ _).alloc (Nat.le_refl _) _).alloc (by simp) _).alloc (by simp; omega) _⟩
      · have HA := hid (show bits BinOp.and IntKind.u64 (IntKind.u64.wrap (c + c')) (IntKind.u64.wrap (IntKind.u64.wrap 18446744073709551616 - 1)) = (c + c') % M 64 from by rw [nl3]; exact ha)
        clear ha
        go_wp2_with (go_at_call 27; rw [HA.out]; refine (C.out _).mono ?_; rintro e w1 ⟨rfl, rfl⟩)
        exact bodyPost_ret (v := .agg #[.int .i64 _, .int .i64 _, .int .u64 _, .int .u64 _]) (by simp [results, Try.results24, go_sem]) rfl ⟨rfl, (((Below.refl _ _).alloc (Nat.le_refl _) _).alloc (by simp) _).alloc (by simp; omega) _⟩

end Go.Proofs.Ytobfdjgikpolkaa
