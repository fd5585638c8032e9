/- The limit of a sum where not both limits are of one value: the program's add returns the limit that the plain function addL names.
   Conditions: the size is one of the four, the bounds are numbers of their kinds. -/
import Derived.Test.YtobfdjgikpolkaaStructs
namespace Go.Proofs.Ytobfdjgikpolkaa
open Go.RowKit
open Lib (hid)

/-! the sum of two limits: the way on which not both are constants -/
theorem isC_a {p q r s : Int} (h : (p == q) = true) : isC ⟨p, q, r, s⟩ = true := decide_eq_true (Or.inl (by simpa using h))
theorem isC_b {p q r s : Int} (h : (r == s) = true) : isC ⟨p, q, r, s⟩ = true := decide_eq_true (Or.inr (by simpa using h))
theorem isC_n {p q r s : Int} (h : (p == q) = false) (h' : (r == s) = false) : isC ⟨p, q, r, s⟩ = false := decide_eq_false (by simp at h h'; simp [h, h'])

theorem addL_bounds {b p q r s p' q' r' s' : Int} (hc : (isC ⟨p, q, r, s⟩ && isC ⟨p', q', r', s'⟩) = false) : addL b ⟨p, q, r, s⟩ ⟨p', q', r', s'⟩ =
    ⟨if fitsS b (p + p') && fitsS b (q + q') then p + p' else -9223372036854775808, if fitsS b (p + p') && fitsS b (q + q') then q + q' else 9223372036854775807,
     if fitsU b (r + r') && fitsU b (s + s') then r + r' else 0, if fitsU b (r + r') && fitsU b (s + s') then s + s' else 18446744073709551615⟩ := by
  unfold addL
  rw [if_neg (by rw [hc]; decide)]

abbrev NL : Obj := .cells #[.int .i64 (-9223372036854775808), .int .i64 9223372036854775807, .int .u64 0, .int .u64 18446744073709551615] 46

set_option maxRecDepth 100000 in
set_option maxHeartbeats 1600000 in
theorem add_bounds (b p q r s p' q' r' s' : Int) (hb : Sz b) (h1 : I64 p) (h2 : I64 q) (h3 : U64 r) (h4 : U64 s) (h1' : I64 p') (h2' : I64 q') (h3' : U64 r') (h4' : U64 s')
    (hc : (isC ⟨p, q, r, s⟩ && isC ⟨p', q', r', s'⟩) = false) (L : Lim) (hL : addL b ⟨p, q, r, s⟩ ⟨p', q', r', s'⟩ = L) (w : World) :
    Calls Try.prog 24 #[.agg #[.int .i64 p, .int .i64 q, .int .u64 r, .int .u64 s], .agg #[.int .i64 p', .int .i64 q', .int .u64 r', .int .u64 s'], .int .u64 b] w fun e w' =>
      e = .returned (.agg #[.int .i64 L.mn, .int .i64 L.mx, .int .u64 L.um, .int .u64 L.ux]) ∧ Below w.heap.size w w' := by
  have HL := hid (addL_bounds hc ▸ hL)
  clear hL
  have D1 := hid (cvU_calls b p hb)
  have D2 := hid (cvU_calls b p' hb)
  have S1 := hid (safe_calls b p p' hb h1 h1')
  have S2 := hid (safe_calls b q q' hb h2 h2')
  have S3 := hid (safeU_calls b r r' hb h3 h3')
  have S4 := hid (safeU_calls b s s' hb h4 h4')
  have HC := hid hc
  clear hc h1 h2 h3 h4 h1' h2' h3' h4' hb
  go_enter Try.func24, Try.ntmps24
  go_upto_if 26 with fail
  go_cut [7, 9] (fun s7 s9 wx => (∃ c k, s7 = .bool k ∧ isC ⟨p, q, r, s⟩ = k ∧ s9 = .int .u64 c) ∧ wx = (((w.alloc (.cells #[.int .i64 p, .int .i64 q, .int .u64 r, .int .u64 s] 46)).alloc (.cells #[.int .i64 p', .int .i64 q', .int .u64 r', .int .u64 s'] 46)).alloc (.cells #[.int .i64 0, .int .i64 0, .int .u64 0, .int .u64 0] 46)))
  case first =>
    go_wp2_with (go_at_call 26; refine (D1.out _).mono ?_; rintro e w1 ⟨rfl, rfl⟩)
    · go_meet
      exact ⟨⟨_, _, rfl, isC_a (by assumption), rfl⟩, rfl⟩
    · go_meet
      exact ⟨⟨_, _, rfl, isC_b (by assumption), rfl⟩, rfl⟩
    · go_meet
      exact ⟨⟨_, _, rfl, isC_n (by assumption) (by assumption), rfl⟩, rfl⟩
  case rest =>
    obtain ⟨⟨c, k, rfl, hk, rfl⟩, rfl⟩ := hcut
    have HK := hid hk
    clear hk
    go_upto_if 42 with fail
    go_cut [8, 10] (fun s8 s10 wx => (∃ c k, s8 = .bool k ∧ isC ⟨p', q', r', s'⟩ = k ∧ s10 = .int .u64 c) ∧ wx = (((w.alloc (.cells #[.int .i64 p, .int .i64 q, .int .u64 r, .int .u64 s] 46)).alloc (.cells #[.int .i64 p', .int .i64 q', .int .u64 r', .int .u64 s'] 46)).alloc (.cells #[.int .i64 0, .int .i64 0, .int .u64 0, .int .u64 0] 46)))
    case first =>
      go_wp2_with (go_at_call 26; refine (D2.out _).mono ?_; rintro e w1 ⟨rfl, rfl⟩)
      · go_meet
        exact ⟨⟨_, _, rfl, isC_a (by assumption), rfl⟩, rfl⟩
      · go_meet
        exact ⟨⟨_, _, rfl, isC_b (by assumption), rfl⟩, rfl⟩
      · go_meet
        exact ⟨⟨_, _, rfl, isC_n (by assumption) (by assumption), rfl⟩, rfl⟩
    case rest =>
      obtain ⟨⟨c', k', rfl, hk', rfl⟩, rfl⟩ := hcut
      have hkk : (k && k') = false := by rw [← HK.out, ← hk']; exact HC.out
      clear hk' HK HC
      have HKK := hid hkk
      clear hkk
      go_upto_region 15 with fail
      go_cut [57] (fun s57 wx => s57 = .bool false ∧ wx = (((w.alloc (.cells #[.int .i64 p, .int .i64 q, .int .u64 r, .int .u64 s] 46)).alloc (.cells #[.int .i64 p', .int .i64 q', .int .u64 r', .int .u64 s'] 46)).alloc (.cells #[.int .i64 0, .int .i64 0, .int .u64 0, .int .u64 0] 46)))
      case first =>
        have hkk := HKK.out
        clear HKK
        cases k <;> cases k' <;> first | (simp at hkk; done) | (clear hkk; go_wp2_with fail; go_meet; exact ⟨rfl, rfl⟩)
      case rest =>
        obtain ⟨rfl, rfl⟩ := hcut
        go_upto_region 23 with (first
          | (go_at_call 28; refine (noLimit_calls _).mono ?_; rintro e w1 ⟨rfl, rfl⟩)
          | (go_at_call_of 29 (Value.int IntKind.i64 p); refine (S1.out _).mono ?_; rintro e w1 ⟨rfl, rfl⟩)
          | (go_at_call_of 29 (Value.int IntKind.i64 q); refine (S2.out _).mono ?_; rintro e w1 ⟨rfl, rfl⟩))
        obtain ⟨f1, hf1⟩ : ∃ f, fitsS b (p + p') = f := ⟨_, rfl⟩
        obtain ⟨f2, hf2⟩ : ∃ f, fitsS b (q + q') = f := ⟨_, rfl⟩
        have e1 : safe b p p' = if f1 then p + p' else 0 := by rw [← hf1]; rfl
        have e2 : safe b q q' = if f2 then q + q' else 0 := by rw [← hf2]; rfl
        rw [hf1, hf2, e1, e2]
        have F1 := hid hf1
        have F2 := hid hf2
        clear hf1 hf2 e1 e2
        go_cut [96] (fun s96 wx => s96 = .bool (f1 && f2) ∧ wx = ((((((w.alloc (.cells #[.int .i64 p, .int .i64 q, .int .u64 r, .int .u64 s] 46)).alloc (.cells #[.int .i64 p', .int .i64 q', .int .u64 r', .int .u64 s'] 46)).alloc (.cells #[.int .i64 0, .int .i64 0, .int .u64 0, .int .u64 0] 46)).alloc NL).alloc NL).alloc NL))
        case first =>
          cases f1 <;> cases f2 <;> (go_wp2_with fail; go_meet; exact ⟨rfl, rfl⟩)
        case rest =>
          obtain ⟨rfl, rfl⟩ := hcut
          go_upto_if 96 with fail
          go_cut [] (fun wx => wx = ((((((w.alloc (.cells #[.int .i64 p, .int .i64 q, .int .u64 r, .int .u64 s] 46)).alloc (.cells #[.int .i64 p', .int .i64 q', .int .u64 r', .int .u64 s'] 46)).alloc (.cells #[.int .i64 0, .int .i64 0, .int .u64 0, .int .u64 0] 46)).alloc NL).alloc NL).alloc
            (.cells #[.int .i64 (if f1 && f2 then p + p' else -9223372036854775808), .int .i64 (if f1 && f2 then q + q' else 9223372036854775807), .int .u64 0, .int .u64 18446744073709551615] 46)))
          case first =>
            cases f1 <;> cases f2 <;> (go_wp2_with fail; go_meet; rfl)
          case rest =>
            subst hcut
            obtain ⟨A, hA⟩ : ∃ A, (if f1 && f2 then p + p' else -9223372036854775808) = A := ⟨_, rfl⟩
            obtain ⟨B, hB⟩ : ∃ B, (if f1 && f2 then q + q' else 9223372036854775807) = B := ⟨_, rfl⟩
            rw [hA, hB]
            have hL := HL.out
            rw [F1.out, F2.out, hA, hB] at hL
            have HL2 := hid hL
            clear hA hB F1 F2 HL hL
            generalize (if f1 = true then p + p' else 0) = z1
            generalize (if f2 = true then q + q' else 0) = z2
            go_upto_region 28 with (first
              | (go_at_call_of 30 (Value.int IntKind.u64 r); refine (S3.out _).mono ?_; rintro e w1 ⟨rfl, rfl⟩)
              | (go_at_call_of 30 (Value.int IntKind.u64 s); refine (S4.out _).mono ?_; rintro e w1 ⟨rfl, rfl⟩))
            obtain ⟨g1, hg1⟩ : ∃ f, fitsU b (r + r') = f := ⟨_, rfl⟩
            obtain ⟨g2, hg2⟩ : ∃ f, fitsU b (s + s') = f := ⟨_, rfl⟩
            have e1 : safeU b r r' = if g1 then r + r' else 0 := by rw [← hg1]; rfl
            have e2 : safeU b s s' = if g2 then s + s' else 0 := by rw [← hg2]; rfl
            have hL := HL2.out
            rw [hg1, hg2] at hL
            rw [hg1, hg2, e1, e2]
            subst hL
            clear hg1 hg2 e1 e2 HL2
            cases g1 <;> cases g2
            all_goals
              go_wp2_with fail
              exact bodyPost_ret (v := .agg #[.int .i64 A, .int .i64 B, .int .u64 _, .int .u64 _]) (by simp [results, Try.results24, go_sem]) rfl ⟨rfl, ((((((Below.refl _ _).alloc (Nat.le_refl _) _).alloc (by simp) _).alloc (by simp; omega) _).alloc (by simp; omega) _).alloc (by simp; omega) _).alloc (by simp; omega) _⟩

end Go.Proofs.Ytobfdjgikpolkaa
