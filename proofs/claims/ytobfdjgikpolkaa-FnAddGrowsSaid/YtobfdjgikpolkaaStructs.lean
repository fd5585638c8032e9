/- Contracts of the functions that take or hand back a limit without adding: conversions, the limit of one value, fitting, meeting, lying inside.
   Conditions: each theorem's own (the size is one of the four; the arguments are numbers of their kinds). -/
import Derived.Test.YtobfdjgikpolkaaLeaves
import Derived.Deep.DeepCutAuto
import Derived.Deep.RegionHeld3
import Derived.StillTailTactics
import Derived.Deep.QuietTactic
import Derived.BigQuiet
namespace Go.Proofs.Ytobfdjgikpolkaa
open Go.RowKit
open Lib (hid)

/-! the functions that hand back a struct -/
theorem nl1 : wrap64 (-wrap64 9223372036854775808) = -9223372036854775808 := by unfold wrap64; omega
theorem nl2 : wrap64 (wrap64 9223372036854775808 - 1) = 9223372036854775807 := by unfold wrap64; omega
theorem nl3 : IntKind.u64.wrap (IntKind.u64.wrap 18446744073709551616 - 1) = 18446744073709551615 := by rw [IntKind.wrap_u64, IntKind.wrap_u64]; omega

/-- A limit's cells. -/
abbrev cells4 (a b c d : Int) : Array Value := #[.int .i64 a, .int .i64 b, .int .u64 c, .int .u64 d]

theorem noLimitFor_calls (w : World) : Calls Try.prog 31 #[.int .u64 64] w fun e w' =>
    e = .returned (.agg #[.int .i64 (-9223372036854775808), .int .i64 9223372036854775807, .int .u64 0, .int .u64 18446744073709551615]) ∧
      w' = w.alloc (.cells #[.int .i64 (-9223372036854775808), .int .i64 9223372036854775807, .int .u64 0, .int .u64 18446744073709551615] 46) := by
  go_enter Try.func31, Try.ntmps31
  go_wp2
  rw [nl1, nl2, nl3]
  exact bodyPost_ret (v := .agg #[.int .i64 (-9223372036854775808), .int .i64 9223372036854775807, .int .u64 0, .int .u64 18446744073709551615]) (by simp [results, Try.results31, go_sem]) rfl ⟨rfl, rfl⟩

theorem noLimit_calls (w : World) : Calls Try.prog 28 #[] w fun e w' =>
    e = .returned (.agg #[.int .i64 (-9223372036854775808), .int .i64 9223372036854775807, .int .u64 0, .int .u64 18446744073709551615]) ∧
      w' = (w.alloc (.cells #[.int .i64 (-9223372036854775808), .int .i64 9223372036854775807, .int .u64 0, .int .u64 18446744073709551615] 46)).alloc
        (.cells #[.int .i64 (-9223372036854775808), .int .i64 9223372036854775807, .int .u64 0, .int .u64 18446744073709551615] 46) := by
  go_enter Try.func28, Try.ntmps28
  go_wp2_with (go_at_call 31; refine (noLimitFor_calls _).mono ?_; rintro e w1 ⟨rfl, rfl⟩)
  exact bodyPost_ret (v := .agg #[.int .i64 (-9223372036854775808), .int .i64 9223372036854775807, .int .u64 0, .int .u64 18446744073709551615]) (by simp [results, Try.results28, go_sem]) rfl ⟨rfl, rfl⟩

theorem out_calls (a b c d : Int) (w : World) : Calls Try.prog 25 #[.agg #[.int .i64 a, .int .i64 b, .int .u64 c, .int .u64 d]] w fun e w' =>
    e = .returned (.agg #[.int .i64 a, .int .i64 b, .int .u64 c, .int .u64 d]) ∧ w' = (w.alloc (.cells #[.int .i64 a, .int .i64 b, .int .u64 c, .int .u64 d] 46)).alloc (.cells #[.int .i64 a, .int .i64 b, .int .u64 c, .int .u64 d] 40) := by
  go_enter Try.func25, Try.ntmps25
  go_wp2
  exact bodyPost_ret (v := .agg #[.int .i64 a, .int .i64 b, .int .u64 c, .int .u64 d]) (by simp [results, Try.results25, go_sem]) rfl ⟨rfl, rfl⟩

theorem in_calls (a b c d : Int) (w : World) : Calls Try.prog 23 #[.agg #[.int .i64 a, .int .i64 b, .int .u64 c, .int .u64 d]] w fun e w' =>
    e = .returned (.agg #[.int .i64 a, .int .i64 b, .int .u64 c, .int .u64 d]) ∧ w' = (w.alloc (.cells #[.int .i64 a, .int .i64 b, .int .u64 c, .int .u64 d] 40)).alloc (.cells #[.int .i64 a, .int .i64 b, .int .u64 c, .int .u64 d] 46) := by
  go_enter Try.func23, Try.ntmps23
  go_wp2
  exact bodyPost_ret (v := .agg #[.int .i64 a, .int .i64 b, .int .u64 c, .int .u64 d]) (by simp [results, Try.results23, go_sem]) rfl ⟨rfl, rfl⟩

theorem iout_calls (a b c d : Int) (w : World) : Calls Try.prog 17 #[.agg #[.int .i64 a, .int .i64 b, .int .u64 c, .int .u64 d]] w fun e w' =>
    e = .returned (.agg #[.int .i64 a, .int .i64 b, .int .u64 c, .int .u64 d]) ∧ w' = (w.alloc (.cells #[.int .i64 a, .int .i64 b, .int .u64 c, .int .u64 d] 40)).alloc (.cells #[.int .i64 a, .int .i64 b, .int .u64 c, .int .u64 d] 24) := by
  go_enter Try.func17, Try.ntmps17
  go_wp2
  exact bodyPost_ret (v := .agg #[.int .i64 a, .int .i64 b, .int .u64 c, .int .u64 d]) (by simp [results, Try.results17, go_sem]) rfl ⟨rfl, rfl⟩

theorem iin_calls (a b c d : Int) (w : World) : Calls Try.prog 18 #[.agg #[.int .i64 a, .int .i64 b, .int .u64 c, .int .u64 d]] w fun e w' =>
    e = .returned (.agg #[.int .i64 a, .int .i64 b, .int .u64 c, .int .u64 d]) ∧ w' = (w.alloc (.cells #[.int .i64 a, .int .i64 b, .int .u64 c, .int .u64 d] 24)).alloc (.cells #[.int .i64 a, .int .i64 b, .int .u64 c, .int .u64 d] 40) := by
  go_enter Try.func18, Try.ntmps18
  go_wp2
  exact bodyPost_ret (v := .agg #[.int .i64 a, .int .i64 b, .int .u64 c, .int .u64 d]) (by simp [results, Try.results18, go_sem]) rfl ⟨rfl, rfl⟩

theorem one_calls (b x : Int) (hb : Sz b) (hx : U64 x) (w : World) : Calls Try.prog 16 #[.int .u64 x, .int .u64 b] w fun e w' =>
    e = .returned (.agg #[.int .i64 (sgn b x), .int .i64 (sgn b x), .int .u64 (uns b x), .int .u64 (uns b x)]) ∧
      w' = w.alloc (.cells #[.int .i64 (sgn b x), .int .i64 (sgn b x), .int .u64 (uns b x), .int .u64 (uns b x)] 24) := by
  have C1 := hid (sgn_calls b x hb hx)
  have C2 := hid (uns_calls b x hb hx)
  clear hb hx
  go_enter Try.func16, Try.ntmps16
  go_wp2_with (first | (go_at_call 14; refine (C1.out _).mono ?_; rintro e w1 ⟨rfl, rfl⟩) | (go_at_call 15; refine (C2.out _).mono ?_; rintro e w1 ⟨rfl, rfl⟩))
  exact bodyPost_ret (v := .agg #[.int .i64 (sgn b x), .int .i64 (sgn b x), .int .u64 (uns b x), .int .u64 (uns b x)]) (by simp [results, Try.results16, go_sem]) rfl ⟨rfl, rfl⟩

theorem sgn_wrap {b : Int} (hb : Sz b) (x : Int) : sgn b (IntKind.u64.wrap x) = sgn b x := by
  rw [IntKind.wrap_u64]
  unfold sgn
  rcases hb with rfl | rfl | rfl | rfl
  · rw [M8, Int.emod_emod_of_dvd _ (by decide)]
  · rw [M16, Int.emod_emod_of_dvd _ (by decide)]
  · rw [M32, Int.emod_emod_of_dvd _ (by decide)]
  · rw [M64, Int.emod_emod_of_dvd _ (by decide)]
theorem wrap_U64 (x : Int) : U64 (IntKind.u64.wrap x) := by
  rw [IntKind.wrap_u64]; unfold U64; omega

theorem fit_calls (b p q r s : Int) (hb : Sz b) (hr : U64 r) (hs : U64 s) (w : World) : Calls Try.prog 7 #[.agg #[.int .i64 p, .int .i64 q, .int .u64 r, .int .u64 s], .int .u64 b] w fun e w' =>
    e = .returned (.agg #[.int .i64 (sgn b p), .int .i64 (sgn b q), .int .u64 (uns b r), .int .u64 (uns b s)]) ∧
      w' = ((w.alloc (.cells #[.int .i64 p, .int .i64 q, .int .u64 r, .int .u64 s] 24)).alloc (.cells #[.int .i64 (sgn b p), .int .i64 (sgn b q), .int .u64 (uns b r), .int .u64 (uns b s)] 24)).drew := by
  have c1 := sgn_calls b (IntKind.u64.wrap p) hb (wrap_U64 p)
  have c2 := sgn_calls b (IntKind.u64.wrap q) hb (wrap_U64 q)
  rw [sgn_wrap hb] at c1 c2
  have C1 := hid c1
  have C2 := hid c2
  have C3 := hid (uns_calls b r hb hr)
  have C4 := hid (uns_calls b s hb hs)
  clear c1 c2 hb hr hs
  go_enter Try.func7, Try.ntmps7
  go_wp2_with fail
  go_region_held3 (fun w' => w'.cell? ⟨w.heap.size, 0, none⟩ = some (.int .i64 p) ∧ w'.cell? ⟨w.heap.size, 1, none⟩ = some (.int .i64 q) ∧ w'.cell? ⟨w.heap.size, 2, none⟩ = some (.int .u64 r) ∧ w'.cell? ⟨w.heap.size, 3, none⟩ = some (.int .u64 s)) (go_keep)
    (first
      | (go_at_call_of 14 (Value.int IntKind.u64 (IntKind.u64.wrap p)); refine (C1.out _).mono ?_; rintro e w1 ⟨rfl, rfl⟩)
      | (go_at_call_of 14 (Value.int IntKind.u64 (IntKind.u64.wrap q)); refine (C2.out _).mono ?_; rintro e w1 ⟨rfl, rfl⟩)
      | (go_at_call_of 15 (Value.int IntKind.u64 r); refine (C3.out _).mono ?_; rintro e w1 ⟨rfl, rfl⟩)
      | (go_at_call_of 15 (Value.int IntKind.u64 s); refine (C4.out _).mono ?_; rintro e w1 ⟨rfl, rfl⟩))
  go_wp2
  exact bodyPost_ret (v := .agg #[.int .i64 (sgn b p), .int .i64 (sgn b q), .int .u64 (uns b r), .int .u64 (uns b s)]) (by simp [results, Try.results7, go_sem]) rfl ⟨rfl, rfl⟩

theorem meets_calls (b x p q r s : Int) (hb : Sz b) (hx : U64 x) (w : World) : Calls Try.prog 8 #[.agg #[.int .i64 p, .int .i64 q, .int .u64 r, .int .u64 s], .int .u64 x, .int .u64 b] w fun e w' =>
    e = .returned (.bool (meets ⟨p, q, r, s⟩ x b)) ∧ w' = w.alloc (.cells #[.int .i64 p, .int .i64 q, .int .u64 r, .int .u64 s] 24) := by
  have C1 := hid (sgn_calls b x hb hx)
  have C2 := hid (uns_calls b x hb hx)
  clear hb hx
  have e : meets ⟨p, q, r, s⟩ x b = (decide (p ≤ sgn b x) && decide (sgn b x ≤ q) && decide (r ≤ uns b x) && decide (uns b x ≤ s)) := by
    unfold meets; rw [Bool.eq_iff_iff]; simp [and_assoc]
  obtain ⟨S, hS⟩ : ∃ S, sgn b x = S := ⟨_, rfl⟩
  obtain ⟨U, hU⟩ : ∃ U, uns b x = U := ⟨_, rfl⟩
  rw [e]
  simp only [hS, hU] at *
  clear e hS hU
  by_cases h1 : p ≤ S
  · by_cases h2 : S ≤ q
    · by_cases h3 : r ≤ U
      · have e1 : (decide (p ≤ S) && decide (S ≤ q) && decide (r ≤ U) && decide (U ≤ s)) = decide (U ≤ s) := by simp [h1, h2, h3]
        rw [e1]; clear e1
        go_enter Try.func8, Try.ntmps8
        go_wp2_with (first | (go_at_call 14; refine (C1.out _).mono ?_; rintro e w1 ⟨rfl, rfl⟩) | (go_at_call 15; refine (C2.out _).mono ?_; rintro e w1 ⟨rfl, rfl⟩))
        go_ret
        exact ⟨rfl, rfl⟩
      · have e1 : (decide (p ≤ S) && decide (S ≤ q) && decide (r ≤ U) && decide (U ≤ s)) = false := by simp [h3]
        rw [e1]; clear e1
        go_enter Try.func8, Try.ntmps8
        go_wp2_with (first | (go_at_call 14; refine (C1.out _).mono ?_; rintro e w1 ⟨rfl, rfl⟩) | (go_at_call 15; refine (C2.out _).mono ?_; rintro e w1 ⟨rfl, rfl⟩))
        go_ret
        exact ⟨rfl, rfl⟩
    · have e1 : (decide (p ≤ S) && decide (S ≤ q) && decide (r ≤ U) && decide (U ≤ s)) = false := by simp [h2]
      rw [e1]; clear e1
      go_enter Try.func8, Try.ntmps8
      go_wp2_with (first | (go_at_call 14; refine (C1.out _).mono ?_; rintro e w1 ⟨rfl, rfl⟩) | (go_at_call 15; refine (C2.out _).mono ?_; rintro e w1 ⟨rfl, rfl⟩))
      go_ret
      exact ⟨rfl, rfl⟩
  · have e1 : (decide (p ≤ S) && decide (S ≤ q) && decide (r ≤ U) && decide (U ≤ s)) = false := by simp [h1]
    rw [e1]; clear e1
    go_enter Try.func8, Try.ntmps8
    go_wp2_with (first | (go_at_call 14; refine (C1.out _).mono ?_; rintro e w1 ⟨rfl, rfl⟩) | (go_at_call 15; refine (C2.out _).mono ?_; rintro e w1 ⟨rfl, rfl⟩))
    go_ret
    exact ⟨rfl, rfl⟩

theorem inside_calls (p q r s p' q' r' s' : Int) (w : World) :
    Calls Try.prog 9 #[.agg #[.int .i64 p, .int .i64 q, .int .u64 r, .int .u64 s], .agg #[.int .i64 p', .int .i64 q', .int .u64 r', .int .u64 s']] w fun e w' =>
    e = .returned (.bool (inside ⟨p, q, r, s⟩ ⟨p', q', r', s'⟩)) ∧
      w' = (w.alloc (.cells #[.int .i64 p, .int .i64 q, .int .u64 r, .int .u64 s] 24)).alloc (.cells #[.int .i64 p', .int .i64 q', .int .u64 r', .int .u64 s'] 24) := by
  have e : inside ⟨p, q, r, s⟩ ⟨p', q', r', s'⟩ = (decide (p' ≤ p) && decide (q ≤ q') && decide (r' ≤ r) && decide (s ≤ s')) := by
    unfold inside; rw [Bool.eq_iff_iff]; simp [and_assoc]
  rw [e]
  clear e
  by_cases h1 : p' ≤ p
  · by_cases h2 : q ≤ q'
    · by_cases h3 : r' ≤ r
      · have e1 : (decide (p' ≤ p) && decide (q ≤ q') && decide (r' ≤ r) && decide (s ≤ s')) = decide (s ≤ s') := by simp [h1, h2, h3]
        rw [e1]; clear e1
        go_enter Try.func9, Try.ntmps9
        go_wp2
        go_ret
        exact ⟨rfl, rfl⟩
      · have e1 : (decide (p' ≤ p) && decide (q ≤ q') && decide (r' ≤ r) && decide (s ≤ s')) = false := by simp [h3]
        rw [e1]; clear e1
        go_enter Try.func9, Try.ntmps9
        go_wp2
        go_ret
        exact ⟨rfl, rfl⟩
    · have e1 : (decide (p' ≤ p) && decide (q ≤ q') && decide (r' ≤ r) && decide (s ≤ s')) = false := by simp [h2]
      rw [e1]; clear e1
      go_enter Try.func9, Try.ntmps9
      go_wp2
      go_ret
      exact ⟨rfl, rfl⟩
  · have e1 : (decide (p' ≤ p) && decide (q ≤ q') && decide (r' ≤ r) && decide (s ≤ s')) = false := by simp [h1]
    rw [e1]; clear e1
    go_enter Try.func9, Try.ntmps9
    go_wp2
    go_ret
    exact ⟨rfl, rfl⟩

end Go.Proofs.Ytobfdjgikpolkaa
