/- The walk of the law FnAddTightUnsigned: it returns true and changes nothing that was there.
   Conditions: the arguments are numbers of their kinds. -/
import Derived.Test.YtobfdjgikpolkaaLawKit
namespace Go.Proofs.Ytobfdjgikpolkaa
open Go.RowKit
open Lib (hid)

set_option maxRecDepth 100000 in
set_option maxHeartbeats 3200000 in
theorem tightUnsigned_walk (p q r s p' q' r' s' x y n : Int) (h3 : U64 r) (h4 : U64 s) (h3' : U64 r') (h4' : U64 s') (hx : U64 x) (hy : U64 y) (w : World) :
    Calls Try.prog 5 #[.agg #[.int .i64 p, .int .i64 q, .int .u64 r, .int .u64 s], .agg #[.int .i64 p', .int .i64 q', .int .u64 r', .int .u64 s'], .int .u64 x, .int .u64 y, .int .i64 n] w fun e w' =>
      e = .returned (.bool true) ∧ Below w.heap.size w w' := by
  have hb := bitsOf_sz n
  have CB := hid (bits_calls n)
  obtain ⟨b, eb⟩ : ∃ b, bitsOf n = b := ⟨_, rfl⟩
  simp only [eb] at CB hb
  have F1 := hid (fit_calls b p q r s hb h3 h4)
  have F2 := hid (fit_calls b p' q' r' s' hb h3' h4')
  obtain ⟨P, hP⟩ : ∃ P, fit b ⟨p, q, r, s⟩ = P := ⟨_, rfl⟩
  obtain ⟨Q, hQ⟩ : ∃ Q, fit b ⟨p', q', r', s'⟩ = Q := ⟨_, rfl⟩
  have HP := hid hP
  have HQ := hid hQ
  have HX := hid hx
  have HY := hid hy
  clear eb h3 h4 h3' h4' hP hQ hx hy
  have HB := hid hb
  clear hb
  go_enter Try.func5, Try.ntmps5
  go_upto_region 2 with (go_at_call 6; refine (CB.out _).mono ?_; rintro e w1 ⟨rfl, rfl⟩)
  go_cut [12, 13] (fun s12 s13 wx => Two w P Q s12 s13 wx)
  case first =>
    have hP := HP.out
    have hQ := HQ.out
    subst hP hQ
    clear HP HQ HX HY HB
    go_region_held3 (fun w' => w'.cell? ⟨w.heap.size, 0, none⟩ = some (.int .i64 p) ∧ w'.cell? ⟨w.heap.size, 1, none⟩ = some (.int .i64 q) ∧ w'.cell? ⟨w.heap.size, 2, none⟩ = some (.int .u64 r) ∧ w'.cell? ⟨w.heap.size, 3, none⟩ = some (.int .u64 s) ∧
      w'.cell? ⟨w.heap.size + 1, 0, none⟩ = some (.int .i64 p') ∧ w'.cell? ⟨w.heap.size + 1, 1, none⟩ = some (.int .i64 q') ∧ w'.cell? ⟨w.heap.size + 1, 2, none⟩ = some (.int .u64 r') ∧ w'.cell? ⟨w.heap.size + 1, 3, none⟩ = some (.int .u64 s')) (first | (simp [go_sem]; done) | (simp [go_sem, *]; done))
      (first
        | (go_at_call_of 7 (Value.agg #[Value.int IntKind.i64 p, Value.int IntKind.i64 q, Value.int IntKind.u64 r, Value.int IntKind.u64 s]); refine (F1.out _).mono ?_; rintro e w1 ⟨rfl, rfl⟩)
        | (go_at_call_of 7 (Value.agg #[Value.int IntKind.i64 p', Value.int IntKind.i64 q', Value.int IntKind.u64 r', Value.int IntKind.u64 s']); refine (F2.out _).mono ?_; rintro e w1 ⟨rfl, rfl⟩))
    all_goals
      go_wp2_with fail
      go_meet
      refine ⟨_, _, rfl, rfl, ⟨?_, ?_, ?_, ?_, ?_⟩, ⟨?_, ?_, ?_, ?_, ?_⟩, ?_⟩
    all_goals first
      | (simp [go_sem, fit]; done)
      | (simp; omega)
      | (repeat (first | exact Below.refl _ _ | apply below_alloc | apply Below.drew))
  case rest =>
    obtain ⟨g, h, rfl, rfl, aP, aQ, hB⟩ := hcut
    have rP : Rng b P := HP.out ▸ fit_rng HB.out _
    have rQ : Rng b Q := HQ.out ▸ fit_rng HB.out _
    have M1 := hid (meets_below b x P HB.out HX.out)
    have M2 := hid (meets_below b y Q HB.out HY.out)
    have S1 := hid (sumFitsU_calls b P.um Q.um HB.out rQ.um)
    have S2 := hid (sumFitsU_calls b P.ux Q.ux HB.out rQ.ux)
    have RP := hid rP
    have RQ := hid rQ
    obtain ⟨m1, hm1⟩ : ∃ m, meets P x b = m := ⟨_, rfl⟩
    obtain ⟨m2, hm2⟩ : ∃ m, meets Q y b = m := ⟨_, rfl⟩
    obtain ⟨f1, hf1⟩ : ∃ m, sumFitsU P.um Q.um b = m := ⟨_, rfl⟩
    obtain ⟨f2, hf2⟩ : ∃ m, sumFitsU P.ux Q.ux b = m := ⟨_, rfl⟩
    simp only [hm1, hm2, hf1, hf2] at M1 M2 S1 S2
    have HM1 := hid hm1
    have HM2 := hid hm2
    have HF1 := hid hf1
    have HF2 := hid hf2
    have HBB := hid hB
    have AP := hid aP
    have AQ := hid aQ
    clear rP rQ hm1 hm2 hf1 hf2 hB F1 F2 CB HP HQ
    obtain ⟨l0, k0, k1, k2, k3⟩ := aP
    obtain ⟨l1, j0, j1, j2, j3⟩ := aQ
    go_upto_region 3 with fail
    go_cut [52] (fun s wx => Grd w P Q g h (m1 && m2 && f1 && f2) s wx)
    case first =>
      go_wp2_with fail
      refine (M1.out _).mono ?_
      rintro e w1 ⟨rfl, hb1⟩
      have aP := AP.out.keep hb1
      have aQ := AQ.out.keep hb1
      clear k0 k1 k2 k3 j0 j1 j2 j3 l0 l1
      obtain ⟨l0, k0, k1, k2, k3⟩ := aP
      obtain ⟨l1, j0, j1, j2, j3⟩ := aQ
      cases m1 with
      | false =>
        go_wp2_with fail
        go_meet
        exact ⟨rfl, AP.out.keep hb1, AQ.out.keep hb1, below_then HBB.out hb1⟩
      | true =>
        go_wp2_with fail
        refine (M2.out _).mono ?_
        rintro e w2 ⟨rfl, hb2⟩
        have aP := (AP.out.keep hb1).keep hb2
        have aQ := (AQ.out.keep hb1).keep hb2
        clear k0 k1 k2 k3 j0 j1 j2 j3 l0 l1
        obtain ⟨l0, k0, k1, k2, k3⟩ := aP
        obtain ⟨l1, j0, j1, j2, j3⟩ := aQ
        cases m2 with
        | false =>
          go_wp2_with fail
          go_meet
          exact ⟨rfl, (AP.out.keep hb1).keep hb2, (AQ.out.keep hb1).keep hb2, below_then (below_then HBB.out hb1) hb2⟩
        | true =>
          cases f1 with
          | false =>
            go_wp2_with (go_at_call 13; refine (S1.out _).mono ?_; rintro e w3 ⟨rfl, rfl⟩)
            go_meet
            exact ⟨rfl, (AP.out.keep hb1).keep hb2, (AQ.out.keep hb1).keep hb2, below_then (below_then HBB.out hb1) hb2⟩
          | true =>
            cases f2 with
            | false =>
              go_wp2_with fail
              refine (S1.out _).mono ?_
              rintro e w3 ⟨rfl, rfl⟩
              go_wp2_with (go_at_call 13; refine (S2.out _).mono ?_; rintro e w3 ⟨rfl, rfl⟩)
              go_meet
              exact ⟨rfl, (AP.out.keep hb1).keep hb2, (AQ.out.keep hb1).keep hb2, below_then (below_then HBB.out hb1) hb2⟩
            | true =>
              go_wp2_with fail
              refine (S1.out _).mono ?_
              rintro e w3 ⟨rfl, rfl⟩
              go_wp2_with (go_at_call 13; refine (S2.out _).mono ?_; rintro e w3 ⟨rfl, rfl⟩)
              go_meet
              exact ⟨rfl, (AP.out.keep hb1).keep hb2, (AQ.out.keep hb1).keep hb2, below_then (below_then HBB.out hb1) hb2⟩
    case rest =>
      clear k0 k1 k2 k3 j0 j1 j2 j3 l0 l1 M1 M2 S1 S2 AP AQ HBB
      obtain ⟨rfl, aP, aQ, hB⟩ := hcut
      have AP := hid aP
      have AQ := hid aQ
      have HBB := hid hB
      clear hB
      obtain ⟨l0, k0, k1, k2, k3⟩ := aP
      obtain ⟨l1, j0, j1, j2, j3⟩ := aQ
      cases hall : (m1 && m2 && f1 && f2) with
      | false =>
        clear hall
        go_wp2_with (go_at_call 10; refine (works_calls _).mono ?_; rintro e w1 ⟨rfl, hb1⟩)
        go_ret
        exact ⟨rfl, below_then HBB.out hb1⟩
      | true =>
        have hm1 : meets P x b = true := by rw [HM1.out]; cases m1 <;> simp at hall ⊢
        have hm2 : meets Q y b = true := by rw [HM2.out]; cases m2 <;> simp at hall ⊢
        have hf1 : sumFitsU P.um Q.um b = true := by rw [HF1.out]; cases f1 <;> simp at hall ⊢
        have hf2 : sumFitsU P.ux Q.ux b = true := by rw [HF2.out]; cases f2 <;> simp at hall ⊢
        have tight := tight_unsigned HB.out RP.out RQ.out hm1 hm2 hf1 hf2
        have v1 := (sumFitsU_iff RP.out.um RQ.out.um).1 hf1
        have v2 := (sumFitsU_iff RP.out.ux RQ.out.ux).1 hf2
        have wb := sz_bounds HB.out
        obtain ⟨R, hR⟩ : ∃ R, addL b P Q = R := ⟨_, rfl⟩
        have CA := hid (iadd_calls b P.mn P.mx P.um P.ux Q.mn Q.mx Q.um Q.ux HB.out (rng_I64 HB.out RP.out.mn) (rng_I64 HB.out RP.out.mx) (rng_U64 HB.out RP.out.um) (rng_U64 HB.out RP.out.ux)
          (rng_I64 HB.out RQ.out.mn) (rng_I64 HB.out RQ.out.mx) (rng_U64 HB.out RQ.out.um) (rng_U64 HB.out RQ.out.ux) R hR)
        rw [hR] at tight
        have t1 : IntKind.u64.wrap (P.um + Q.um) ≤ R.um := by rw [IntKind.wrap_u64]; omega
        have t2 : R.ux ≤ IntKind.u64.wrap (P.ux + Q.ux) := by rw [IntKind.wrap_u64]; omega
        clear hall hm1 hm2 hf1 hf2 tight v1 v2 wb hR HM1 HM2 HF1 HF2 RP RQ HB HX HY
        go_wp2_with fail
        refine (CA.out _).mono ?_
        rintro e w1 ⟨rfl, hb1⟩
        have aP := AP.out.keep hb1
        have aQ := AQ.out.keep hb1
        clear k0 k1 k2 k3 j0 j1 j2 j3 l0 l1
        obtain ⟨l0, k0, k1, k2, k3⟩ := aP
        obtain ⟨l1, j0, j1, j2, j3⟩ := aQ
        go_wp2_with fail
        refine (works_calls _).mono ?_
        rintro e w2 ⟨rfl, hb2⟩
        have aR := (At.box w1 R).keep hb2
        have aP := ((AP.out.keep hb1).keep (below_alloc (Below.refl _ _) _)).keep hb2
        have aQ := ((AQ.out.keep hb1).keep (below_alloc (Below.refl _ _) _)).keep hb2
        have hw := below_then (below_alloc (below_then HBB.out hb1) _) hb2
        have HW := hid hw
        clear k0 k1 k2 k3 j0 j1 j2 j3 l0 l1 hb1 hb2 AP AQ HBB hw CA
        obtain ⟨l0, k0, k1, k2, k3⟩ := aP
        obtain ⟨l1, j0, j1, j2, j3⟩ := aQ
        obtain ⟨l2, i0, i1, i2, i3⟩ := aR
        go_wp2_with fail
        go_ret
        exact ⟨rfl, HW.out⟩

end Go.Proofs.Ytobfdjgikpolkaa
