/- The walk of the law FnAddGrows: it returns true and changes nothing that was there.
   Conditions: the arguments are numbers of their kinds. -/
import Derived.Test.YtobfdjgikpolkaaOrder
namespace Go.Proofs.Ytobfdjgikpolkaa
open Go.RowKit
open Lib (hid)

/-- What three limits' boxes leave. -/
def Three (w : World) (l m k : Lim) (s t u : Value) (w' : World) : Prop := ∃ g h i : Nat, s = .pointer (some ⟨g, 0, none⟩) ∧ t = .pointer (some ⟨h, 0, none⟩) ∧ u = .pointer (some ⟨i, 0, none⟩) ∧ At w' g l ∧ At w' h m ∧ At w' i k ∧ Below w.heap.size w w'

theorem fit_below (b p q r s : Int) (hb : Sz b) (hr : U64 r) (hs : U64 s) (P : Lim) (hP : fit b ⟨p, q, r, s⟩ = P) (w : World) : Calls Try.prog 7 #[.agg #[.int .i64 p, .int .i64 q, .int .u64 r, .int .u64 s], .int .u64 b] w fun e w' =>
    e = .returned (.agg #[.int .i64 P.mn, .int .i64 P.mx, .int .u64 P.um, .int .u64 P.ux]) ∧ Below w.heap.size w w' := by
  subst hP
  exact (fit_calls b p q r s hb hr hs w).mono fun e w' ⟨he, hw⟩ => ⟨he, by rw [hw]; exact (below_alloc (below_alloc (Below.refl _ _) _) _).drew⟩

/-- What the guard leaves. -/
def Grd3 (w : World) (l m k : Lim) (g h i : Nat) (c : Bool) (s : Value) (w' : World) : Prop := s = .bool (!c) ∧ At w' g l ∧ At w' h m ∧ At w' i k ∧ Below w.heap.size w w'

theorem inside_below (l m : Lim) (w : World) :
    Calls Try.prog 9 #[.agg #[.int .i64 l.mn, .int .i64 l.mx, .int .u64 l.um, .int .u64 l.ux], .agg #[.int .i64 m.mn, .int .i64 m.mx, .int .u64 m.um, .int .u64 m.ux]] w fun e w' =>
    e = .returned (.bool (inside l m)) ∧ Below w.heap.size w w' :=
  (inside_calls l.mn l.mx l.um l.ux m.mn m.mx m.um m.ux w).mono fun e w' ⟨he, hw⟩ => ⟨he, by rw [hw]; exact below_alloc (below_alloc (Below.refl _ _) _) _⟩

theorem below_of_drew {w w' : World} (h : Below w.drew.heap.size w.drew w') : Below w.heap.size w w' := (Below.refl w.heap.size w).drew.trans h

set_option maxRecDepth 100000 in
set_option maxHeartbeats 6400000 in
theorem grows_walk (p q r s p' q' r' s' p2 q2 r2 s2 x y n : Int) (h3 : U64 r) (h4 : U64 s) (h3' : U64 r') (h4' : U64 s') (h32 : U64 r2) (h42 : U64 s2) (hx : U64 x) (hy : U64 y) (w : World) :
    Calls Try.prog 3 #[.agg #[.int .i64 p, .int .i64 q, .int .u64 r, .int .u64 s], .agg #[.int .i64 p', .int .i64 q', .int .u64 r', .int .u64 s'], .agg #[.int .i64 p2, .int .i64 q2, .int .u64 r2, .int .u64 s2], .int .u64 x, .int .u64 y, .int .i64 n] w fun e w' =>
      e = .returned (.bool true) ∧ Below w.heap.size w w' := by
  have hb := bitsOf_sz n
  have CB := hid (bits_calls n)
  obtain ⟨b, eb⟩ : ∃ b, bitsOf n = b := ⟨_, rfl⟩
  simp only [eb] at CB hb
  obtain ⟨P, hP⟩ : ∃ P, fit b ⟨p, q, r, s⟩ = P := ⟨_, rfl⟩
  obtain ⟨Q, hQ⟩ : ∃ Q, fit b ⟨p', q', r', s'⟩ = Q := ⟨_, rfl⟩
  obtain ⟨R, hR⟩ : ∃ R, fit b ⟨p2, q2, r2, s2⟩ = R := ⟨_, rfl⟩
  have F1 := hid (fit_below b p q r s hb h3 h4 P hP)
  have F2 := hid (fit_below b p' q' r' s' hb h3' h4' Q hQ)
  have F3 := hid (fit_below b p2 q2 r2 s2 hb h32 h42 R hR)
  have HP := hid hP
  have HQ := hid hQ
  have HR := hid hR
  have HX := hid hx
  have HY := hid hy
  clear eb h3 h4 h3' h4' h32 h42 hP hQ hR hx hy
  have HB := hid hb
  clear hb
  go_enter Try.func3, Try.ntmps3
  go_upto_region 2 with (go_at_call 6; refine (CB.out _).mono ?_; rintro e w1 ⟨rfl, rfl⟩)
  go_cut [14, 15, 16] (fun s14 s15 s16 wx => Three w P Q R s14 s15 s16 wx)
  case first =>
    clear HP HQ HR HX HY HB
    refine region_inv (by kernel_rfl) (fun l a w' => ∃ (c0 c1 c2 c3 c4 c5 c6 c7 c8 b1 b2 b3 t1 t2 t3 : Bool) (g1 g2 g3 : Nat), l = #[c0, c1, c2, c3, c4, c5, c6, c7, c8, b1, b2, b3, t1, t2, t3] ∧ a = ⟨#[(.agg #[.int .i64 p, .int .i64 q, .int .u64 r, .int .u64 s]), (.agg #[.int .i64 p', .int .i64 q', .int .u64 r', .int .u64 s']), (.agg #[.int .i64 p2, .int .i64 q2, .int .u64 r2, .int .u64 s2]), (.int .u64 x), (.int .u64 y), (.int .i64 n), (.pointer (some ⟨w.heap.size, 0, none⟩)), (.pointer (some ⟨w.heap.size + 1, 0, none⟩)), (.pointer (some ⟨w.heap.size + 1 + 1, 0, none⟩)), undef, undef, undef, (.bool false), (.int .u64 b), (cond b1 (.pointer (some ⟨g1, 0, none⟩)) undef), (cond b2 (.pointer (some ⟨g2, 0, none⟩)) undef), (cond b3 (.pointer (some ⟨g3, 0, none⟩)) undef), (.int .i64 n), (.int .u64 b), (cond c0 (.agg #[.int .i64 p, .int .i64 q, .int .u64 r, .int .u64 s]) undef), (cond c1 (.int .u64 b) undef), (cond c2 (.agg #[.int .i64 P.mn, .int .i64 P.mx, .int .u64 P.um, .int .u64 P.ux]) undef), (cond c3 (.agg #[.int .i64 p', .int .i64 q', .int .u64 r', .int .u64 s']) undef), (cond c4 (.int .u64 b) undef), (cond c5 (.agg #[.int .i64 Q.mn, .int .i64 Q.mx, .int .u64 Q.um, .int .u64 Q.ux]) undef), (cond c6 (.agg #[.int .i64 p2, .int .i64 q2, .int .u64 r2, .int .u64 s2]) undef), (cond c7 (.int .u64 b) undef), (cond c8 (.agg #[.int .i64 R.mn, .int .i64 R.mx, .int .u64 R.um, .int .u64 R.ux]) undef), undef, undef, undef, undef, undef, undef, undef, undef, undef, undef, undef, undef, undef, undef, undef, undef, undef, undef, undef, undef, undef, undef, undef, undef, undef, undef, undef, undef, undef, undef, undef], []⟩ ∧
      Rel w ⟨p, q, r, s⟩ ⟨p', q', r', s'⟩ ⟨p2, q2, r2, s2⟩ P Q R b1 b2 b3 t1 t2 t3 g1 g2 g3 w' ∧ (t1 = true → b1 = true) ∧ (t2 = true → b2 = true) ∧ (t3 = true → b3 = true)) ?_ ?_ ?_
    · refine ⟨false, false, false, false, false, false, false, false, false, false, false, false, false, false, false, 0, 0, 0, rfl, rfl, ⟨?_, ⟨?_, ?_, ?_, ?_, ?_⟩, ⟨?_, ?_, ?_, ?_, ?_⟩, ⟨?_, ?_, ?_, ?_, ?_⟩, fun e => (by cases e), fun e => (by cases e), fun e => (by cases e), fun e => (by cases e), fun e => (by cases e), fun e => (by cases e)⟩, fun e => e, fun e => e, fun e => e⟩
      all_goals first
        | (simp [go_sem]; done)
        | (simp; omega)
        | (repeat (first | exact Below.refl _ _ | apply below_alloc | apply Below.drew))
    · rintro l a w' ⟨c0, c1, c2, c3, c4, c5, c6, c7, c8, b1, b2, b3, t1, t2, t3, g1, g2, g3, rfl, rfl, hR, e1, e2, e3⟩ hr
      obtain rfl : c0 = true := ready_not (i := 0) hr rfl rfl
      obtain rfl : c1 = true := ready_not (i := 1) hr rfl rfl
      obtain rfl : c2 = true := ready_not (i := 2) hr rfl rfl
      obtain rfl : c3 = true := ready_not (i := 3) hr rfl rfl
      obtain rfl : c4 = true := ready_not (i := 4) hr rfl rfl
      obtain rfl : c5 = true := ready_not (i := 5) hr rfl rfl
      obtain rfl : c6 = true := ready_not (i := 6) hr rfl rfl
      obtain rfl : c7 = true := ready_not (i := 7) hr rfl rfl
      obtain rfl : c8 = true := ready_not (i := 8) hr rfl rfl
      obtain rfl : b1 = true := ready_not (i := 9) hr rfl rfl
      obtain rfl : b2 = true := ready_not (i := 10) hr rfl rfl
      obtain rfl : b3 = true := ready_not (i := 11) hr rfl rfl
      obtain rfl : t1 = true := ready_not (i := 12) hr rfl rfl
      obtain rfl : t2 = true := ready_not (i := 13) hr rfl rfl
      obtain rfl : t3 = true := ready_not (i := 14) hr rfl rfl
      have HRR := hid hR
      clear hR hr e1 e2 e3
      go_wp2_with fail
      go_meet
      exact ⟨g1, g2, g3, rfl, rfl, rfl, (HRR.out.o1 rfl).1.at, (HRR.out.o2 rfl).1.at, (HRR.out.o3 rfl).1.at, HRR.out.below⟩
    · rintro l a w' i ⟨c0, c1, c2, c3, c4, c5, c6, c7, c8, b1, b2, b3, t1, t2, t3, g1, g2, g3, rfl, rfl, hR, e1, e2, e3⟩ hi
      have hl := (mem_ready.1 hi).1
      have hi15 : i < 15 := by
        by_cases h : i < 15
        · exact h
        · rw [Array.getD_eq_getD_getElem?, Array.getElem?_eq_none (by simp; omega)] at hl
          cases hl
      obtain rfl | rfl | rfl | rfl | rfl | rfl | rfl | rfl | rfl | rfl | rfl | rfl | rfl | rfl | rfl : i = 0 ∨ i = 1 ∨ i = 2 ∨ i = 3 ∨ i = 4 ∨ i = 5 ∨ i = 6 ∨ i = 7 ∨ i = 8 ∨ i = 9 ∨ i = 10 ∨ i = 11 ∨ i = 12 ∨ i = 13 ∨ i = 14 := by omega
      · obtain rfl : c0 = false := hl
        clear hi
        refine wpOp_step rfl (fun KK hKK => ?_)
        obtain ⟨l0, k0, k1, k2, k3⟩ := hR.x1
        have HRR := hid hR
        have HKK := hid hKK
        clear hR hKK
        go_simp
        exact HKK.out _ _ ⟨true, c1, c2, c3, c4, c5, c6, c7, c8, b1, b2, b3, t1, t2, t3, g1, g2, g3, rfl, rfl, HRR.out, e1, e2, e3⟩
      · obtain rfl : c1 = false := hl
        clear hi
        refine wpOp_step rfl (fun KK hKK => ?_)
        have HRR := hid hR
        have HKK := hid hKK
        clear hR hKK
        go_simp
        exact HKK.out _ _ ⟨c0, true, c2, c3, c4, c5, c6, c7, c8, b1, b2, b3, t1, t2, t3, g1, g2, g3, rfl, rfl, HRR.out, e1, e2, e3⟩
      · obtain rfl : c2 = false := hl
        obtain rfl : c0 = true := ready_dep ⟨0, .data⟩ hi rfl (by simp) rfl
        obtain rfl : c1 = true := ready_dep ⟨1, .data⟩ hi rfl (by simp) rfl
        clear hi
        refine wpOp_step rfl (fun KK hKK => ?_)
        have HRR := hid hR
        have HKK := hid hKK
        clear hR hKK
        go_simp
        refine (F1.out _).mono ?_
        rintro e w1 ⟨rfl, hb1⟩
        exact HKK.out _ _ ⟨true, true, true, c3, c4, c5, c6, c7, c8, b1, b2, b3, t1, t2, t3, g1, g2, g3, rfl, rfl, HRR.out.keep hb1, e1, e2, e3⟩
      · obtain rfl : c3 = false := hl
        clear hi
        refine wpOp_step rfl (fun KK hKK => ?_)
        obtain ⟨l0, k0, k1, k2, k3⟩ := hR.x2
        have HRR := hid hR
        have HKK := hid hKK
        clear hR hKK
        go_simp
        exact HKK.out _ _ ⟨c0, c1, c2, true, c4, c5, c6, c7, c8, b1, b2, b3, t1, t2, t3, g1, g2, g3, rfl, rfl, HRR.out, e1, e2, e3⟩
      · obtain rfl : c4 = false := hl
        clear hi
        refine wpOp_step rfl (fun KK hKK => ?_)
        have HRR := hid hR
        have HKK := hid hKK
        clear hR hKK
        go_simp
        exact HKK.out _ _ ⟨c0, c1, c2, c3, true, c5, c6, c7, c8, b1, b2, b3, t1, t2, t3, g1, g2, g3, rfl, rfl, HRR.out, e1, e2, e3⟩
      · obtain rfl : c5 = false := hl
        obtain rfl : c3 = true := ready_dep ⟨3, .data⟩ hi rfl (by simp) rfl
        obtain rfl : c4 = true := ready_dep ⟨4, .data⟩ hi rfl (by simp) rfl
        clear hi
        refine wpOp_step rfl (fun KK hKK => ?_)
        have HRR := hid hR
        have HKK := hid hKK
        clear hR hKK
        go_simp
        refine (F2.out _).mono ?_
        rintro e w1 ⟨rfl, hb1⟩
        exact HKK.out _ _ ⟨c0, c1, c2, true, true, true, c6, c7, c8, b1, b2, b3, t1, t2, t3, g1, g2, g3, rfl, rfl, HRR.out.keep hb1, e1, e2, e3⟩
      · obtain rfl : c6 = false := hl
        clear hi
        refine wpOp_step rfl (fun KK hKK => ?_)
        obtain ⟨l0, k0, k1, k2, k3⟩ := hR.x3
        have HRR := hid hR
        have HKK := hid hKK
        clear hR hKK
        go_simp
        exact HKK.out _ _ ⟨c0, c1, c2, c3, c4, c5, true, c7, c8, b1, b2, b3, t1, t2, t3, g1, g2, g3, rfl, rfl, HRR.out, e1, e2, e3⟩
      · obtain rfl : c7 = false := hl
        clear hi
        refine wpOp_step rfl (fun KK hKK => ?_)
        have HRR := hid hR
        have HKK := hid hKK
        clear hR hKK
        go_simp
        exact HKK.out _ _ ⟨c0, c1, c2, c3, c4, c5, c6, true, c8, b1, b2, b3, t1, t2, t3, g1, g2, g3, rfl, rfl, HRR.out, e1, e2, e3⟩
      · obtain rfl : c8 = false := hl
        obtain rfl : c6 = true := ready_dep ⟨6, .data⟩ hi rfl (by simp) rfl
        obtain rfl : c7 = true := ready_dep ⟨7, .data⟩ hi rfl (by simp) rfl
        clear hi
        refine wpOp_step rfl (fun KK hKK => ?_)
        have HRR := hid hR
        have HKK := hid hKK
        clear hR hKK
        go_simp
        refine (F3.out _).mono ?_
        rintro e w1 ⟨rfl, hb1⟩
        exact HKK.out _ _ ⟨c0, c1, c2, c3, c4, c5, true, true, true, b1, b2, b3, t1, t2, t3, g1, g2, g3, rfl, rfl, HRR.out.keep hb1, e1, e2, e3⟩
      · obtain rfl : b1 = false := hl
        obtain rfl : t1 = false := by
          cases h : t1 with
          | false => rfl
          | true => exact absurd (e1 h) (by simp)
        clear hi
        refine wpOp_step rfl (fun KK hKK => ?_)
        have HRR := hid hR
        have HKK := hid hKK
        clear hR hKK
        go_simp
        exact HKK.out _ _ ⟨c0, c1, c2, c3, c4, c5, c6, c7, c8, true, b2, b3, false, t2, t3, _, g2, g3, rfl, rfl, HRR.out.make1, fun _ => rfl, e2, e3⟩
      · obtain rfl : b2 = false := hl
        obtain rfl : t2 = false := by
          cases h : t2 with
          | false => rfl
          | true => exact absurd (e2 h) (by simp)
        clear hi
        refine wpOp_step rfl (fun KK hKK => ?_)
        have HRR := hid hR
        have HKK := hid hKK
        clear hR hKK
        go_simp
        exact HKK.out _ _ ⟨c0, c1, c2, c3, c4, c5, c6, c7, c8, b1, true, b3, t1, false, t3, g1, _, g3, rfl, rfl, HRR.out.make2, e1, fun _ => rfl, e3⟩
      · obtain rfl : b3 = false := hl
        obtain rfl : t3 = false := by
          cases h : t3 with
          | false => rfl
          | true => exact absurd (e3 h) (by simp)
        clear hi
        refine wpOp_step rfl (fun KK hKK => ?_)
        have HRR := hid hR
        have HKK := hid hKK
        clear hR hKK
        go_simp
        exact HKK.out _ _ ⟨c0, c1, c2, c3, c4, c5, c6, c7, c8, b1, b2, true, t1, t2, false, g1, g2, _, rfl, rfl, HRR.out.make3, e1, e2, fun _ => rfl⟩
      · obtain rfl : t1 = false := hl
        obtain rfl : b1 = true := ready_dep ⟨9, .data⟩ hi rfl (by simp) rfl
        obtain rfl : c2 = true := ready_dep ⟨2, .data⟩ hi rfl (by simp) rfl
        clear hi
        refine wpOp_step rfl (fun KK hKK => ?_)
        obtain ⟨hk, _⟩ := hR.o1 rfl
        obtain ⟨l0, k0, k1, k2, k3⟩ := hk.at
        have f0 := hk.free 0
        have f1 := hk.free 1
        have f2 := hk.free 2
        have f3 := hk.free 3
        have HRR := hid hR
        have HKK := hid hKK
        clear hR hKK hk
        go_simp
        exact HKK.out _ _ ⟨c0, c1, true, c3, c4, c5, c6, c7, c8, true, b2, b3, true, t2, t3, g1, g2, g3, rfl, rfl, HRR.out.fill1, fun _ => rfl, e2, e3⟩
      · obtain rfl : t2 = false := hl
        obtain rfl : b2 = true := ready_dep ⟨10, .data⟩ hi rfl (by simp) rfl
        obtain rfl : c5 = true := ready_dep ⟨5, .data⟩ hi rfl (by simp) rfl
        clear hi
        refine wpOp_step rfl (fun KK hKK => ?_)
        obtain ⟨hk, _⟩ := hR.o2 rfl
        obtain ⟨l0, k0, k1, k2, k3⟩ := hk.at
        have f0 := hk.free 0
        have f1 := hk.free 1
        have f2 := hk.free 2
        have f3 := hk.free 3
        have HRR := hid hR
        have HKK := hid hKK
        clear hR hKK hk
        go_simp
        exact HKK.out _ _ ⟨c0, c1, c2, c3, c4, true, c6, c7, c8, b1, true, b3, t1, true, t3, g1, g2, g3, rfl, rfl, HRR.out.fill2, e1, fun _ => rfl, e3⟩
      · obtain rfl : t3 = false := hl
        obtain rfl : b3 = true := ready_dep ⟨11, .data⟩ hi rfl (by simp) rfl
        obtain rfl : c8 = true := ready_dep ⟨8, .data⟩ hi rfl (by simp) rfl
        clear hi
        refine wpOp_step rfl (fun KK hKK => ?_)
        obtain ⟨hk, _⟩ := hR.o3 rfl
        obtain ⟨l0, k0, k1, k2, k3⟩ := hk.at
        have f0 := hk.free 0
        have f1 := hk.free 1
        have f2 := hk.free 2
        have f3 := hk.free 3
        have HRR := hid hR
        have HKK := hid hKK
        clear hR hKK hk
        go_simp
        exact HKK.out _ _ ⟨c0, c1, c2, c3, c4, c5, c6, c7, true, b1, b2, true, t1, t2, true, g1, g2, g3, rfl, rfl, HRR.out.fill3, e1, e2, fun _ => rfl⟩
  case rest =>
    obtain ⟨g, h, i, rfl, rfl, rfl, aP, aQ, aR, hB⟩ := hcut
    have rP : Rng b P := HP.out ▸ fit_rng HB.out _
    have rQ : Rng b Q := HQ.out ▸ fit_rng HB.out _
    have rR : Rng b R := HR.out ▸ fit_rng HB.out _
    have M1 := hid (meets_below b x P HB.out HX.out)
    have M3 := hid (meets_below b y R HB.out HY.out)
    have N1 := hid (inside_below P Q)
    have RP := hid rP
    have RQ := hid rQ
    have RR := hid rR
    obtain ⟨m1, hm1⟩ : ∃ m, meets P x b = m := ⟨_, rfl⟩
    obtain ⟨m3, hm3⟩ : ∃ m, meets R y b = m := ⟨_, rfl⟩
    obtain ⟨n1, hn1⟩ : ∃ m, inside P Q = m := ⟨_, rfl⟩
    simp only [hm1, hm3, hn1] at M1 M3 N1
    have HM1 := hid hm1
    have HM3 := hid hm3
    have HN1 := hid hn1
    have HBB := hid hB
    have AP := hid aP
    have AQ := hid aQ
    have AR := hid aR
    clear rP rQ rR hm1 hm3 hn1 hB F1 F2 F3 CB HP HQ HR
    obtain ⟨l0, k0, k1, k2, k3⟩ := aP
    obtain ⟨l1, j0, j1, j2, j3⟩ := aQ
    obtain ⟨l2, i0, i1, i2, i3⟩ := aR
    go_upto_region 3 with fail
    go_cut [45] (fun s wx => Grd3 w P Q R g h i (m1 && n1 && m3) s wx)
    case first =>
      go_wp2_with fail
      refine (M1.out _).mono ?_
      rintro e w1 ⟨rfl, hb1⟩
      have aP := AP.out.keep hb1
      have aQ := AQ.out.keep hb1
      have aR := AR.out.keep hb1
      clear k0 k1 k2 k3 j0 j1 j2 j3 i0 i1 i2 i3 l0 l1 l2
      obtain ⟨l0, k0, k1, k2, k3⟩ := aP
      obtain ⟨l1, j0, j1, j2, j3⟩ := aQ
      obtain ⟨l2, i0, i1, i2, i3⟩ := aR
      cases m1 with
      | false =>
        go_wp2_with fail
        go_meet
        exact ⟨rfl, AP.out.keep hb1, AQ.out.keep hb1, AR.out.keep hb1, below_then HBB.out hb1⟩
      | true =>
        go_wp2_with fail
        refine (N1.out _).mono ?_
        rintro e w2 ⟨rfl, hb2⟩
        have aP := (AP.out.keep hb1).keep hb2
        have aQ := (AQ.out.keep hb1).keep hb2
        have aR := (AR.out.keep hb1).keep hb2
        clear k0 k1 k2 k3 j0 j1 j2 j3 i0 i1 i2 i3 l0 l1 l2
        obtain ⟨l0, k0, k1, k2, k3⟩ := aP
        obtain ⟨l1, j0, j1, j2, j3⟩ := aQ
        obtain ⟨l2, i0, i1, i2, i3⟩ := aR
        cases n1 with
        | false =>
          go_wp2_with fail
          go_meet
          exact ⟨rfl, (AP.out.keep hb1).keep hb2, (AQ.out.keep hb1).keep hb2, (AR.out.keep hb1).keep hb2, below_then (below_then HBB.out hb1) hb2⟩
        | true =>
          go_wp2_with fail
          refine (M3.out _).mono ?_
          rintro e w3 ⟨rfl, hb3⟩
          clear k0 k1 k2 k3 j0 j1 j2 j3 i0 i1 i2 i3 l0 l1 l2
          cases m3 with
          | false =>
            go_wp2_with fail
            go_meet
            exact ⟨rfl, ((AP.out.keep hb1).keep hb2).keep hb3, ((AQ.out.keep hb1).keep hb2).keep hb3, ((AR.out.keep hb1).keep hb2).keep hb3, below_then (below_then (below_then HBB.out hb1) hb2) hb3⟩
          | true =>
            go_wp2_with fail
            go_meet
            exact ⟨rfl, ((AP.out.keep hb1).keep hb2).keep hb3, ((AQ.out.keep hb1).keep hb2).keep hb3, ((AR.out.keep hb1).keep hb2).keep hb3, below_then (below_then (below_then HBB.out hb1) hb2) hb3⟩
    case rest =>
      clear k0 k1 k2 k3 j0 j1 j2 j3 i0 i1 i2 i3 l0 l1 l2 M1 M3 N1 AP AQ AR HBB
      obtain ⟨rfl, aP, aQ, aR, hB⟩ := hcut
      have HBB := hid hB
      clear hB
      cases hall : (m1 && n1 && m3) with
      | false =>
        clear hall aP aQ aR
        go_wp2_with (go_at_call 10; refine (works_calls _).mono ?_; rintro e w1 ⟨rfl, hb1⟩)
        go_ret
        exact ⟨rfl, below_then HBB.out hb1⟩
      | true =>
        have hm1 : meets P x b = true := by rw [HM1.out]; cases m1 <;> simp at hall ⊢
        have hm3 : meets R y b = true := by rw [HM3.out]; cases m3 <;> simp at hall ⊢
        have hn1 : inside P Q = true := by rw [HN1.out]; cases n1 <;> simp at hall ⊢
        have hg := grows HB.out RP.out RQ.out RR.out hm1 hn1 hm3
        obtain ⟨A, hA⟩ : ∃ A, addL b P R = A := ⟨_, rfl⟩
        obtain ⟨B, hB⟩ : ∃ A, addL b Q R = A := ⟨_, rfl⟩
        have CA := hid (iadd_calls b P.mn P.mx P.um P.ux R.mn R.mx R.um R.ux HB.out (rng_I64 HB.out RP.out.mn) (rng_I64 HB.out RP.out.mx) (rng_U64 HB.out RP.out.um) (rng_U64 HB.out RP.out.ux)
          (rng_I64 HB.out RR.out.mn) (rng_I64 HB.out RR.out.mx) (rng_U64 HB.out RR.out.um) (rng_U64 HB.out RR.out.ux) A hA)
        have CB := hid (iadd_calls b Q.mn Q.mx Q.um Q.ux R.mn R.mx R.um R.ux HB.out (rng_I64 HB.out RQ.out.mn) (rng_I64 HB.out RQ.out.mx) (rng_U64 HB.out RQ.out.um) (rng_U64 HB.out RQ.out.ux)
          (rng_I64 HB.out RR.out.mn) (rng_I64 HB.out RR.out.mx) (rng_U64 HB.out RR.out.um) (rng_U64 HB.out RR.out.ux) B hB)
        have ci := inside_below A B
        rw [hA, hB] at hg
        simp only [hg] at ci
        have CI := hid ci
        clear hall hm1 hm3 hn1 hg hA hB ci HM1 HM3 HN1 RP RQ RR HB HX HY
        have aP0 := aP
        have aQ0 := aQ
        have aR0 := aR
        obtain ⟨l0, k0, k1, k2, k3⟩ := aP
        obtain ⟨l1, j0, j1, j2, j3⟩ := aQ
        obtain ⟨l2, i0, i1, i2, i3⟩ := aR
        go_upto_region 5 with fail
        go_region_held3 (fun w' => w'.cell? ⟨g, 0, none⟩ = some (.int .i64 P.mn) ∧ w'.cell? ⟨g, 1, none⟩ = some (.int .i64 P.mx) ∧ w'.cell? ⟨g, 2, none⟩ = some (.int .u64 P.um) ∧ w'.cell? ⟨g, 3, none⟩ = some (.int .u64 P.ux) ∧
            w'.cell? ⟨h, 0, none⟩ = some (.int .i64 Q.mn) ∧ w'.cell? ⟨h, 1, none⟩ = some (.int .i64 Q.mx) ∧ w'.cell? ⟨h, 2, none⟩ = some (.int .u64 Q.um) ∧ w'.cell? ⟨h, 3, none⟩ = some (.int .u64 Q.ux) ∧
            w'.cell? ⟨i, 0, none⟩ = some (.int .i64 R.mn) ∧ w'.cell? ⟨i, 1, none⟩ = some (.int .i64 R.mx) ∧ w'.cell? ⟨i, 2, none⟩ = some (.int .u64 R.um) ∧ w'.cell? ⟨i, 3, none⟩ = some (.int .u64 R.ux)) (first | (simp [go_sem, *]; done))
          (first
            | (go_at_call 10; refine (works_calls _).mono ?_; rintro e w1 ⟨rfl, hb1⟩; have aP1 := At.keep aP0 (below_of_drew hb1); have aQ1 := At.keep aQ0 (below_of_drew hb1); have aR1 := At.keep aR0 (below_of_drew hb1); obtain ⟨m0, kk0, kk1, kk2, kk3⟩ := id aP1; obtain ⟨m1, jj0, jj1, jj2, jj3⟩ := id aQ1; obtain ⟨m2, ii0, ii1, ii2, ii3⟩ := id aR1)
            | (go_at_call_of 11 (Value.agg #[Value.int IntKind.i64 P.mn, Value.int IntKind.i64 P.mx, Value.int IntKind.u64 P.um, Value.int IntKind.u64 P.ux]); refine (CA.out _).mono ?_; rintro e w2 ⟨rfl, hb2⟩; have aP2 := At.keep aP1 hb2; have aQ2 := At.keep aQ1 hb2; have aR2 := At.keep aR1 hb2; obtain ⟨m0, kk0, kk1, kk2, kk3⟩ := id aP2; obtain ⟨m1, jj0, jj1, jj2, jj3⟩ := id aQ2; obtain ⟨m2, ii0, ii1, ii2, ii3⟩ := id aR2)
            | (go_at_call_of 11 (Value.agg #[Value.int IntKind.i64 Q.mn, Value.int IntKind.i64 Q.mx, Value.int IntKind.u64 Q.um, Value.int IntKind.u64 Q.ux]); refine (CB.out _).mono ?_; rintro e w3 ⟨rfl, hb3⟩; have aP3 := At.keep aP2 hb3; have aQ3 := At.keep aQ2 hb3; have aR3 := At.keep aR2 hb3; obtain ⟨m0, kk0, kk1, kk2, kk3⟩ := id aP3; obtain ⟨m1, jj0, jj1, jj2, jj3⟩ := id aQ3; obtain ⟨m2, ii0, ii1, ii2, ii3⟩ := id aR3)
            | (go_at_call 9; refine (CI.out _).mono ?_; rintro e w4 ⟨rfl, hb4⟩; have aP4 := At.keep aP3 hb4; have aQ4 := At.keep aQ3 hb4; have aR4 := At.keep aR3 hb4; obtain ⟨m0, kk0, kk1, kk2, kk3⟩ := id aP4; obtain ⟨m1, jj0, jj1, jj2, jj3⟩ := id aQ4; obtain ⟨m2, ii0, ii1, ii2, ii3⟩ := id aR4))
        go_wp2_with fail
        go_ret
        exact ⟨rfl, below_then (below_then (below_then (below_then HBB.out (below_of_drew hb1)) hb2) hb3) hb4⟩

end Go.Proofs.Ytobfdjgikpolkaa
