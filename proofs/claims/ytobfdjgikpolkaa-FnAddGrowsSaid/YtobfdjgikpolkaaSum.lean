/- The limit of a sum, through the three doors of the program, is the one that the plain function addL names; the law's own check of itself answers true.
   Conditions: the size is one of the four, the bounds are numbers of their kinds. -/
import Derived.Test.YtobfdjgikpolkaaAddB
import Derived.Test.YtobfdjgikpolkaaAddC
namespace Go.Proofs.Ytobfdjgikpolkaa
open Go.RowKit
open Lib (hid)

theorem add_calls (b p q r s p' q' r' s' : Int) (hb : Sz b) (h1 : I64 p) (h2 : I64 q) (h3 : U64 r) (h4 : U64 s) (h1' : I64 p') (h2' : I64 q') (h3' : U64 r') (h4' : U64 s') (w : World) :
    Calls Try.prog 24 #[.agg #[.int .i64 p, .int .i64 q, .int .u64 r, .int .u64 s], .agg #[.int .i64 p', .int .i64 q', .int .u64 r', .int .u64 s'], .int .u64 b] w fun e w' =>
      e = .returned (.agg #[.int .i64 (addL b ⟨p, q, r, s⟩ ⟨p', q', r', s'⟩).mn, .int .i64 (addL b ⟨p, q, r, s⟩ ⟨p', q', r', s'⟩).mx, .int .u64 (addL b ⟨p, q, r, s⟩ ⟨p', q', r', s'⟩).um, .int .u64 (addL b ⟨p, q, r, s⟩ ⟨p', q', r', s'⟩).ux]) ∧ Below w.heap.size w w' := by
  cases hc : isC ⟨p, q, r, s⟩ with
  | false => exact add_bounds b p q r s p' q' r' s' hb h1 h2 h3 h4 h1' h2' h3' h4' (by rw [hc]; rfl) _ rfl w
  | true =>
    cases hc' : isC ⟨p', q', r', s'⟩ with
    | false => exact add_bounds b p q r s p' q' r' s' hb h1 h2 h3 h4 h1' h2' h3' h4' (by rw [hc, hc']; rfl) _ rfl w
    | true => exact add_consts b p q r s p' q' r' s' hb hc hc' _ rfl w

theorem bcell {W w1 : World} (hb : Below W.heap.size W w1) : (∀ b o, b < W.heap.size → w1.cell? ⟨b, o, none⟩ = W.cell? ⟨b, o, none⟩) ∧ (∀ b o, b < W.heap.size → w1.frozen? ⟨b, o, none⟩ = W.frozen? ⟨b, o, none⟩) :=
  ⟨fun b o h => hb.cell (p := ⟨b, o, none⟩) h, fun b o h => hb.frozen (p := ⟨b, o, none⟩) h⟩

theorem below_alloc {a w : World} (h : Below a.heap.size a w) (o : Obj) : Below a.heap.size a (w.alloc o) := h.alloc h.size o
theorem below_set {a w : World} (h : Below a.heap.size a w) {p : Addr} (hp : a.heap.size ≤ p.block) (u : Value) : Below a.heap.size a (w.setCell p u) := h.setCell hp u
theorem below_then {a w w' : World} (h : Below a.heap.size a w) (h' : Below w.heap.size w w') : Below a.heap.size a w' := h.trans (h'.mono h.size)

set_option maxHeartbeats 1600000 in
theorem ladd_calls (b p q r s p' q' r' s' : Int) (hb : Sz b) (h1 : I64 p) (h2 : I64 q) (h3 : U64 r) (h4 : U64 s) (h1' : I64 p') (h2' : I64 q') (h3' : U64 r') (h4' : U64 s') (L : Lim) (hL : addL b ⟨p, q, r, s⟩ ⟨p', q', r', s'⟩ = L) (w : World) :
    Calls Try.prog 19 #[.agg #[.int .i64 p, .int .i64 q, .int .u64 r, .int .u64 s], .agg #[.int .i64 p', .int .i64 q', .int .u64 r', .int .u64 s'], .int .u64 b] w fun e w' =>
      e = .returned (.agg #[.int .i64 L.mn, .int .i64 L.mx, .int .u64 L.um, .int .u64 L.ux]) ∧ Below w.heap.size w w' := by
  have c := add_calls b p q r s p' q' r' s' hb h1 h2 h3 h4 h1' h2' h3' h4'
  rw [hL] at c
  have C := hid c
  clear c hL hb h1 h2 h3 h4 h1' h2' h3' h4'
  obtain ⟨A, B, D, E⟩ := L
  go_enter Try.func19, Try.ntmps19
  go_wp2_with fail
  go_region_held3 (fun w' => w'.cell? ⟨w.heap.size, 0, none⟩ = some (.int .i64 p) ∧ w'.cell? ⟨w.heap.size, 1, none⟩ = some (.int .i64 q) ∧ w'.cell? ⟨w.heap.size, 2, none⟩ = some (.int .u64 r) ∧ w'.cell? ⟨w.heap.size, 3, none⟩ = some (.int .u64 s) ∧
      w'.cell? ⟨w.heap.size + 1, 0, none⟩ = some (.int .i64 p') ∧ w'.cell? ⟨w.heap.size + 1, 1, none⟩ = some (.int .i64 q') ∧ w'.cell? ⟨w.heap.size + 1, 2, none⟩ = some (.int .u64 r') ∧ w'.cell? ⟨w.heap.size + 1, 3, none⟩ = some (.int .u64 s')) (first | (simp [go_sem]; done) | (simp [go_sem, *]; done))
    (first
      | (go_at_call_of 23 (Value.agg #[Value.int IntKind.i64 p, Value.int IntKind.i64 q, Value.int IntKind.u64 r, Value.int IntKind.u64 s]); refine (in_calls _ _ _ _ _).mono ?_; rintro e w1 ⟨rfl, rfl⟩)
      | (go_at_call_of 23 (Value.agg #[Value.int IntKind.i64 p', Value.int IntKind.i64 q', Value.int IntKind.u64 r', Value.int IntKind.u64 s']); refine (in_calls _ _ _ _ _).mono ?_; rintro e w1 ⟨rfl, rfl⟩)
      | (go_at_call 24; refine (C.out _).mono ?_; rintro e w1 ⟨rfl, hb1⟩; obtain ⟨hc1, hf1⟩ := bcell hb1; have hz := hb1.size; have hz0 : w.heap.size < w1.heap.size := (by simp at hz; omega); have hz1 : w.heap.size + 1 < w1.heap.size := (by simp at hz; omega); have hz2 : w.heap.size + 1 + 1 < w1.heap.size := (by simp at hz; omega); clear hz)
      | (go_at_call 25; refine (out_calls _ _ _ _ _).mono ?_; rintro e w1 ⟨rfl, rfl⟩))
  go_wp2
  refine bodyPost_ret (v := .agg #[.int .i64 A, .int .i64 B, .int .u64 D, .int .u64 E]) (by simp [results, Try.results19, go_sem, hz1, hz2, hc1]) rfl ⟨rfl, ?_⟩
  refine below_alloc (below_alloc (below_set (below_set (below_set (below_set (below_then ?_ hb1) ?_ _) ?_ _) ?_ _) ?_ _) _) _
  · repeat (first | exact Below.refl _ _ | apply below_alloc | apply Below.drew)
  all_goals (simp; omega)

set_option maxHeartbeats 1600000 in
theorem iadd_calls (b p q r s p' q' r' s' : Int) (hb : Sz b) (h1 : I64 p) (h2 : I64 q) (h3 : U64 r) (h4 : U64 s) (h1' : I64 p') (h2' : I64 q') (h3' : U64 r') (h4' : U64 s') (L : Lim) (hL : addL b ⟨p, q, r, s⟩ ⟨p', q', r', s'⟩ = L) (w : World) :
    Calls Try.prog 11 #[.agg #[.int .i64 p, .int .i64 q, .int .u64 r, .int .u64 s], .agg #[.int .i64 p', .int .i64 q', .int .u64 r', .int .u64 s'], .int .u64 b] w fun e w' =>
      e = .returned (.agg #[.int .i64 L.mn, .int .i64 L.mx, .int .u64 L.um, .int .u64 L.ux]) ∧ Below w.heap.size w w' := by
  have C := hid (ladd_calls b p q r s p' q' r' s' hb h1 h2 h3 h4 h1' h2' h3' h4' L hL)
  clear hL hb h1 h2 h3 h4 h1' h2' h3' h4'
  obtain ⟨A, B, D, E⟩ := L
  go_enter Try.func11, Try.ntmps11
  go_wp2_with fail
  go_region_held3 (fun w' => w'.cell? ⟨w.heap.size, 0, none⟩ = some (.int .i64 p) ∧ w'.cell? ⟨w.heap.size, 1, none⟩ = some (.int .i64 q) ∧ w'.cell? ⟨w.heap.size, 2, none⟩ = some (.int .u64 r) ∧ w'.cell? ⟨w.heap.size, 3, none⟩ = some (.int .u64 s) ∧
      w'.cell? ⟨w.heap.size + 1, 0, none⟩ = some (.int .i64 p') ∧ w'.cell? ⟨w.heap.size + 1, 1, none⟩ = some (.int .i64 q') ∧ w'.cell? ⟨w.heap.size + 1, 2, none⟩ = some (.int .u64 r') ∧ w'.cell? ⟨w.heap.size + 1, 3, none⟩ = some (.int .u64 s')) (first | (simp [go_sem]; done) | (simp [go_sem, *]; done))
    (first
      | (go_at_call_of 18 (Value.agg #[Value.int IntKind.i64 p, Value.int IntKind.i64 q, Value.int IntKind.u64 r, Value.int IntKind.u64 s]); refine (iin_calls _ _ _ _ _).mono ?_; rintro e w1 ⟨rfl, rfl⟩)
      | (go_at_call_of 18 (Value.agg #[Value.int IntKind.i64 p', Value.int IntKind.i64 q', Value.int IntKind.u64 r', Value.int IntKind.u64 s']); refine (iin_calls _ _ _ _ _).mono ?_; rintro e w1 ⟨rfl, rfl⟩)
      | (go_at_call 19; refine (C.out _).mono ?_; rintro e w1 ⟨rfl, hb1⟩; obtain ⟨hc1, hf1⟩ := bcell hb1; have hz := hb1.size; have hz0 : w.heap.size < w1.heap.size := (by simp at hz; omega); have hz1 : w.heap.size + 1 < w1.heap.size := (by simp at hz; omega); have hz2 : w.heap.size + 1 + 1 < w1.heap.size := (by simp at hz; omega); clear hz)
      | (go_at_call 17; refine (iout_calls _ _ _ _ _).mono ?_; rintro e w1 ⟨rfl, rfl⟩))
  go_wp2
  refine bodyPost_ret (v := .agg #[.int .i64 A, .int .i64 B, .int .u64 D, .int .u64 E]) (by simp [results, Try.results11, go_sem, hz1, hz2, hc1]) rfl ⟨rfl, ?_⟩
  refine below_alloc (below_alloc (below_set (below_set (below_set (below_set (below_then ?_ hb1) ?_ _) ?_ _) ?_ _) ?_ _) _) _
  · repeat (first | exact Below.refl _ _ | apply below_alloc | apply Below.drew)
  all_goals (simp; omega)

theorem works_eq : addL 64 ⟨2, 2, 2, 2⟩ ⟨3, 3, 3, 3⟩ = ⟨5, 5, 5, 5⟩ := rfl

set_option maxRecDepth 100000 in
set_option maxHeartbeats 1600000 in
theorem works_calls (w : World) : Calls Try.prog 10 #[] w fun e w' => e = .returned (.bool true) ∧ Below w.heap.size w w' := by
  have hb : Sz 64 := .inr (.inr (.inr rfl))
  have c1 := one_calls 64 2 hb (by unfold U64; omega)
  simp only [show sgn 64 2 = 2 from rfl, show uns 64 2 = 2 from rfl] at c1
  have C1 := hid c1
  have c2 := one_calls 64 3 hb (by unfold U64; omega)
  simp only [show sgn 64 3 = 3 from rfl, show uns 64 3 = 3 from rfl] at c2
  have C2 := hid c2
  have c3 := one_calls 64 5 hb (by unfold U64; omega)
  simp only [show sgn 64 5 = 5 from rfl, show uns 64 5 = 5 from rfl] at c3
  have C3 := hid c3
  have C4 := hid (iadd_calls 64 2 2 2 2 3 3 3 3 hb (by unfold I64; omega) (by unfold I64; omega) (by unfold U64; omega) (by unfold U64; omega) (by unfold I64; omega) (by unfold I64; omega) (by unfold U64; omega) (by unfold U64; omega) _ works_eq)
  clear hb c1 c2 c3
  go_enter Try.func10, Try.ntmps10
  go_wp2_with (first
    | (go_at_call_of 16 (Value.int IntKind.u64 2); refine (C1.out _).mono ?_; rintro e w1 ⟨rfl, rfl⟩)
    | (go_at_call_of 16 (Value.int IntKind.u64 3); refine (C2.out _).mono ?_; rintro e w1 ⟨rfl, rfl⟩)
    | (go_at_call_of 16 (Value.int IntKind.u64 5); refine (C3.out _).mono ?_; rintro e w1 ⟨rfl, rfl⟩)
    | (go_at_call 11; refine (C4.out _).mono ?_; rintro e w1 ⟨rfl, hb1⟩))
  go_ret
  exact ⟨rfl, below_alloc (below_then (below_alloc (below_alloc (Below.refl _ _) _) _) hb1) _⟩

end Go.Proofs.Ytobfdjgikpolkaa
