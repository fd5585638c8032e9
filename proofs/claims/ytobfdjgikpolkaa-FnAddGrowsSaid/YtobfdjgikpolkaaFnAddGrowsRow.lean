/- With wider limits, the limit of a sum is as wide at least, for limits that some values meet: the law FnAddGrows returns true.
   Conditions: none; it holds of every input that can be read as data, and the input reads behind the call as it read before. -/
import Derived.Test.YtobfdjgikpolkaaRows
import Derived.Test.YtobfdjgikpolkaaGrows
import Derived.ProofKit
import Derived.OpenShut
import Derived.Lib.SmallJoins
namespace Go.Proofs.Ytobfdjgikpolkaa.lawFnAddGrows
open Go.ChangeShapes Go.WideShapes Go.ChangeAt Go.RowKit Go.Joins

theorem own : ownKnob Try.prog.godebug = none := by kernel_rfl
theorem cells24 : Try.prog.cellsOf 24 = 4 := by kernel_rfl

/-- A limit's reading. -/
theorem reads {H : Type} {enc : TypeId × Value → H} (a b c d : Int) (wa : (Lit.int .i64 a).wf = true) (wb : (Lit.int .i64 b).wf = true) (wc : (Lit.int .u64 c).wf = true) (wd : (Lit.int .u64 d).wf = true) (w : World) (sp : Nat → Bool) :
    DataW.Trod enc Try.prog w 0 sp true 24 (.agg #[.int .i64 a, .int .i64 b, .int .u64 c, .int .u64 d]) (.agg [.lit (.int .i64 a), .lit (.int .i64 b), .lit (.int .u64 c), .lit (.int .u64 d)]) [] :=
  shut_agg4 (y0 := (.lit (.int .i64 a), [])) (y1 := (.lit (.int .i64 b), [])) (y2 := (.lit (.int .u64 c), [])) (y3 := (.lit (.int .u64 d), [])) Try.underlying24 (by kernel_rfl) cells24
    ⟨1, by simp [DataW.trod, Try.underlying2, wa]⟩ ⟨1, by simp [DataW.trod, Try.underlying2, wb]⟩ ⟨1, by simp [DataW.trod, Try.underlying22, wc]⟩ ⟨1, by simp [DataW.trod, Try.underlying22, wd]⟩

theorem wf_U64 {x : Int} (h : (Lit.int .u64 x).wf = true) : U64 x := bounds_u64 h

set_option maxRecDepth 100000 in
theorem lifted (os : Os) (started : os.Started) (H : Type) (enc : TypeId × Value → H) :
    ReturnsInHanded {} Try.checked os 3 .any (Rows.fnAddGrowsSpec.pre6 enc Try.prog Try.f3 Rows.fnAddGrowsRow.domain false) (Rows.fnAddGrowsSpec.post enc Try.prog Try.f3 false true false false) := by
  refine returnsInHanded_of_change (C := Try.checked) own started (by kernel_rfl) Try.func3
    (ChangeSpec.witness6 (enc := enc) (C := Try.checked) false ⟨#[], #[.agg #[.int .i64 0, .int .i64 0, .int .u64 0, .int .u64 0], .agg #[.int .i64 0, .int .i64 0, .int .u64 0, .int .u64 0], .agg #[.int .i64 0, .int .i64 0, .int .u64 0, .int .u64 0], .int .u64 0, .int .u64 0, .int .i64 0], []⟩ 8 (by kernel_rfl) (by kernel_rfl) (by kernel_rfl) (by kernel_rfl)) ?_
  intro W base args ds gs before hval0 hW _ _
  have hval : ∀ (j : Nat) t v, Try.f3.params[j]? = some t → args[j]? = some v → Value.okWide Try.prog W .any base t v := hval0
  have hW' := hW
  obtain ⟨p, q, hA0, hV, rfl, _, _⟩ := hW
  have hA : DataW.TrodAll enc Try.prog W 0 (fun _ => true) true Try.f3.params.toList args.toList ds p := hA0
  rw [Try.params3] at hA hval
  obtain ⟨v0, vs0, d0, ds0, p0, q0, hargs, rfl, rfl, h0, r0⟩ := trodAll_cons hA
  obtain ⟨v1, vs1, d1, ds1, p1, q1, rfl, rfl, rfl, h1, r1⟩ := trodAll_cons r0
  obtain ⟨v2, vs2, d2, ds2, p2, q2, rfl, rfl, rfl, h2, r2⟩ := trodAll_cons r1
  obtain ⟨v3, vs3, d3, ds3, p3, q3, rfl, rfl, rfl, h3, r3⟩ := trodAll_cons r2
  obtain ⟨v4, vs4, d4, ds4, p4, q4, rfl, rfl, rfl, h4, r4⟩ := trodAll_cons r3
  obtain ⟨v5, vs5, d5, ds5, p5, q5, rfl, rfl, rfl, h5, r5⟩ := trodAll_cons r4
  obtain ⟨rfl, rfl, rfl⟩ := trodAll_nil r5
  obtain rfl : args = #[v0, v1, v2, v3, v4, v5] := by cases args; simp_all
  obtain ⟨rfl, rfl⟩ := trodVars_none hV
  obtain ⟨c00, c01, c02, c03, y00, y01, y02, y03, m0, rfl, rfl, rfl, hy00, hy01, hy02, hy03⟩ := open_agg4 Try.underlying24 (by kernel_rfl) cells24 (hval 0 24 v0 rfl rfl) h0
  obtain ⟨a00, e00, rfl, w00⟩ := DataW.trod_int Try.underlying2 hy00
  obtain ⟨a01, e01, rfl, w01⟩ := DataW.trod_int Try.underlying2 hy01
  obtain ⟨a02, e02, rfl, w02⟩ := DataW.trod_int Try.underlying22 hy02
  obtain ⟨a03, e03, rfl, w03⟩ := DataW.trod_int Try.underlying22 hy03
  simp at e00 e01 e02 e03
  subst e00 e01 e02 e03
  obtain ⟨c10, c11, c12, c13, y10, y11, y12, y13, m1, rfl, rfl, rfl, hy10, hy11, hy12, hy13⟩ := open_agg4 Try.underlying24 (by kernel_rfl) cells24 (hval 1 24 v1 rfl rfl) h1
  obtain ⟨a10, e10, rfl, w10⟩ := DataW.trod_int Try.underlying2 hy10
  obtain ⟨a11, e11, rfl, w11⟩ := DataW.trod_int Try.underlying2 hy11
  obtain ⟨a12, e12, rfl, w12⟩ := DataW.trod_int Try.underlying22 hy12
  obtain ⟨a13, e13, rfl, w13⟩ := DataW.trod_int Try.underlying22 hy13
  simp at e10 e11 e12 e13
  subst e10 e11 e12 e13
  obtain ⟨c20, c21, c22, c23, y20, y21, y22, y23, m2, rfl, rfl, rfl, hy20, hy21, hy22, hy23⟩ := open_agg4 Try.underlying24 (by kernel_rfl) cells24 (hval 2 24 v2 rfl rfl) h2
  obtain ⟨a20, e20, rfl, w20⟩ := DataW.trod_int Try.underlying2 hy20
  obtain ⟨a21, e21, rfl, w21⟩ := DataW.trod_int Try.underlying2 hy21
  obtain ⟨a22, e22, rfl, w22⟩ := DataW.trod_int Try.underlying22 hy22
  obtain ⟨a23, e23, rfl, w23⟩ := DataW.trod_int Try.underlying22 hy23
  simp at e20 e21 e22 e23
  subst e20 e21 e22 e23
  obtain ⟨x, rfl, rfl, rfl, wx⟩ := open_int Try.underlying22 (hval 3 22 v3 rfl rfl) h3
  obtain ⟨y, rfl, rfl, rfl, wy⟩ := open_int Try.underlying22 (hval 4 22 v4 rfl rfl) h4
  obtain ⟨n, rfl, rfl, rfl, wn⟩ := open_int Try.underlying3 (hval 5 3 v5 rfl rfl) h5
  clear hA0 hval0
  refine (grows_walk a00 a01 a02 a03 a10 a11 a12 a13 a20 a21 a22 a23 x y n (wf_U64 w02) (wf_U64 w03) (wf_U64 w12) (wf_U64 w13) (wf_U64 w22) (wf_U64 w23) (wf_U64 wx) (wf_U64 wy) W).mono fun e W' ⟨he, bel⟩ => ?_
  subst he
  exact ⟨_, rfl, _, _, _, [], _, [], hW', trodAll_mk1 (shut_bool Try.underlying4 _), (trodAll_cons_mk (reads a00 a01 a02 a03 w00 w01 w02 w03 _ _) (trodAll_cons_mk (reads a10 a11 a12 a13 w10 w11 w12 w13 _ _) (trodAll_cons_mk (reads a20 a21 a22 a23 w20 w21 w22 w23 _ _) (trodAll_cons_mk (shut_int Try.underlying22 wx) (trodAll_cons_mk (shut_int Try.underlying22 wy) (trodAll_cons_mk (shut_int Try.underlying3 wn) trodAll_mk0)))))), rfl, bel.frame _, fun h => by cases h⟩

theorem over : Rows.fnAddGrowsRow.holds Try.pinned (OpenSpec.ofChange Rows.fnAddGrowsSpec) :=
  OpenClaim.holds_of_wide 3 Try.f3 rfl rfl rfl rfl rfl rfl rfl ⟨rfl, rfl, rfl, rfl, rfl⟩ rfl rfl rfl rfl rfl (by kernel_rfl) Try.func3 (by kernel_rfl)
    (of_decide_eq_true (by kernel_rfl)) (by unfold Func.isWrapper; first | (rw [if_pos (by decide +kernel)]; kernel_rfl) | (rw [if_neg (by decide +kernel)]; exact ⟨rfl, rfl⟩))
    (fun os started H enc _ => lifted os started H enc)

/-- The given statement. -/
theorem proved : Rows.FnAddGrowsSaid := over
#print axioms proved
end Go.Proofs.Ytobfdjgikpolkaa.lawFnAddGrows
