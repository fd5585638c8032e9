/- Small words for the walks of the three laws: a block that holds a limit, and what keeps it.
   Conditions: each theorem's own. -/
import Derived.Test.YtobfdjgikpolkaaSum
import Derived.Test.YtobfdjgikpolkaaPure
namespace Go.Proofs.Ytobfdjgikpolkaa
open Go.RowKit
open Lib (hid)

/-- Block g of world w holds a limit. -/
structure At (w : World) (g : Nat) (l : Lim) : Prop where
  lt : g < w.heap.size
  c0 : w.cell? ⟨g, 0, none⟩ = some (.int .i64 l.mn)
  c1 : w.cell? ⟨g, 1, none⟩ = some (.int .i64 l.mx)
  c2 : w.cell? ⟨g, 2, none⟩ = some (.int .u64 l.um)
  c3 : w.cell? ⟨g, 3, none⟩ = some (.int .u64 l.ux)

theorem At.keep {w w' : World} {g : Nat} {l : Lim} (h : At w g l) (hb : Below w.heap.size w w') : At w' g l :=
  ⟨Nat.lt_of_lt_of_le h.lt hb.size, (hb.cell (p := ⟨g, 0, none⟩) h.lt).trans h.c0, (hb.cell (p := ⟨g, 1, none⟩) h.lt).trans h.c1, (hb.cell (p := ⟨g, 2, none⟩) h.lt).trans h.c2, (hb.cell (p := ⟨g, 3, none⟩) h.lt).trans h.c3⟩

theorem At.box (w : World) (l : Lim) : At (w.alloc (.cells #[.int .i64 l.mn, .int .i64 l.mx, .int .u64 l.um, .int .u64 l.ux] 24)) w.heap.size l :=
  ⟨by simp, World.cell?_alloc_new _ _ _ 0, World.cell?_alloc_new _ _ _ 1, World.cell?_alloc_new _ _ _ 2, World.cell?_alloc_new _ _ _ 3⟩

/-- What two limits' boxes leave. -/
def Two (w : World) (l m : Lim) (s t : Value) (w' : World) : Prop := ∃ g h : Nat, s = .pointer (some ⟨g, 0, none⟩) ∧ t = .pointer (some ⟨h, 0, none⟩) ∧ At w' g l ∧ At w' h m ∧ Below w.heap.size w w'
/-- What the guard leaves. -/
def Grd (w : World) (l m : Lim) (g h : Nat) (c : Bool) (s : Value) (w' : World) : Prop := s = .bool (!c) ∧ At w' g l ∧ At w' h m ∧ Below w.heap.size w w'

theorem meets_below (b x : Int) (l : Lim) (hb : Sz b) (hx : U64 x) (w : World) : Calls Try.prog 8 #[.agg #[.int .i64 l.mn, .int .i64 l.mx, .int .u64 l.um, .int .u64 l.ux], .int .u64 x, .int .u64 b] w fun e w' =>
    e = .returned (.bool (meets l x b)) ∧ Below w.heap.size w w' :=
  (meets_calls b x l.mn l.mx l.um l.ux hb hx w).mono fun e w' ⟨he, hw⟩ => ⟨he, by rw [hw]; exact below_alloc (Below.refl _ _) _⟩

theorem sz_bounds {b : Int} (hb : Sz b) : -9223372036854775808 ≤ least b ∧ great b ≤ 9223372036854775807 ∧ top b ≤ 18446744073709551615 := by
  unfold least great top
  rcases hb with rfl | rfl | rfl | rfl
  · rw [M8]; omega
  · rw [M16]; omega
  · rw [M32]; omega
  · rw [M64]; omega
theorem rng_I64 {b x : Int} (hb : Sz b) (h : least b ≤ x ∧ x ≤ great b) : I64 x := by
  have := sz_bounds hb; unfold I64; omega
theorem rng_U64 {b x : Int} (hb : Sz b) (h : 0 ≤ x ∧ x ≤ top b) : U64 x := by
  have := sz_bounds hb; unfold U64; omega

end Go.Proofs.Ytobfdjgikpolkaa
