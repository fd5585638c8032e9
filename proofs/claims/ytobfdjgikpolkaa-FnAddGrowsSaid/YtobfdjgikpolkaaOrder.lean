/- A region that draws its order, by one relation over what has come up: each operation is shown once, whatever came up before it; and what three new blocks hold meanwhile.
   Conditions: each theorem's own. -/
import Derived.Test.YtobfdjgikpolkaaLawKit
import Derived.RegionTactic
namespace Go.Proofs.Ytobfdjgikpolkaa
open Go.RowKit

section
variable {P : Program} {ops : Array Oper} {Q : Exit → Act → World → Prop}

/-- Nothing is left where all is listed. -/
theorem ready_full {l : Array Bool} (h : l.toList.countP (fun b => !b) = 0) : Region.ready .any ops l = [] := by
  cases hr : Region.ready .any ops l with
  | nil => rfl
  | cons i rs =>
    exfalso
    have hi : i ∈ Region.ready .any ops l := by rw [hr]; exact List.mem_cons_self
    have h0 := (mem_ready.1 hi).1
    rw [List.countP_eq_zero] at h
    by_cases hlt : i < l.size
    · have h1 := h (l[i]) (by simp)
      simp [hlt] at h0
      simp [h0] at h1
    · simp [Array.getElem?_eq_none (Nat.le_of_not_lt hlt)] at h0

theorem count_set {l : Array Bool} {i : Nat} (h : l.getD i true = false) : (l.setIfInBounds i true).toList.countP (fun b => !b) + 1 = l.toList.countP (fun b => !b) := by
  have hlt : i < l.size := by
    by_cases hlt : i < l.size
    · exact hlt
    · simp [Array.getElem?_eq_none (Nat.le_of_not_lt hlt)] at h
  have hl : l.toList[i]'(by simpa using hlt) = false := by simpa [hlt] using h
  rw [Array.toList_setIfInBounds, List.countP_set (by simpa using hlt), hl]
  have hp : 0 < l.toList.countP (fun b => !b) := List.countP_pos_iff.2 ⟨false, by rw [← hl]; exact List.getElem_mem _, rfl⟩
  rw [if_pos (by rfl), if_neg (by simp)]
  omega

theorem any_inv (I : Array Bool → Act → World → Prop) (hdone : ∀ l a w, I l a w → Region.ready .any ops l = [] → Q .normal a w)
    (hstep : ∀ l a w i, I l a w → i ∈ Region.ready .any ops l → wpOp P ops Q i (fun a' w' => I (l.setIfInBounds i true) a' w') a w) :
    ∀ (fuel : Nat) (l : Array Bool) (a : Act) (w : World), I l a w → l.toList.countP (fun b => !b) ≤ fuel → wpAny P .any ops Q fuel l a w
  | 0, l, a, w, h, hc => ⟨ready_full (by omega), hdone l a w h (ready_full (by omega))⟩
  | fuel + 1, l, a, w, h, hc => ⟨fun hr => hdone l a w h hr, fun i hi => by
      have h0 := count_set (mem_ready.1 hi).1
      exact wpOp_mono (fun a' w' h' => any_inv I hdone hstep fuel _ a' w' h' (by omega)) (hstep l a w i h hi)⟩

/-- What may come up has all behind it that it waits for. -/
theorem ready_dep {l : Array Bool} {i : Nat} {o : Oper} (e : Edge) (hi : i ∈ Region.ready .any ops l) (ho : ops[i]? = some o) (he : e ∈ o.after) (hb : Region.binds .any e = true) : l.getD e.on false = true := by
  obtain ⟨_, o', ho', hall⟩ := mem_ready.1 hi
  rw [ho] at ho'
  obtain rfl := Option.some.inj ho'
  exact hall e he hb
/-- Where nothing may come up, whatever has all behind it that it waits for has come up. -/
theorem ready_not {l : Array Bool} {i : Nat} {o : Oper} (hr : Region.ready .any ops l = []) (ho : ops[i]? = some o) (hall : (o.after.toList.all fun e => l.getD e.on false) = true) : l.getD i true = true := by
  cases h : l.getD i true with
  | true => rfl
  | false =>
    have : i ∈ Region.ready .any ops l := mem_ready.2 ⟨h, o, ho, fun e he _ => List.all_eq_true.1 hall e (Array.mem_def.1 he)⟩
    rw [hr] at this
    cases this

/-- A region, by a relation I over what is listed, the frame and the world. -/
theorem region_inv {id : Nat} {a : Act} {w : World} (hm : P.follows .mixedOrders = true) (I : Array Bool → Act → World → Prop) (h0 : I (Array.replicate ops.size false) a w.drew)
    (hdone : ∀ l a w, I l a w → Region.ready .any ops l = [] → Q .normal a w)
    (hstep : ∀ l a w i, I l a w → i ∈ Region.ready .any ops l → wpOp P ops Q i (fun a' w' => I (l.setIfInBounds i true) a' w') a w) : (Code.region id ops true).wp P Q a w :=
  wp_region_any hm (any_inv I hdone hstep _ _ _ _ h0 (by
    rw [Array.toList_replicate, List.countP_replicate]
    split <;> omega))
end

/-- Block g holds a limit, and nothing else. -/
def Blk (w : World) (g : Nat) (l : Lim) : Prop := w.heap[g]? = some (.cells #[.int .i64 l.mn, .int .i64 l.mx, .int .u64 l.um, .int .u64 l.ux] 24 (0, 0))

theorem Blk.lt {w : World} {g : Nat} {l : Lim} (h : Blk w g l) : g < w.heap.size := (Array.getElem?_eq_some_iff.1 h).1
theorem Blk.keep {w w' : World} {g : Nat} {l : Lim} (h : Blk w g l) (hb : Below w.heap.size w w') : Blk w' g l := (hb.block g h.lt).trans h
theorem Blk.at {w : World} {g : Nat} {l : Lim} (h : Blk w g l) : At w g l := by
  unfold Blk at h
  exact ⟨Blk.lt h, by simp [World.cell?, h], by simp [World.cell?, h], by simp [World.cell?, h], by simp [World.cell?, h]⟩
theorem Blk.free {w : World} {g : Nat} {l : Lim} (h : Blk w g l) (o : Nat) : w.frozen? ⟨g, o, none⟩ = false := by
  unfold Blk at h
  simp [World.frozen?, h]

/-- A limit's four cells stored into its block. -/
def put4 (w : World) (g : Nat) (l : Lim) : World :=
  (((w.setCell ⟨g, 0, none⟩ (.int .i64 l.mn)).setCell ⟨g, 1, none⟩ (.int .i64 l.mx)).setCell ⟨g, 2, none⟩ (.int .u64 l.um)).setCell ⟨g, 3, none⟩ (.int .u64 l.ux)

theorem put4_size (w : World) (g : Nat) (l : Lim) : (put4 w g l).heap.size = w.heap.size := by simp [put4, World.setCell]
theorem put4_other (w : World) (g : Nat) (l : Lim) {k : Nat} (h : k ≠ g) : (put4 w g l).heap[k]? = w.heap[k]? := by
  unfold put4
  rw [Below.heap_setCell _ _ _ _ h, Below.heap_setCell _ _ _ _ h, Below.heap_setCell _ _ _ _ h, Below.heap_setCell _ _ _ _ h]
theorem put4_blk {w : World} {g : Nat} {l0 : Lim} (l : Lim) (h : Blk w g l0) : Blk (put4 w g l) g l := by
  unfold Blk at *
  simp [put4, World.setCell, Array.getElem?_modify, h]
theorem put4_blk_other {w : World} {g k : Nat} {l0 l : Lim} (h : Blk w k l0) (hne : k ≠ g) : Blk (put4 w g l) k l0 := (put4_other w g l hne).trans h
theorem put4_at_other {w : World} {g k : Nat} {l0 l : Lim} (h : At w k l0) (hne : k ≠ g) : At (put4 w g l) k l0 :=
  ⟨by rw [put4_size]; exact h.lt, (World.cell?_of_block (a := ⟨k, 0, none⟩) (put4_other w g l hne)).trans h.c0, (World.cell?_of_block (a := ⟨k, 1, none⟩) (put4_other w g l hne)).trans h.c1,
    (World.cell?_of_block (a := ⟨k, 2, none⟩) (put4_other w g l hne)).trans h.c2, (World.cell?_of_block (a := ⟨k, 3, none⟩) (put4_other w g l hne)).trans h.c3⟩
theorem put4_below {a w : World} (h : Below a.heap.size a w) {g : Nat} (hg : a.heap.size ≤ g) (l : Lim) : Below a.heap.size a (put4 w g l) :=
  below_set (below_set (below_set (below_set h hg _) hg _) hg _) hg _

/-- The zero limit, as a new variable holds it. -/
def Z : Lim := ⟨0, 0, 0, 0⟩
theorem new_blk (w : World) : Blk (w.alloc (.cells #[.int .i64 0, .int .i64 0, .int .u64 0, .int .u64 0] 24)) w.heap.size Z := by
  show (w.heap.push _)[w.heap.size]? = _
  rw [Array.getElem?_push_size]
  rfl

/-- A variable of the call's own: made or not, and what it holds. -/
def Own (w : World) (n : Nat) (on : Bool) (g : Nat) (l : Lim) : Prop := on = true → Blk w g l ∧ n ≤ g
theorem Own.keep {w w' : World} {n g : Nat} {on : Bool} {l : Lim} (h : Own w n on g l) (hb : Below w.heap.size w w') : Own w' n on g l := fun e => ⟨(h e).1.keep hb, (h e).2⟩
theorem Own.put {w : World} {n g k : Nat} {on : Bool} {l m : Lim} (h : Own w n on g l) (hne : on = true → g ≠ k) : Own (put4 w k m) n on g l := fun e => ⟨put4_blk_other (h e).1 (hne e), (h e).2⟩
theorem Own.ne_new {w : World} {n g : Nat} {on : Bool} {l : Lim} (h : Own w n on g l) : on = true → g ≠ w.heap.size := fun e => Nat.ne_of_lt (h e).1.lt

/-- What holds of the world while three variables are made and filled: the boxes of the arguments, the variables, and that nothing older has turned. -/
structure Rel (w0 : World) (L M K P Q R : Lim) (b1 b2 b3 s1 s2 s3 : Bool) (g1 g2 g3 : Nat) (w : World) : Prop where
  below : Below w0.heap.size w0 w
  x1 : At w w0.heap.size L
  x2 : At w (w0.heap.size + 1) M
  x3 : At w (w0.heap.size + 1 + 1) K
  o1 : Own w (w0.heap.size + 3) b1 g1 (cond s1 P Z)
  o2 : Own w (w0.heap.size + 3) b2 g2 (cond s2 Q Z)
  o3 : Own w (w0.heap.size + 3) b3 g3 (cond s3 R Z)
  d12 : b1 = true → b2 = true → g1 ≠ g2
  d13 : b1 = true → b3 = true → g1 ≠ g3
  d23 : b2 = true → b3 = true → g2 ≠ g3

section
variable {w0 w w' : World} {L M K P Q R : Lim} {b1 b2 b3 s1 s2 s3 : Bool} {g1 g2 g3 : Nat}

theorem Rel.keep (h : Rel w0 L M K P Q R b1 b2 b3 s1 s2 s3 g1 g2 g3 w) (hb : Below w.heap.size w w') : Rel w0 L M K P Q R b1 b2 b3 s1 s2 s3 g1 g2 g3 w' :=
  ⟨below_then h.below hb, h.x1.keep hb, h.x2.keep hb, h.x3.keep hb, h.o1.keep hb, h.o2.keep hb, h.o3.keep hb, h.d12, h.d13, h.d23⟩

theorem Rel.size3 (h : Rel w0 L M K P Q R b1 b2 b3 s1 s2 s3 g1 g2 g3 w) : w0.heap.size + 3 ≤ w.heap.size := h.x3.lt

theorem Rel.make1 (h : Rel w0 L M K P Q R false b2 b3 false s2 s3 g1 g2 g3 w) :
    Rel w0 L M K P Q R true b2 b3 false s2 s3 w.heap.size g2 g3 (w.alloc (.cells #[.int .i64 0, .int .i64 0, .int .u64 0, .int .u64 0] 24)) := by
  have k := h.keep (below_alloc (Below.refl w.heap.size w) (.cells #[.int .i64 0, .int .i64 0, .int .u64 0, .int .u64 0] 24))
  exact ⟨k.below, k.x1, k.x2, k.x3, fun _ => ⟨new_blk w, h.size3⟩, k.o2, k.o3, fun _ e => (h.o2.ne_new e).symm, fun _ e => (h.o3.ne_new e).symm, k.d23⟩
theorem Rel.make2 (h : Rel w0 L M K P Q R b1 false b3 s1 false s3 g1 g2 g3 w) :
    Rel w0 L M K P Q R b1 true b3 s1 false s3 g1 w.heap.size g3 (w.alloc (.cells #[.int .i64 0, .int .i64 0, .int .u64 0, .int .u64 0] 24)) := by
  have k := h.keep (below_alloc (Below.refl w.heap.size w) (.cells #[.int .i64 0, .int .i64 0, .int .u64 0, .int .u64 0] 24))
  exact ⟨k.below, k.x1, k.x2, k.x3, k.o1, fun _ => ⟨new_blk w, h.size3⟩, k.o3, fun e _ => h.o1.ne_new e, k.d13, fun _ e => (h.o3.ne_new e).symm⟩
theorem Rel.make3 (h : Rel w0 L M K P Q R b1 b2 false s1 s2 false g1 g2 g3 w) :
    Rel w0 L M K P Q R b1 b2 true s1 s2 false g1 g2 w.heap.size (w.alloc (.cells #[.int .i64 0, .int .i64 0, .int .u64 0, .int .u64 0] 24)) := by
  have k := h.keep (below_alloc (Below.refl w.heap.size w) (.cells #[.int .i64 0, .int .i64 0, .int .u64 0, .int .u64 0] 24))
  exact ⟨k.below, k.x1, k.x2, k.x3, k.o1, k.o2, fun _ => ⟨new_blk w, h.size3⟩, k.d12, fun e _ => h.o1.ne_new e, fun e _ => h.o2.ne_new e⟩

theorem Rel.fill1 (h : Rel w0 L M K P Q R true b2 b3 false s2 s3 g1 g2 g3 w) : Rel w0 L M K P Q R true b2 b3 true s2 s3 g1 g2 g3 (put4 w g1 P) := by
  obtain ⟨hk, hg⟩ := h.o1 rfl
  exact ⟨put4_below h.below (by omega) _, put4_at_other h.x1 (by omega), put4_at_other h.x2 (by omega), put4_at_other h.x3 (by omega), fun _ => ⟨put4_blk P hk, hg⟩,
    h.o2.put (fun e => (h.d12 rfl e).symm), h.o3.put (fun e => (h.d13 rfl e).symm), h.d12, h.d13, h.d23⟩
theorem Rel.fill2 (h : Rel w0 L M K P Q R b1 true b3 s1 false s3 g1 g2 g3 w) : Rel w0 L M K P Q R b1 true b3 s1 true s3 g1 g2 g3 (put4 w g2 Q) := by
  obtain ⟨hk, hg⟩ := h.o2 rfl
  exact ⟨put4_below h.below (by omega) _, put4_at_other h.x1 (by omega), put4_at_other h.x2 (by omega), put4_at_other h.x3 (by omega), h.o1.put (fun e => h.d12 e rfl), fun _ => ⟨put4_blk Q hk, hg⟩,
    h.o3.put (fun e => (h.d23 rfl e).symm), h.d12, h.d13, h.d23⟩
theorem Rel.fill3 (h : Rel w0 L M K P Q R b1 b2 true s1 s2 false g1 g2 g3 w) : Rel w0 L M K P Q R b1 b2 true s1 s2 true g1 g2 g3 (put4 w g3 R) := by
  obtain ⟨hk, hg⟩ := h.o3 rfl
  exact ⟨put4_below h.below (by omega) _, put4_at_other h.x1 (by omega), put4_at_other h.x2 (by omega), put4_at_other h.x3 (by omega), h.o1.put (fun e => h.d13 e rfl),
    h.o2.put (fun e => h.d23 e rfl), fun _ => ⟨put4_blk R hk, hg⟩, h.d12, h.d13, h.d23⟩
end

end Go.Proofs.Ytobfdjgikpolkaa
