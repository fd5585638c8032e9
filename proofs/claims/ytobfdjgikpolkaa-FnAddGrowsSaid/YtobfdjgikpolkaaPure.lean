/- The plain laws of the sum of two limits, over Int alone: it is sound, tight where the ends do not go round, and grows with its first limit.
   Conditions: the size is one of the four, the bounds are numbers of that size, the limits are met by some values. -/
import Derived.Test.YtobfdjgikpolkaaPlain
namespace Go.Proofs.Ytobfdjgikpolkaa

/-- A limit of b bits. -/
structure Rng (b : Int) (l : Lim) : Prop where
  mn : least b ≤ l.mn ∧ l.mn ≤ great b
  mx : least b ≤ l.mx ∧ l.mx ≤ great b
  um : 0 ≤ l.um ∧ l.um ≤ top b
  ux : 0 ≤ l.ux ∧ l.ux ≤ top b

theorem sgn_rng {b : Int} (hb : Sz b) (x : Int) : least b ≤ sgn b x ∧ sgn b x ≤ great b := by
  unfold least great sgn
  rcases hb with rfl | rfl | rfl | rfl
  · rw [M8]; split <;> omega
  · rw [M16]; split <;> omega
  · rw [M32]; split <;> omega
  · rw [M64]; split <;> omega
theorem uns_rng {b : Int} (hb : Sz b) (x : Int) : 0 ≤ uns b x ∧ uns b x ≤ top b := by
  unfold top uns
  rcases hb with rfl | rfl | rfl | rfl
  · rw [M8]; omega
  · rw [M16]; omega
  · rw [M32]; omega
  · rw [M64]; omega
theorem fit_rng {b : Int} (hb : Sz b) (l : Lim) : Rng b (fit b l) := ⟨sgn_rng hb _, sgn_rng hb _, uns_rng hb _, uns_rng hb _⟩

theorem sgn_mod {b : Int} (hb : Sz b) (x : Int) : sgn b x % M b = x % M b := by
  unfold sgn
  rcases hb with rfl | rfl | rfl | rfl
  · rw [M8]; split <;> omega
  · rw [M16]; split <;> omega
  · rw [M32]; split <;> omega
  · rw [M64]; split <;> omega
theorem cvU_mod {b : Int} (hb : Sz b) (x : Int) : cvU b x % M b = x % M b := by
  unfold cvU
  rw [← sgn_mod hb x]
  rcases hb with rfl | rfl | rfl | rfl
  · rw [M8]; omega
  · rw [M16]; omega
  · rw [M32]; omega
  · rw [M64]; omega
/-- A number of b bits is the signed number of whatever has its low bits. -/
theorem sgn_eq {b z x : Int} (hb : Sz b) (hz : least b ≤ z ∧ z ≤ great b) (h : z % M b = x % M b) : sgn b x = z := by
  unfold least great at hz
  unfold sgn
  rcases hb with rfl | rfl | rfl | rfl
  · rw [M8] at *; split <;> omega
  · rw [M16] at *; split <;> omega
  · rw [M32] at *; split <;> omega
  · rw [M64] at *; split <;> omega
theorem uns_eq {b z x : Int} (hb : Sz b) (hz : 0 ≤ z ∧ z ≤ top b) (h : z % M b = x % M b) : x % M b = z := by
  unfold top at hz
  rcases hb with rfl | rfl | rfl | rfl
  · rw [M8] at *; omega
  · rw [M16] at *; omega
  · rw [M32] at *; omega
  · rw [M64] at *; omega
theorem mod_add {b x y u v : Int} (h : x % M b = u % M b) (h' : y % M b = v % M b) : (x + y) % M b = (u + v) % M b := by
  rw [Int.add_emod, h, h', ← Int.add_emod]

theorem meets_of {l : Lim} {x b : Int} (h : meets l x b = true) : l.mn ≤ sgn b x ∧ sgn b x ≤ l.mx ∧ l.um ≤ uns b x ∧ uns b x ≤ l.ux := of_decide_eq_true h
theorem inside_of {l m : Lim} (h : inside l m = true) : m.mn ≤ l.mn ∧ l.mx ≤ m.mx ∧ m.um ≤ l.um ∧ l.ux ≤ m.ux := of_decide_eq_true h
theorem isC_of {l : Lim} (h : isC l = true) : l.mn = l.mx ∨ l.um = l.ux := of_decide_eq_true h

/-- The one value of a limit that x meets has the low bits of x. -/
theorem valC_mod {b x : Int} {l : Lim} (hb : Sz b) (hc : isC l = true) (h : meets l x b = true) : valC b l % M b = x % M b := by
  have hm := meets_of h
  unfold valC
  by_cases e : l.mn = l.mx
  · rw [if_pos e, cvU_mod hb, ← sgn_mod hb x]
    have : l.mn = sgn b x := by omega
    rw [this]
  · have e' : l.um = l.ux := (isC_of hc).resolve_left e
    rw [if_neg e, if_pos e']
    have : l.um = uns b x := by omega
    rw [this]
    unfold uns
    exact Int.emod_emod_of_dvd _ (Int.dvd_refl _)

/-- Where both limits have one value, the sum's limit is that of one value. -/
theorem addL_one {b x y : Int} {l m : Lim} (hb : Sz b) (hl : isC l = true) (hm : isC m = true) (hx : meets l x b = true) (hy : meets m y b = true) :
    addL b l m = ⟨sgn b (x + y), sgn b (x + y), (x + y) % M b, (x + y) % M b⟩ := by
  unfold addL
  rw [if_pos (by rw [hl, hm]; rfl)]
  have e : (valC b l + valC b m) % M b = (x + y) % M b := mod_add (valC_mod hb hl hx) (valC_mod hb hm hy)
  have e2 : sgn b ((x + y) % M b) = sgn b (x + y) := by
    unfold sgn
    rw [Int.emod_emod_of_dvd _ (Int.dvd_refl _)]
  simp only [e, e2]

theorem fitsS_iff {b x : Int} : fitsS b x = true ↔ least b ≤ x ∧ x ≤ great b := decide_eq_true_iff
theorem fitsU_iff {b x : Int} : fitsU b x = true ↔ 0 ≤ x ∧ x ≤ top b := decide_eq_true_iff

theorem sumFits_iff {b x y : Int} (hx : least b ≤ x ∧ x ≤ great b) : sumFits x y b = true ↔ least b ≤ x + y ∧ x + y ≤ great b := by
  unfold sumFits
  split
  · rw [decide_eq_true_iff]; omega
  · rw [decide_eq_true_iff]; omega
theorem sumFitsU_iff {b x y : Int} (hx : 0 ≤ x ∧ x ≤ top b) (hy : 0 ≤ y ∧ y ≤ top b) : sumFitsU x y b = true ↔ 0 ≤ x + y ∧ x + y ≤ top b := by
  unfold sumFitsU
  rw [decide_eq_true_iff]; omega

/-- The sum of x and y meets the sum's limit. -/
theorem addL_sound {b x y : Int} {l m : Lim} (hb : Sz b) (hl : Rng b l) (hm : Rng b m) (hx : meets l x b = true) (hy : meets m y b = true) :
    (addL b l m).mn ≤ sgn b (x + y) ∧ sgn b (x + y) ≤ (addL b l m).mx ∧ (addL b l m).um ≤ (x + y) % M b ∧ (x + y) % M b ≤ (addL b l m).ux := by
  by_cases hc : (isC l && isC m) = true
  · have h1 : isC l = true := by cases h : isC l <;> simp_all
    have h2 : isC m = true := by cases h : isC m <;> simp_all
    rw [addL_one hb h1 h2 hx hy]
    exact ⟨Int.le_refl _, Int.le_refl _, Int.le_refl _, Int.le_refl _⟩
  · unfold addL
    rw [if_neg hc]
    have ml := meets_of hx
    have mm := meets_of hy
    have r1 := sgn_rng hb (x + y)
    have r2 := uns_rng hb (x + y)
    have g1 : -9223372036854775808 ≤ least b ∧ great b ≤ 9223372036854775807 ∧ top b ≤ 18446744073709551615 := by
      unfold least great top
      rcases hb with rfl | rfl | rfl | rfl
      · rw [M8]; omega
      · rw [M16]; omega
      · rw [M32]; omega
      · rw [M64]; omega
    have s1 : (fitsS b (l.mn + m.mn) && fitsS b (l.mx + m.mx)) = true → sgn b (x + y) = sgn b x + sgn b y := fun h => by
      rw [Bool.and_eq_true] at h
      have h3 := fitsS_iff.1 h.1
      have h4 := fitsS_iff.1 h.2
      exact sgn_eq hb (by omega) (mod_add (sgn_mod hb x) (sgn_mod hb y))
    have s2 : (fitsU b (l.um + m.um) && fitsU b (l.ux + m.ux)) = true → (x + y) % M b = uns b x + uns b y := fun h => by
      rw [Bool.and_eq_true] at h
      have h3 := fitsU_iff.1 h.1
      have h4 := fitsU_iff.1 h.2
      refine uns_eq hb (by omega) (mod_add ?_ ?_)
      · unfold uns; exact Int.emod_emod_of_dvd _ (Int.dvd_refl _)
      · unfold uns; exact Int.emod_emod_of_dvd _ (Int.dvd_refl _)
    unfold uns at r2
    generalize (fitsS b (l.mn + m.mn) && fitsS b (l.mx + m.mx)) = f at s1
    generalize (fitsU b (l.um + m.um) && fitsU b (l.ux + m.ux)) = g at s2
    cases f <;> cases g
    · refine ⟨?_, ?_, ?_, ?_⟩ <;> (simp; omega)
    · have := s2 rfl
      refine ⟨?_, ?_, ?_, ?_⟩ <;> (simp; omega)
    · have := s1 rfl
      refine ⟨?_, ?_, ?_, ?_⟩ <;> (simp; omega)
    · have := s1 rfl
      have := s2 rfl
      refine ⟨?_, ?_, ?_, ?_⟩ <;> (simp; omega)

theorem tight_signed {b x y : Int} {l m : Lim} (hb : Sz b) (hl : Rng b l) (hx : meets l x b = true) (hy : meets m y b = true)
    (h1 : sumFits l.mn m.mn b = true) (h2 : sumFits l.mx m.mx b = true) : l.mn + m.mn ≤ (addL b l m).mn ∧ (addL b l m).mx ≤ l.mx + m.mx := by
  have f1 := (sumFits_iff hl.mn).1 h1
  have f2 := (sumFits_iff hl.mx).1 h2
  by_cases hc : (isC l && isC m) = true
  · have c1 : isC l = true := by cases h : isC l <;> simp_all
    have c2 : isC m = true := by cases h : isC m <;> simp_all
    rw [addL_one hb c1 c2 hx hy]
    have ml := meets_of hx
    have mm := meets_of hy
    have e : sgn b (x + y) = sgn b x + sgn b y := sgn_eq hb (by omega) (mod_add (sgn_mod hb x) (sgn_mod hb y))
    simp only [e]
    omega
  · unfold addL
    rw [if_neg hc]
    have e : (fitsS b (l.mn + m.mn) && fitsS b (l.mx + m.mx)) = true := by rw [fitsS_iff.2 f1, fitsS_iff.2 f2]; rfl
    simp only [e, if_true]
    omega

theorem tight_unsigned {b x y : Int} {l m : Lim} (hb : Sz b) (hl : Rng b l) (hm : Rng b m) (hx : meets l x b = true) (hy : meets m y b = true)
    (h1 : sumFitsU l.um m.um b = true) (h2 : sumFitsU l.ux m.ux b = true) : l.um + m.um ≤ (addL b l m).um ∧ (addL b l m).ux ≤ l.ux + m.ux := by
  have f1 := (sumFitsU_iff hl.um hm.um).1 h1
  have f2 := (sumFitsU_iff hl.ux hm.ux).1 h2
  by_cases hc : (isC l && isC m) = true
  · have c1 : isC l = true := by cases h : isC l <;> simp_all
    have c2 : isC m = true := by cases h : isC m <;> simp_all
    rw [addL_one hb c1 c2 hx hy]
    have ml := meets_of hx
    have mm := meets_of hy
    have e : (x + y) % M b = uns b x + uns b y := by
      refine uns_eq hb (by omega) (mod_add ?_ ?_)
      · unfold uns; exact Int.emod_emod_of_dvd _ (Int.dvd_refl _)
      · unfold uns; exact Int.emod_emod_of_dvd _ (Int.dvd_refl _)
    simp only [e]
    omega
  · unfold addL
    rw [if_neg hc]
    have e : (fitsU b (l.um + m.um) && fitsU b (l.ux + m.ux)) = true := by rw [fitsU_iff.2 f1, fitsU_iff.2 f2]; rfl
    simp only [e, if_true]
    omega

theorem grows {b x y : Int} {l m k : Lim} (hb : Sz b) (hl : Rng b l) (hm : Rng b m) (hk : Rng b k) (hx : meets l x b = true) (hi : inside l m = true) (hy : meets k y b = true) :
    inside (addL b l k) (addL b m k) = true := by
  have ml := meets_of hx
  have mk := meets_of hy
  have il := inside_of hi
  have hx' : meets m x b = true := decide_eq_true (by omega)
  have snd := addL_sound hb hm hk hx' hy
  refine decide_eq_true ?_
  by_cases hc : (isC l && isC k) = true
  · have c1 : isC l = true := by cases h : isC l <;> simp_all
    have c2 : isC k = true := by cases h : isC k <;> simp_all
    rw [addL_one hb c1 c2 hx hy]
    exact snd
  · have hc' : ¬ (isC m && isC k) = true := fun h => hc (by
      rw [Bool.and_eq_true] at h ⊢
      refine ⟨decide_eq_true ?_, h.2⟩
      have := isC_of h.1
      omega)
    unfold addL
    rw [if_neg hc, if_neg hc']
    have s1 : (fitsS b (m.mn + k.mn) && fitsS b (m.mx + k.mx)) = true → (fitsS b (l.mn + k.mn) && fitsS b (l.mx + k.mx)) = true := fun h => by
      rw [Bool.and_eq_true] at h ⊢
      have h3 := fitsS_iff.1 h.1
      have h4 := fitsS_iff.1 h.2
      exact ⟨fitsS_iff.2 (by omega), fitsS_iff.2 (by omega)⟩
    have s2 : (fitsU b (m.um + k.um) && fitsU b (m.ux + k.ux)) = true → (fitsU b (l.um + k.um) && fitsU b (l.ux + k.ux)) = true := fun h => by
      rw [Bool.and_eq_true] at h ⊢
      have h3 := fitsU_iff.1 h.1
      have h4 := fitsU_iff.1 h.2
      exact ⟨fitsU_iff.2 (by omega), fitsU_iff.2 (by omega)⟩
    have g1 : -9223372036854775808 ≤ least b ∧ great b ≤ 9223372036854775807 ∧ top b ≤ 18446744073709551615 := by
      unfold least great top
      rcases hb with rfl | rfl | rfl | rfl
      · rw [M8]; omega
      · rw [M16]; omega
      · rw [M32]; omega
      · rw [M64]; omega
    have t1 : (fitsS b (l.mn + k.mn) && fitsS b (l.mx + k.mx)) = true → -9223372036854775808 ≤ l.mn + k.mn ∧ l.mx + k.mx ≤ 9223372036854775807 := fun h => by
      rw [Bool.and_eq_true] at h
      have h3 := fitsS_iff.1 h.1
      have h4 := fitsS_iff.1 h.2
      omega
    have t2 : (fitsU b (l.um + k.um) && fitsU b (l.ux + k.ux)) = true → 0 ≤ l.um + k.um ∧ l.ux + k.ux ≤ 18446744073709551615 := fun h => by
      rw [Bool.and_eq_true] at h
      have h3 := fitsU_iff.1 h.1
      have h4 := fitsU_iff.1 h.2
      omega
    generalize (fitsS b (m.mn + k.mn) && fitsS b (m.mx + k.mx)) = f at s1
    generalize (fitsU b (m.um + k.um) && fitsU b (m.ux + k.ux)) = g at s2
    generalize (fitsS b (l.mn + k.mn) && fitsS b (l.mx + k.mx)) = f' at s1 t1
    generalize (fitsU b (l.um + k.um) && fitsU b (l.ux + k.ux)) = g' at s2 t2
    cases f <;> cases g <;> cases f' <;> cases g' <;> simp at s1 s2 t1 t2 ⊢ <;> omega

end Go.Proofs.Ytobfdjgikpolkaa
