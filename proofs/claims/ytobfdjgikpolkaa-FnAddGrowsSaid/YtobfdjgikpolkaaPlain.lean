/- Plain words for limits of values: numbers of b bits, and the sum of two limits, as functions over Int. Nothing of the program stands here. -/
namespace Go.Proofs.Ytobfdjgikpolkaa

/-- b is one of the four sizes. -/
def Sz (b : Int) : Prop := b = 8 ∨ b = 16 ∨ b = 32 ∨ b = 64

/-- How many numbers of b bits there are. -/
def M (b : Int) : Int := if b = 8 then 256 else if b = 16 then 65536 else if b = 32 then 4294967296 else 18446744073709551616

/-- The unsigned number of the low b bits. -/
def uns (b x : Int) : Int := x % M b

/-- The signed number of the low b bits. -/
def sgn (b x : Int) : Int := if x % M b < M b / 2 then x % M b else x % M b - M b

/-- An int64, a uint64. -/
def I64 (x : Int) : Prop := -9223372036854775808 ≤ x ∧ x ≤ 9223372036854775807
def U64 (x : Int) : Prop := 0 ≤ x ∧ x ≤ 18446744073709551615

/-- The size that a number chooses. -/
def bitsOf (n : Int) : Int := if n % 4 = 0 then 8 else if n % 4 = 1 then 16 else if n % 4 = 2 then 32 else 64

theorem bitsOf_sz (n : Int) : Sz (bitsOf n) := by
  unfold Sz bitsOf
  split <;> (try split) <;> (try split) <;> simp

/-- The greatest and the least signed number of b bits, and the greatest unsigned one. -/
def great (b : Int) : Int := M b / 2 - 1
def least (b : Int) : Int := -(M b / 2)
def top (b : Int) : Int := M b - 1

theorem M8 : M 8 = 256 := rfl
theorem M16 : M 16 = 65536 := rfl
theorem M32 : M 32 = 4294967296 := rfl
theorem M64 : M 64 = 18446744073709551616 := rfl

/-- Does the signed, the unsigned number fit in b bits? -/
def fitsS (b x : Int) : Bool := decide (least b ≤ x ∧ x ≤ great b)
def fitsU (b x : Int) : Bool := decide (0 ≤ x ∧ x ≤ top b)

/-- Four bounds. -/
structure Lim where
  mn : Int
  mx : Int
  um : Int
  ux : Int

/-- The bounds are an int64's and a uint64's. -/
def Lim.ok (l : Lim) : Prop := I64 l.mn ∧ I64 l.mx ∧ U64 l.um ∧ U64 l.ux

/-- The bounds' low b bits. -/
def fit (b : Int) (l : Lim) : Lim := ⟨sgn b l.mn, sgn b l.mx, uns b l.um, uns b l.ux⟩

/-- Does the number of the low b bits of x meet the limit? -/
def meets (l : Lim) (x b : Int) : Bool := decide (l.mn ≤ sgn b x ∧ sgn b x ≤ l.mx ∧ l.um ≤ uns b x ∧ uns b x ≤ l.ux)

/-- Do the bounds of l lie within those of m? -/
def inside (l m : Lim) : Bool := decide (m.mn ≤ l.mn ∧ l.mx ≤ m.mx ∧ m.um ≤ l.um ∧ l.ux ≤ m.ux)

/-- The limit of one value. -/
def one (b x : Int) : Lim := ⟨sgn b x, sgn b x, uns b x, uns b x⟩

/-- Does the sum of two numbers of b bits fit, as the reference asks it? -/
def sumFits (x y b : Int) : Bool := if 0 ≤ y then decide (x ≤ great b - y) else decide (least b - y ≤ x)
def sumFitsU (x y b : Int) : Bool := decide (x ≤ top b - y)

/-- A signed number's low b bits, their sign extended, as a uint64. -/
def cvU (b x : Int) : Int := sgn b x % 18446744073709551616

/-- The one value of a limit, if it has one. -/
def isC (l : Lim) : Bool := decide (l.mn = l.mx ∨ l.um = l.ux)
def valC (b : Int) (l : Lim) : Int := if l.mn = l.mx then cvU b l.mn else if l.um = l.ux then l.um else 0

/-- The limit of a sum of b bits, as the program reckons it. -/
def addL (b : Int) (l m : Lim) : Lim :=
  if isC l && isC m then
    let r := (valC b l + valC b m) % M b
    ⟨sgn b r, sgn b r, r, r⟩
  else
    let s := fitsS b (l.mn + m.mn) && fitsS b (l.mx + m.mx)
    let u := fitsU b (l.um + m.um) && fitsU b (l.ux + m.ux)
    ⟨if s then l.mn + m.mn else -9223372036854775808, if s then l.mx + m.mx else 9223372036854775807,
     if u then l.um + m.um else 0, if u then l.ux + m.ux else 18446744073709551615⟩

end Go.Proofs.Ytobfdjgikpolkaa
