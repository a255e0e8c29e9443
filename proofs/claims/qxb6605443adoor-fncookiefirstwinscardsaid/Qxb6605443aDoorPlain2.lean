import Derived.Laws.RangeAny
namespace Go.Proofs.Qxb6605443aDoor
set_option linter.unusedVariables false

/-- the rune x folds to the letter c of "cookie". -/
def mt (c : UInt8) (x : Nat) : Bool := x == c.toNat || (decide (x < 128) && x + 32 == c.toNat) || (c == 107 && x == 8490)
/-- the rune phase of EqualFold: the string s from pos on, against the letters left. -/
def fold2 (s : ByteArray) : List UInt8 → Nat → Bool
  | [], pos => decide (s.size ≤ pos)
  | c :: t, pos => decide (pos < s.size) && (mt c (Utf8.decode s pos).1 && fold2 s t (pos + (Utf8.decode s pos).2))
/-- the byte phase. -/
def fold1 (s : ByteArray) : List UInt8 → Nat → Bool
  | [], i => decide (s.size = i)
  | c :: t, i => if h : i < s.size then (if 128 ≤ (s[i]'h).toNat then fold2 (s.extract i s.size) (c :: t) 0 else mt c (s[i]'h).toNat && fold1 s t (i + 1)) else false
def ckL : List UInt8 := [99, 111, 111, 107, 105, 101]
/-- strings.EqualFold(s, "cookie"). -/
def foldc (s : ByteArray) : Bool := fold1 s ckL 0
theorem fold_big : foldc ⟨#[67, 111, 111, 107, 105, 101]⟩ = true := by decide
theorem fold_small : foldc ⟨#[99, 111, 111, 107, 105, 101]⟩ = true := by decide
end Go.Proofs.Qxb6605443aDoor
