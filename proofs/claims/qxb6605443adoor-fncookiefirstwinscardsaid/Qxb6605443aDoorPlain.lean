import Derived.Lib.Bytealg
import Derived.Lib.SlTrimSet
namespace Go.Proofs.Qxb6605443aDoor
set_option linter.unusedVariables false

abbrev HexP (n : Nat) : Prop := (48 ≤ n ∧ n ≤ 57) ∨ (65 ≤ n ∧ n ≤ 70) ∨ (97 ≤ n ∧ n ≤ 102)
abbrev RegP (n : Nat) : Prop := (48 ≤ n ∧ n ≤ 57) ∨ (65 ≤ n ∧ n ≤ 90) ∨ (97 ≤ n ∧ n ≤ 122) ∨ (38 ≤ n ∧ n ≤ 46) ∨ n = 33 ∨ n = 36 ∨ n = 59 ∨ n = 61 ∨ n = 95 ∨ n = 126
def hexB (c : UInt8) : Bool := decide (HexP c.toNat)
def regB (c : UInt8) : Bool := decide (RegP c.toNat)

def two : List UInt8 → Bool
  | a :: b :: _ => hexB a && hexB b
  | _ => false
/-- the byte c, with r behind it, is in order. -/
def okB (c : UInt8) (r : List UInt8) : Bool := if c = 37 then two r else regB c
def want : List UInt8 → Bool
  | [] => true
  | c :: r => okB c r && want r

theorem all256 {p : UInt8 → Bool} (h : (List.range 256).all (fun n => p n.toUInt8) = true) (c : UInt8) : p c = true := by
  have := List.all_eq_true.1 h c.toNat (List.mem_range.2 (UInt8.toNat_lt c))
  simpa using this

theorem hex_reg (c : UInt8) (h : hexB c = true) : regB c = true ∧ c ≠ 37 := by
  unfold hexB at h
  have h1 := of_decide_eq_true h
  constructor
  · unfold regB; refine decide_eq_true ?_; unfold HexP at h1; unfold RegP; omega
  · intro e; rw [e] at h1; unfold HexP at h1; revert h1; decide

theorem reg_ne (c : UInt8) (h : regB c = true) : c ≠ 37 := by
  intro e; rw [e] at h; revert h; decide

theorem want_reg {c : UInt8} (h : regB c = true) (r : List UInt8) : want (c :: r) = want r := by
  rw [want, okB, if_neg (reg_ne c h), h]; rfl
theorem want_not {c : UInt8} (h : regB c = false) (hc : c ≠ 37) (r : List UInt8) : want (c :: r) = false := by
  rw [want, okB, if_neg hc, h]; rfl
theorem want_pct {a b : UInt8} (ha : hexB a = true) (hb : hexB b = true) (r : List UInt8) : want (37 :: a :: b :: r) = want r := by
  rw [want, okB, if_pos rfl, two, ha, hb, want_reg (hex_reg a ha).1, want_reg (hex_reg b hb).1]; rfl
theorem want_bad {r : List UInt8} (h : two r = false) : want (37 :: r) = false := by
  rw [want, okB, if_pos rfl, h]; rfl

/-- REGS, HEXS: the two constant texts. -/
def regL : List UInt8 := ([45, 46, 95, 126, 33, 36, 38, 39, 40, 41, 42, 43, 44, 59, 61, 48, 49, 50, 51, 52, 53, 54, 55, 56, 57, 65, 66, 67, 68, 69, 70, 71, 72, 73, 74, 75, 76, 77].append [78, 79, 80, 81, 82, 83, 84, 85, 86, 87, 88, 89, 90, 97, 98, 99, 100, 101, 102, 103, 104, 105, 106, 107, 108, 109, 110, 111, 112, 113, 114, 115, 116, 117, 118, 119, 120, 121, 122])
def hexL : List UInt8 := [48, 49, 50, 51, 52, 53, 54, 55, 56, 57, 65, 66, 67, 68, 69, 70, 97, 98, 99, 100, 101, 102]

theorem idx_reg (c : UInt8) : decide (Lib.indexByte regL c < 0) = !regB c := by
  have := all256 (p := fun c => decide (Lib.indexByte regL c < 0) == !regB c) (by decide +kernel) c
  simpa using this
theorem hex_mem (c : UInt8) : hexL.contains c = hexB c := by
  have := all256 (p := fun c => hexL.contains c == hexB c) (by decide +kernel) c
  simpa using this

theorem trim_two (a b : UInt8) : Lib.trimS [a, b] hexL = [] ↔ (hexB a && hexB b) = true := by
  unfold Lib.trimS Lib.trimLeftS Lib.trimRightS
  rw [← hex_mem a, ← hex_mem b]
  cases ha : hexL.contains a <;> cases hb : hexL.contains b <;> simp_all

/-! The escaped text. -/
def escC (D : List UInt8) (c : UInt8) : List UInt8 := if regB c = true then [c] else [37, D.getD (c.toNat / 16) 0, D.getD (c.toNat % 16) 0]
def escR (D : List UInt8) (l : List UInt8) : List UInt8 := l.flatMap (escC D)
theorem escR_len (D : List UInt8) (l : List UInt8) : (escR D l).length ≤ 3 * l.length := by
  induction l with
  | nil => simp [escR]
  | cons c r ih =>
    simp only [escR, List.flatMap_cons, List.length_append, List.length_cons] at ih ⊢
    have : (escC D c).length ≤ 3 := by unfold escC; split <;> simp
    omega
theorem escR_snoc (D : List UInt8) (l : List UInt8) (c : UInt8) : escR D (l ++ [c]) = escR D l ++ escC D c := by
  simp [escR]
theorem want_esc (D : List UInt8) (hD : ∀ k < 16, hexB (D.getD k 0) = true) (l t : List UInt8) : want (escR D l ++ t) = want t := by
  induction l with
  | nil => rfl
  | cons c r ih =>
    have e : escR D (c :: r) ++ t = escC D c ++ (escR D r ++ t) := by simp [escR]
    rw [e]
    unfold escC
    have h256 := UInt8.toNat_lt c
    split
    · rename_i h; rw [List.singleton_append, want_reg h, ih]
    · rw [List.cons_append, List.cons_append, List.singleton_append, want_pct (hD _ (by omega)) (hD _ (by omega)), ih]
theorem tails : want [37] = false ∧ want [37, 52] = false ∧ want [37, 52, 103] = false ∧ want [32] = false := by decide
def upL : List UInt8 := [48, 49, 50, 51, 52, 53, 54, 55, 56, 57, 65, 66, 67, 68, 69, 70]
def loL : List UInt8 := [48, 49, 50, 51, 52, 53, 54, 55, 56, 57, 97, 98, 99, 100, 101, 102]
theorem up_hex : ∀ k < 16, hexB (upL.getD k 0) = true := by decide
theorem lo_hex : ∀ k < 16, hexB (loL.getD k 0) = true := by decide
end Go.Proofs.Qxb6605443aDoor
