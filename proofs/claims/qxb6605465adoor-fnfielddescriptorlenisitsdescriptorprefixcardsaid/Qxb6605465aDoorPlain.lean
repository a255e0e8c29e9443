import Derived.Lib.SplitLaws
import Derived.Lib.Join
import Derived.Lib.Strings
import Derived.Lib.IndexAny
import Derived.Lib.IndexLaws
namespace Go.Proofs.Qxb6605465aDoor
open Go.Lib
set_option linter.unusedVariables false

/-- cut at every slash. -/
def splitOn : List UInt8 → List (List UInt8)
  | [] => [[]]
  | c :: r => if c = 47 then [] :: splitOn r else match splitOn r with
    | [] => [[c]]
    | h :: t => (c :: h) :: t

theorem splitOn_ne (l : List UInt8) : splitOn l ≠ [] := by
  cases l with
  | nil => simp [splitOn]
  | cons c r =>
    unfold splitOn
    split
    · simp
    · split <;> simp

theorem splitK_on : ∀ l : List UInt8, splitK [47] 0 (count l [47]) l = splitOn l
  | [] => by rw [count_one]; rfl
  | c :: r => by
    have ih := splitK_on r
    by_cases hc : c = 47
    · subst hc
      have hix : index (47 :: r) [47] = 0 := by rw [index]; simp [List.isPrefixOf]
      rw [count_cons_eq, Nat.add_comm 1]
      unfold splitK splitOn
      rw [hix]
      simp [ih]
    · have hp : ([47] : List UInt8).isPrefixOf (c :: r) = false := by simp [List.isPrefixOf, Ne.symm hc]
      have hix : index (c :: r) [47] = if index r [47] == -1 then -1 else index r [47] + 1 := by rw [index, hp]; simp
      rw [count_cons_ne c 47 r hc]
      unfold splitOn
      rw [if_neg hc, ← ih]
      cases hk : count r [47] with
      | zero => simp [splitK]
      | succ k =>
        rw [splitK, splitK, hix]
        by_cases hm : index r [47] = -1
        · simp [hm]
        · have hge := index_ge r [47]
          obtain ⟨j, hj⟩ : ∃ j : Nat, index r [47] = j := ⟨(index r [47]).toNat, by omega⟩
          have h1 : ¬ ((j : Int) == -1) = true := by simp
          have h2 : ¬ ((j : Int) + 1 == -1) = true := by simp; omega
          rw [hj, if_neg h1, if_neg h1, if_neg h2]
          simp only [Int.toNat_natCast, Nat.add_zero, List.length_singleton]
          rw [show ((j : Int) + 1).toNat = j + 1 by omega]
          simp


def parts (s : ByteArray) : List ByteArray := Lib.splitB ⟨#[47]⟩ 0 (Lib.countB s ⟨#[47]⟩) s
theorem parts_data (s : ByteArray) : (parts s).map (·.data.toList) = splitOn s.data.toList := by
  unfold parts
  rw [splitB_data]
  exact splitK_on s.data.toList
theorem parts_length (s : ByteArray) : (parts s).length = Lib.countB s ⟨#[47]⟩ + 1 := splitB_all ⟨#[47]⟩ (by decide) 0 _ s rfl
theorem parts_le (s : ByteArray) : (parts s).length ≤ s.size + 1 := by
  rw [parts_length]
  have := countB_le ⟨#[47]⟩ (by decide) s.size s (Nat.le_refl _)
  omega

def badL : List UInt8 := [46, 59, 91, 47]
def badB (c : UInt8) : Bool := badL.contains c
def baseL : List UInt8 := [66, 67, 68, 70, 73, 74, 83, 90]
def baseB (c : UInt8) : Bool := baseL.contains c
/-- an unqualified name. -/
def unq (l : List UInt8) : Bool := !l.isEmpty && !l.any badB
/-- a name in internal form. -/
def vcls (l : List UInt8) : Bool := (splitOn l).all unq
/-- the law's own machine: n bytes of the segment are behind us. -/
def cls : Nat → List UInt8 → Bool
  | n, [] => decide (0 < n)
  | n, c :: r => if c = 46 ∨ c = 59 ∨ c = 91 then false else if c = 47 then (if n = 0 then false else cls 0 r) else cls (n + 1) r

theorem bad_iff (c : UInt8) : badB c = true ↔ c = 46 ∨ c = 59 ∨ c = 91 ∨ c = 47 := by
  simp [badB, badL]

theorem cls_split : ∀ (l p : List UInt8), p.any badB = false → cls p.length l = (match splitOn l with | h :: t => unq (p ++ h) && t.all unq | [] => false)
  | [], p, hp => by
    simp only [cls, splitOn, List.append_nil, List.all_nil, Bool.and_true, unq, hp, Bool.not_false]
    cases p <;> simp
  | c :: r, p, hp => by
    cases hs : splitOn r with
    | nil => exact absurd hs (splitOn_ne r)
    | cons h t =>
      by_cases c1 : c = 46 ∨ c = 59 ∨ c = 91
      · have hb : badB c = true := (bad_iff c).2 (by rcases c1 with h | h | h <;> simp [h])
        have hn : c ≠ 47 := by rcases c1 with h | h | h <;> (rw [h]; decide)
        rw [cls, if_pos c1]
        unfold splitOn
        rw [if_neg hn, hs]
        simp [unq, hb]
      · rw [cls, if_neg c1]
        by_cases c2 : c = 47
        · rw [if_pos c2]
          have ih := cls_split r [] rfl
          rw [hs] at ih
          simp only [List.length_nil, List.nil_append] at ih
          unfold splitOn
          rw [if_pos c2, hs]
          simp only [List.append_nil, List.all_cons, ← ih]
          cases p with
          | nil => simp [unq]
          | cons a b => rw [if_neg (by simp)]; simp only [unq, hp]; simp
        · rw [if_neg c2]
          have hb : badB c = false := by
            cases hc : badB c
            · rfl
            · have := (bad_iff c).1 hc
              exact absurd this (by rintro (h | h | h | h) <;> simp_all)
          have ih := cls_split r (p ++ [c]) (by simp [hp, hb])
          rw [hs] at ih
          rw [List.length_append, List.length_singleton] at ih
          rw [ih]
          unfold splitOn
          rw [if_neg c2, hs]
          simp

theorem cls_eq (l : List UInt8) : cls 0 l = vcls l := by
  have h := cls_split l [] rfl
  rw [List.length_nil] at h
  rw [h, vcls]
  cases hs : splitOn l with
  | nil => exact absurd hs (splitOn_ne l)
  | cons a b => simp

/-! ### the brackets -/
def dims : List UInt8 → Nat
  | [] => 0
  | c :: r => if c = 91 then dims r + 1 else 0
theorem dims_le : ∀ l, dims l ≤ l.length
  | [] => Nat.le_refl _
  | c :: r => by have := dims_le r; unfold dims; split <;> simp <;> omega
theorem dims_at : ∀ {l : List UInt8} {i : Nat}, i < dims l → l[i]? = some 91
  | [], i, h => by simp [dims] at h
  | c :: r, i, h => by
    unfold dims at h
    split at h
    · rename_i hc
      cases i with
      | zero => simp [hc]
      | succ i => rw [List.getElem?_cons_succ]; exact dims_at (by omega)
    · omega
theorem dims_stop : ∀ l : List UInt8, l[dims l]? ≠ some 91
  | [] => by simp
  | c :: r => by
    unfold dims
    split
    · rw [List.getElem?_cons_succ]; exact dims_stop r
    · rename_i hc; simpa using hc
theorem dims_eq {l : List UInt8} {k : Nat} (h1 : ∀ i, i < k → l[i]? = some 91) (h2 : l[k]? ≠ some 91) : dims l = k := by
  rcases Nat.lt_trichotomy (dims l) k with h | h | h
  · exact absurd (h1 _ h) (dims_stop l)
  · exact h
  · exact absurd (dims_at h) h2

/-! ### the first semicolon -/
def fidx : List UInt8 → Nat
  | [] => 0
  | c :: r => if c = 59 then 0 else fidx r + 1
theorem fidx_le : ∀ l, fidx l ≤ l.length
  | [] => Nat.le_refl _
  | c :: r => by have := fidx_le r; unfold fidx; split <;> simp <;> omega
theorem fidx_before : ∀ {l : List UInt8} {i : Nat}, i < fidx l → l[i]? ≠ some 59
  | [], i, h => by simp
  | c :: r, i, h => by
    unfold fidx at h
    split at h
    · omega
    · rename_i hc
      cases i with
      | zero => simpa using hc
      | succ i => rw [List.getElem?_cons_succ]; exact fidx_before (by omega)
theorem fidx_at : ∀ {l : List UInt8}, fidx l < l.length → l[fidx l]? = some 59
  | [], h => by simp [fidx] at h
  | c :: r, h => by
    unfold fidx at h ⊢
    split
    · rename_i hc; simp [hc]
    · rename_i hc
      rw [if_neg hc] at h
      rw [List.getElem?_cons_succ]
      exact fidx_at (by simpa using h)

def fd (t : List UInt8) : Bool :=
  if 255 < dims t ∨ dims t = t.length then false
  else if t.length - dims t = 1 then baseB (t.getD (dims t) 0)
  else (t.getD (dims t) 0 == 76 && t.getD (t.length - 1) 0 == 59 && cls 0 ((t.drop (dims t + 1)).take (t.length - dims t - 2)))
def ans (l : List UInt8) : Nat :=
  if 255 < dims l ∨ dims l = l.length then 0
  else if baseB (l.getD (dims l) 0) = true then dims l + 1
  else if l.getD (dims l) 0 = 76 then
    (if fidx l < l.length ∧ vcls ((l.drop (dims l + 1)).take (fidx l - dims l - 1)) = true then fidx l + 1 else 0)
  else 0
def want1 (l : List UInt8) : Nat := if dims l < l.length ∧ fd (l.take (dims l + 1)) = true then dims l + 1 else 0
def want (l : List UInt8) : Nat := if fidx l < l.length ∧ fd (l.take (fidx l + 1)) = true then fidx l + 1 else want1 l

theorem base59 : baseB 59 = false := by decide
theorem base76 : baseB 76 = false := by decide
theorem getD_of {l : List UInt8} {i : Nat} {c : UInt8} (h : l[i]? = some c) : l.getD i 0 = c := by
  rw [List.getD_eq_getElem?_getD, h]; rfl
theorem take_at {l : List UInt8} {i m : Nat} (h : i < m) : (l.take m)[i]? = l[i]? := by
  rw [List.getElem?_take, if_pos h]
theorem dims_take {l : List UInt8} {m : Nat} (h : dims l < m) : dims (l.take m) = dims l :=
  dims_eq (fun i hi => by rw [take_at (by omega)]; exact dims_at hi) (by rw [take_at h]; exact dims_stop l)

theorem dims_fidx {l : List UInt8} : dims l ≤ fidx l := by
  rcases Nat.lt_or_ge (fidx l) (dims l) with h | h
  · have h1 := dims_at h
    have h2 := fidx_at (l := l) (by have := dims_le l; omega)
    rw [h1] at h2
    cases h2
  · exact h

theorem law (l : List UInt8) : ans l = want l := by
  have hk := dims_le l
  have hkj := dims_fidx (l := l)
  have hj := fidx_le l
  unfold ans want want1
  by_cases h1 : dims l = l.length
  · have h2 : ¬ (fidx l < l.length) := by omega
    rw [if_pos (Or.inr h1), if_neg (fun h => h2 h.1), if_neg (fun h => by omega)]
  · have hlt : dims l < l.length := by omega
    obtain ⟨c, hc⟩ : ∃ c, l[dims l]? = some c := ⟨_, List.getElem?_eq_getElem hlt⟩
    have hf1 : fd (l.take (dims l + 1)) = if 255 < dims l then false else baseB c := by
      unfold fd
      rw [dims_take (by omega)]
      have hl : (l.take (dims l + 1)).length = dims l + 1 := by rw [List.length_take]; omega
      rw [hl]
      by_cases h3 : 255 < dims l
      · rw [if_pos (Or.inl h3), if_pos h3]
      · rw [if_neg (by omega), if_neg h3, if_pos (by omega), getD_of (by rw [take_at (by omega)]; exact hc)]
    have hf2 : fidx l < l.length → dims l < fidx l → fd (l.take (fidx l + 1)) = if 255 < dims l then false else (c == 76 && vcls ((l.drop (dims l + 1)).take (fidx l - dims l - 1))) := fun h3 h4 => by
      unfold fd
      rw [dims_take (by omega)]
      have hl : (l.take (fidx l + 1)).length = fidx l + 1 := by rw [List.length_take]; omega
      rw [hl]
      by_cases h5 : 255 < dims l
      · rw [if_pos (Or.inl h5), if_pos h5]
      · rw [if_neg (by omega), if_neg h5, if_neg (by omega), getD_of (by rw [take_at (by omega)]; exact hc), getD_of (i := fidx l + 1 - 1) (by rw [take_at (by omega)]; exact fidx_at h3)]
        rw [cls_eq, List.drop_take, List.take_take, show min (fidx l + 1 - dims l - 2) (fidx l + 1 - (dims l + 1)) = fidx l - dims l - 1 by omega]
        simp
    rw [hf1, getD_of hc]
    by_cases h255 : 255 < dims l
    · rw [if_pos (Or.inl h255)]
      simp only [h255, if_true, Bool.false_eq_true, and_false, if_false]
      rw [if_neg]
      rintro ⟨h3, h4⟩
      by_cases h5 : dims l < fidx l
      · rw [hf2 h3 h5, if_pos h255] at h4; cases h4
      · rw [show fidx l = dims l by omega, hf1, if_pos h255] at h4; cases h4
    · rw [if_neg (by omega)]
      simp only [h255, if_false]
      by_cases hb : baseB c = true
      · rw [if_pos hb, if_pos (c := dims l < l.length ∧ baseB c = true) ⟨hlt, hb⟩, if_neg]
        rintro ⟨h3, h4⟩
        have hne : fidx l ≠ dims l := fun e => by
          have := fidx_at h3
          rw [e, hc] at this
          obtain rfl := Option.some.inj this
          rw [base59] at hb; cases hb
        rw [hf2 h3 (by omega), if_neg h255] at h4
        have h76 : (c == 76) = false := by
          rw [beq_eq_false_iff_ne]
          intro e
          rw [e, base76] at hb; cases hb
        rw [h76] at h4; cases h4
      · rw [if_neg hb, if_neg (c := dims l < l.length ∧ baseB c = true) (fun h => hb h.2)]
        by_cases h76 : c = 76
        · rw [if_pos h76]
          by_cases h3 : fidx l < l.length
          · have hne : fidx l ≠ dims l := fun e => by
              have := fidx_at h3
              rw [e, hc, h76] at this
              cases this
            rw [hf2 h3 (by omega), if_neg h255, h76]
            simp
          · rw [if_neg (fun h => h3 h.1), if_neg (fun h => h3 h.1)]
        · rw [if_neg h76, if_neg]
          rintro ⟨h3, h4⟩
          by_cases h5 : dims l < fidx l
          · rw [hf2 h3 h5, if_neg h255] at h4
            simp [h76] at h4
          · rw [show fidx l = dims l by omega, hf1, if_neg h255] at h4
            exact hb h4

/-- IndexByte from the brackets on. -/
theorem idx_semi (l : List UInt8) : (fidx l < l.length → Lib.indexByte (l.drop (dims l)) 59 = ((fidx l - dims l : Nat) : Int)) ∧ (¬ fidx l < l.length → Lib.indexByte (l.drop (dims l)) 59 = -1) := by
  have hkj := dims_fidx (l := l)
  have hge := Lib.indexByte_ge (l.drop (dims l)) 59
  by_cases hm : Lib.indexByte (l.drop (dims l)) 59 = -1
  · have hn := Lib.indexByte_none hm
    refine ⟨fun h => ?_, fun _ => hm⟩
    have := hn (fidx l - dims l)
    rw [List.getElem?_drop, show dims l + (fidx l - dims l) = fidx l by omega] at this
    exact absurd (fidx_at h) this
  · obtain ⟨o, ho⟩ : ∃ o : Nat, Lib.indexByte (l.drop (dims l)) 59 = o := ⟨(Lib.indexByte (l.drop (dims l)) 59).toNat, by omega⟩
    obtain ⟨h1, h2⟩ := Lib.indexByte_some ho
    rw [List.getElem?_drop] at h1
    have hb : ¬ dims l + o < fidx l := fun h => fidx_before h h1
    have hlt := (List.getElem?_eq_some_iff.1 h1).1
    have hfl : fidx l < l.length := by omega
    have hb2 : ¬ fidx l - dims l < o := fun h => by
      have := h2 _ h
      rw [List.getElem?_drop, show dims l + (fidx l - dims l) = fidx l by omega] at this
      exact this (fidx_at hfl)
    exact ⟨fun _ => by rw [ho]; congr 1; omega, fun h => absurd hfl h⟩
end Go.Proofs.Qxb6605465aDoor
