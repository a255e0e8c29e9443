import Derived.Laws.Sem
namespace Go.Proofs.Qxb6600587aDoor

/-- is it a line's end: carriage return or line feed. -/
def isB (c : UInt8) : Bool := ([13, 10] : List UInt8).contains c
/-- how many bytes stand ahead of the first line end. -/
def brk (l : List UInt8) : Nat := (l.takeWhile (fun c => !isB c)).length
/-- what bytes.IndexAny answers. -/
def idx (l : List UInt8) : Int := if brk l < l.length then (brk l : Int) else -1
/-- none of the first i bytes ends a line. -/
def NoB (l : List UInt8) (i : Nat) : Prop := ∀ j x, j < i → l[j]? = some x → isB x = false

theorem NoB.zero (l : List UInt8) : NoB l 0 := fun _ _ h => absurd h (Nat.not_lt_zero _)
theorem NoB.succ {l : List UInt8} {i : Nat} {x : UInt8} (h : NoB l i) (hx : l[i]? = some x) (hb : isB x = false) : NoB l (i + 1) := by
  intro j y hj hy
  rcases Nat.lt_succ_iff_lt_or_eq.1 hj with h' | rfl
  · exact h j y h' hy
  · rw [hx] at hy
    obtain rfl := Option.some.inj hy
    exact hb
theorem NoB.le {l : List UInt8} {i j : Nat} (h : NoB l i) (hj : j ≤ i) : NoB l j := fun k x hk hx => h k x (by omega) hx

theorem brk_le (l : List UInt8) : brk l ≤ l.length := by
  unfold brk
  exact (List.takeWhile_prefix _).length_le
theorem brk_NoB : ∀ l : List UInt8, NoB l (brk l)
  | [] => fun _ _ _ h => by simp at h
  | c :: l => by
    intro j x hj hx
    unfold brk at hj
    rw [List.takeWhile_cons] at hj
    by_cases hc : isB c = true
    · simp [hc] at hj
    · have hc' : isB c = false := by simpa using hc
      simp only [hc', Bool.not_false, if_true, List.length_cons] at hj
      cases j with
      | zero => simp at hx; rw [← hx]; exact hc'
      | succ j => exact brk_NoB l j x (by unfold brk; omega) (by simpa using hx)
theorem brk_at : ∀ (l : List UInt8) (x : UInt8), l[brk l]? = some x → isB x = true
  | [], x, h => by simp at h
  | c :: l, x, h => by
    unfold brk at h
    rw [List.takeWhile_cons] at h
    by_cases hc : isB c = true
    · simp [hc] at h
      rw [← h]; exact hc
    · have hc' : isB c = false := by simpa using hc
      simp only [hc', Bool.not_false, if_true, List.length_cons, List.getElem?_cons_succ] at h
      exact brk_at l x h
theorem brk_eq {l : List UInt8} {i : Nat} {x : UInt8} (h : NoB l i) (hx : l[i]? = some x) (hb : isB x = true) : brk l = i := by
  have hi : i < l.length := (List.getElem?_eq_some_iff.1 hx).1
  rcases Nat.lt_trichotomy (brk l) i with h1 | h1 | h1
  · have h2 : brk l < l.length := by omega
    have := brk_at l l[brk l] (List.getElem?_eq_getElem h2)
    rw [h (brk l) _ h1 (List.getElem?_eq_getElem h2)] at this
    cases this
  · exact h1
  · have := brk_NoB l i x h1 hx
    rw [hb] at this
    cases this
theorem brk_all {l : List UInt8} (h : NoB l l.length) : brk l = l.length := by
  rcases Nat.lt_or_ge (brk l) l.length with h1 | h1
  · have := brk_at l l[brk l] (List.getElem?_eq_getElem h1)
    rw [h (brk l) _ h1 (List.getElem?_eq_getElem h1)] at this
    cases this
  · have := brk_le l
    omega
theorem idx_hit {l : List UInt8} {i : Nat} {x : UInt8} (h : NoB l i) (hx : l[i]? = some x) (hb : isB x = true) : idx l = (i : Int) := by
  have hi : i < l.length := (List.getElem?_eq_some_iff.1 hx).1
  rw [idx, brk_eq h hx hb, if_pos hi]
theorem idx_none {l : List UInt8} (h : NoB l l.length) : idx l = -1 := by
  rw [idx, brk_all h, if_neg (Nat.lt_irrefl _)]

/-- what cutLine answers: (advance, length of the line), or nothing yet. -/
def cutOf (l : List UInt8) (eof : Bool) : Option (Nat × Nat) :=
  if brk l < l.length then
    if l[brk l]? = some 10 then some (brk l + 1, brk l)
    else if brk l + 1 < l.length then (if l[brk l + 1]? = some 10 then some (brk l + 2, brk l) else some (brk l + 1, brk l))
    else if eof = true then some (brk l + 1, brk l) else none
  else if eof = true ∧ 0 < l.length then some (l.length, l.length) else none

theorem at_brk {l : List UInt8} (h : brk l < l.length) : l[brk l]? = some 13 ∨ l[brk l]? = some 10 := by
  obtain ⟨x, hx⟩ : ∃ x, l[brk l]? = some x := ⟨_, List.getElem?_eq_getElem h⟩
  have := brk_at l x hx
  rw [hx]
  simp [isB] at this
  rcases this with rfl | rfl
  · exact Or.inl rfl
  · exact Or.inr rfl

/-- no line may be handed out yet (the stream goes on). -/
def NoC (l : List UInt8) : Prop := ∀ j x, l[j]? = some x → x ≠ 10 ∧ (x = 13 → ¬ j + 1 < l.length)
def NoCT (l : List UInt8) (i : Nat) : Prop := ∀ j x, j < i → l[j]? = some x → x ≠ 10 ∧ (x = 13 → ¬ j + 1 < l.length)

theorem NoCT.succ {l : List UInt8} {i : Nat} {x : UInt8} (h : NoCT l i) (hx : l[i]? = some x) (h1 : x ≠ 10) (h2 : x = 13 → ¬ i + 1 < l.length) : NoCT l (i + 1) := by
  intro j y hj hy
  rcases Nat.lt_succ_iff_lt_or_eq.1 hj with h' | rfl
  · exact h j y h' hy
  · rw [hx] at hy
    obtain rfl := Option.some.inj hy
    exact ⟨h1, h2⟩

theorem isB_iff (x : UInt8) : isB x = true ↔ x = 13 ∨ x = 10 := by simp [isB]

/-- nothing is handed out: then nothing may be. -/
theorem none_wait {l : List UInt8} {eof : Bool} (h : cutOf l eof = none) : (eof = true → l.length = 0) ∧ (eof = false → NoC l) := by
  unfold cutOf at h
  by_cases hb : brk l < l.length
  · rw [if_pos hb] at h
    by_cases h10 : l[brk l]? = some 10
    · rw [if_pos h10] at h; cases h
    rw [if_neg h10] at h
    by_cases h2 : brk l + 1 < l.length
    · rw [if_pos h2] at h
      split at h <;> cases h
    rw [if_neg h2] at h
    by_cases he : eof = true
    · rw [if_pos he] at h; cases h
    refine ⟨fun h' => absurd h' he, fun _ => ?_⟩
    intro j x hx
    have hj : j < l.length := (List.getElem?_eq_some_iff.1 hx).1
    rcases Nat.lt_or_ge j (brk l) with hl | hl
    · have := brk_NoB l j x hl hx
      constructor
      · rintro rfl; simp [isB] at this
      · rintro rfl; simp [isB] at this
    · obtain rfl : j = brk l := by omega
      exact ⟨fun e => h10 (by rw [hx, e]), fun _ => h2⟩
  · rw [if_neg hb] at h
    by_cases he : eof = true ∧ 0 < l.length
    · rw [if_pos he] at h; cases h
    constructor
    · intro h'
      have : ¬ 0 < l.length := fun h2 => he ⟨h', h2⟩
      omega
    · intro _ j x hx
      have hj : j < l.length := (List.getElem?_eq_some_iff.1 hx).1
      have := brk_NoB l j x (by omega) hx
      constructor
      · rintro rfl; simp [isB] at this
      · rintro rfl; simp [isB] at this

/-- the shapes of what is handed out. -/
def Shape (l : List UInt8) (eof : Bool) (m k : Nat) : Prop :=
  (l[k]? = some 10 ∧ m = k + 1) ∨ (l[k]? = some 13 ∧ l[k + 1]? = some 10 ∧ m = k + 2) ∨
  (l[k]? = some 13 ∧ (∃ x, l[k + 1]? = some x ∧ x ≠ 10) ∧ m = k + 1) ∨ (l[k]? = some 13 ∧ k + 1 = l.length ∧ eof = true ∧ m = k + 1) ∨
  (k = l.length ∧ m = l.length ∧ 0 < l.length ∧ eof = true)

theorem some_shape {l : List UInt8} {eof : Bool} {m k : Nat} (h : cutOf l eof = some (m, k)) : Shape l eof m k ∧ NoB l k ∧ k = brk l := by
  unfold cutOf at h
  by_cases hb : brk l < l.length
  · rw [if_pos hb] at h
    by_cases h10 : l[brk l]? = some 10
    · rw [if_pos h10] at h
      simp only [Option.some.injEq, Prod.mk.injEq] at h
      obtain ⟨rfl, rfl⟩ := h
      exact ⟨Or.inl ⟨h10, rfl⟩, brk_NoB l, rfl⟩
    have h13 : l[brk l]? = some 13 := (at_brk hb).resolve_right h10
    rw [if_neg h10] at h
    by_cases h2 : brk l + 1 < l.length
    · rw [if_pos h2] at h
      by_cases h3 : l[brk l + 1]? = some 10
      · rw [if_pos h3] at h
        simp only [Option.some.injEq, Prod.mk.injEq] at h
        obtain ⟨rfl, rfl⟩ := h
        exact ⟨Or.inr (Or.inl ⟨h13, h3, rfl⟩), brk_NoB l, rfl⟩
      · rw [if_neg h3] at h
        simp only [Option.some.injEq, Prod.mk.injEq] at h
        obtain ⟨rfl, rfl⟩ := h
        obtain ⟨x, hx⟩ : ∃ x, l[brk l + 1]? = some x := ⟨_, List.getElem?_eq_getElem h2⟩
        exact ⟨Or.inr (Or.inr (Or.inl ⟨h13, ⟨x, hx, fun e => h3 (by rw [hx, e])⟩, rfl⟩)), brk_NoB l, rfl⟩
    rw [if_neg h2] at h
    by_cases he : eof = true
    · rw [if_pos he] at h
      simp only [Option.some.injEq, Prod.mk.injEq] at h
      obtain ⟨rfl, rfl⟩ := h
      exact ⟨Or.inr (Or.inr (Or.inr (Or.inl ⟨h13, by omega, he, rfl⟩))), brk_NoB l, rfl⟩
    · rw [if_neg he] at h; cases h
  · rw [if_neg hb] at h
    have hbe : brk l = l.length := by have := brk_le l; omega
    by_cases he : eof = true ∧ 0 < l.length
    · rw [if_pos he] at h
      simp only [Option.some.injEq, Prod.mk.injEq] at h
      obtain ⟨rfl, rfl⟩ := h
      exact ⟨Or.inr (Or.inr (Or.inr (Or.inr ⟨rfl, rfl, he.2, he.1⟩))), by rw [← hbe]; exact brk_NoB l, hbe.symm⟩
    · rw [if_neg he] at h; cases h

/-- what is handed out may be. -/
theorem some_wait {l : List UInt8} {eof : Bool} {m k : Nat} (h : cutOf l eof = some (m, k)) : (eof = true → l.length ≠ 0) ∧ (eof = false → ¬ NoC l) := by
  obtain ⟨hs, _, _⟩ := some_shape h
  rcases hs with ⟨h1, _⟩ | ⟨h1, h2, _⟩ | ⟨h1, ⟨x, h2, _⟩, _⟩ | ⟨h1, h2, h3, _⟩ | ⟨_, _, h2, h3⟩
  · exact ⟨fun _ => by have := (List.getElem?_eq_some_iff.1 h1).1; omega, fun _ hn => (hn _ _ h1).1 rfl⟩
  · exact ⟨fun _ => by have := (List.getElem?_eq_some_iff.1 h1).1; omega, fun _ hn => (hn _ _ h1).2 rfl (List.getElem?_eq_some_iff.1 h2).1⟩
  · exact ⟨fun _ => by have := (List.getElem?_eq_some_iff.1 h1).1; omega, fun _ hn => (hn _ _ h1).2 rfl (List.getElem?_eq_some_iff.1 h2).1⟩
  · exact ⟨fun _ => by have := (List.getElem?_eq_some_iff.1 h1).1; omega, fun he => by rw [h3] at he; cases he⟩
  · exact ⟨fun _ => by omega, fun he => by rw [h3] at he; cases he⟩

end Go.Proofs.Qxb6600587aDoor
