import Derived.Test.Qxb6600587aDoorPlain
namespace Go.Proofs.Qxb6600587aDoor

theorem cut_pos {r : List UInt8} {eof : Bool} {m k : Nat} (h : cutOf r eof = some (m, k)) : 1 ≤ m ∧ m ≤ r.length ∧ k ≤ m := by
  obtain ⟨hs, _, _⟩ := some_shape h
  rcases hs with ⟨h1, rfl⟩ | ⟨h1, h2, rfl⟩ | ⟨h1, ⟨x, h2, _⟩, rfl⟩ | ⟨h1, h2, h3, rfl⟩ | ⟨rfl, rfl, h2, h3⟩
  · have := (List.getElem?_eq_some_iff.1 h1).1; omega
  · have := (List.getElem?_eq_some_iff.1 h2).1; omega
  · have := (List.getElem?_eq_some_iff.1 h1).1; omega
  · omega
  · omega

/-- the lines of what is left, each with its start and end, by cutting again and again. -/
def segF : Nat → Nat → List UInt8 → List (Nat × Nat)
  | 0, _, _ => []
  | f + 1, p, r => match cutOf r true with
    | none => []
    | some (m, k) => (p, p + k) :: segF f (p + m) (r.drop m)
def seg (p : Nat) (r : List UInt8) : List (Nat × Nat) := segF r.length p r

theorem segF_enough : ∀ (f g p : Nat) (r : List UInt8), r.length ≤ f → r.length ≤ g → segF f p r = segF g p r
  | 0, g, p, r, h1, _ => by
    have e : r = [] := List.length_eq_zero_iff.1 (by omega)
    subst e
    cases g with
    | zero => rfl
    | succ g => rfl
  | f + 1, 0, p, r, _, h2 => by
    have e : r = [] := List.length_eq_zero_iff.1 (by omega)
    subst e
    rfl
  | f + 1, g + 1, p, r, h1, h2 => by
    unfold segF
    cases hq : cutOf r true with
    | none => rfl
    | some mk =>
      obtain ⟨m, k⟩ := mk
      have := cut_pos hq
      simp only [List.cons.injEq, true_and]
      exact segF_enough f g (p + m) (r.drop m) (by simp; omega) (by simp; omega)

theorem seg_nil (p : Nat) : seg p [] = [] := rfl
theorem seg_some {p : Nat} {r : List UInt8} {m k : Nat} (h : cutOf r true = some (m, k)) : seg p r = (p, p + k) :: seg (p + m) (r.drop m) := by
  have hp := cut_pos h
  unfold seg
  obtain ⟨f, hf⟩ : ∃ f, r.length = f + 1 := ⟨r.length - 1, by omega⟩
  rw [hf]
  conv => lhs; unfold segF
  rw [h]
  simp only [List.cons.injEq, true_and]
  exact segF_enough _ _ _ _ (by simp; omega) (by simp)

/-- there is always a line while bytes are left. -/
theorem cut_some (r : List UInt8) (h : 0 < r.length) : ∃ m k, cutOf r true = some (m, k) := by
  cases hq : cutOf r true with
  | none => have := (none_wait hq).1 rfl; omega
  | some mk => exact ⟨mk.1, mk.2, rfl⟩

/-- the scan by one pass: at (start, i) with no line end between. -/
structure Scan (l : List UInt8) (acc : List (Nat × Nat)) (start i : Nat) : Prop where
  le1 : start ≤ i
  le2 : i ≤ l.length
  no : NoB (l.drop start) (i - start)
  segs : seg 0 l = acc ++ seg start (l.drop start)

theorem Scan.zero (l : List UInt8) : Scan l [] 0 0 := ⟨Nat.le_refl _, Nat.zero_le _, NoB.zero _, by simp⟩
theorem Scan.step {l : List UInt8} {acc : List (Nat × Nat)} {s i : Nat} {x : UInt8} (h : Scan l acc s i) (hx : l[i]? = some x) (hb : isB x = false) : Scan l acc s (i + 1) := by
  have hi := (List.getElem?_eq_some_iff.1 hx).1
  have := h.le1
  refine ⟨by omega, by omega, ?_, h.segs⟩
  rw [show i + 1 - s = (i - s) + 1 by omega]
  refine h.no.succ ?_ hb
  rw [List.getElem?_drop, show s + (i - s) = i by omega]
  exact hx

theorem Scan.brkE {l : List UInt8} {acc : List (Nat × Nat)} {s i : Nat} {x : UInt8} (h : Scan l acc s i) (hx : l[i]? = some x) (hb : isB x = true) : brk (l.drop s) = i - s := by
  have := h.le1
  refine brk_eq h.no ?_ hb
  rw [List.getElem?_drop, show s + (i - s) = i by omega]
  exact hx

theorem Scan.next {l : List UInt8} {acc : List (Nat × Nat)} {s i m : Nat} (h : Scan l acc s i) (hc : cutOf (l.drop s) true = some (m, i - s)) : Scan l (acc ++ [(s, i)]) (s + m) (s + m) := by
  have hp := cut_pos hc
  have h1 := h.le1
  have hl : (l.drop s).length = l.length - s := List.length_drop
  refine ⟨Nat.le_refl _, by omega, by rw [Nat.sub_self]; exact NoB.zero _, ?_⟩
  rw [h.segs, seg_some hc, List.drop_drop]
  simp only [List.append_assoc, List.cons_append, List.nil_append]
  rw [show s + (i - s) = i by omega]

theorem Scan.lf {l : List UInt8} {acc : List (Nat × Nat)} {s i : Nat} (h : Scan l acc s i) (hx : l[i]? = some 10) : Scan l (acc ++ [(s, i)]) (i + 1) (i + 1) := by
  have h1 := h.le1
  have hi := (List.getElem?_eq_some_iff.1 hx).1
  have hb := h.brkE hx (by decide)
  have hl : (l.drop s).length = l.length - s := List.length_drop
  have hc : cutOf (l.drop s) true = some (i - s + 1, i - s) := by
    unfold cutOf
    rw [hb, if_pos (by omega), if_pos (by rw [List.getElem?_drop, show s + (i - s) = i by omega]; exact hx)]
  have := h.next hc
  rwa [show s + (i - s + 1) = i + 1 by omega] at this
theorem Scan.crlf {l : List UInt8} {acc : List (Nat × Nat)} {s i : Nat} (h : Scan l acc s i) (hx : l[i]? = some 13) (hy : l[i + 1]? = some 10) : Scan l (acc ++ [(s, i)]) (i + 2) (i + 2) := by
  have h1 := h.le1
  have hi := (List.getElem?_eq_some_iff.1 hx).1
  have hj := (List.getElem?_eq_some_iff.1 hy).1
  have hb := h.brkE hx (by decide)
  have hl : (l.drop s).length = l.length - s := List.length_drop
  have hc : cutOf (l.drop s) true = some (i - s + 2, i - s) := by
    unfold cutOf
    rw [hb, if_pos (by omega), if_neg (by rw [List.getElem?_drop, show s + (i - s) = i by omega, hx]; decide), if_pos (by omega), if_pos (by rw [List.getElem?_drop, show s + (i - s + 1) = i + 1 by omega]; exact hy)]
  have := h.next hc
  rwa [show s + (i - s + 2) = i + 2 by omega] at this
theorem Scan.cr {l : List UInt8} {acc : List (Nat × Nat)} {s i : Nat} (h : Scan l acc s i) (hx : l[i]? = some 13) (hy : l[i + 1]? ≠ some 10) : Scan l (acc ++ [(s, i)]) (i + 1) (i + 1) := by
  have h1 := h.le1
  have hi := (List.getElem?_eq_some_iff.1 hx).1
  have hb := h.brkE hx (by decide)
  have hl : (l.drop s).length = l.length - s := List.length_drop
  have hc : cutOf (l.drop s) true = some (i - s + 1, i - s) := by
    unfold cutOf
    rw [hb, if_pos (by omega), if_neg (by rw [List.getElem?_drop, show s + (i - s) = i by omega, hx]; decide)]
    by_cases h2 : i - s + 1 < (l.drop s).length
    · rw [if_pos h2, if_neg (by rw [List.getElem?_drop, show s + (i - s + 1) = i + 1 by omega]; exact hy)]
    · rw [if_neg h2, if_pos rfl]
  have := h.next hc
  rwa [show s + (i - s + 1) = i + 1 by omega] at this
/-- the end: nothing is left. -/
theorem Scan.done {l : List UInt8} {acc : List (Nat × Nat)} {i : Nat} (h : Scan l acc i i) (hi : i = l.length) : seg 0 l = acc := by
  rw [h.segs, hi, List.drop_length, seg_nil, List.append_nil]
theorem Scan.last {l : List UInt8} {acc : List (Nat × Nat)} {s i : Nat} (h : Scan l acc s i) (hi : i = l.length) (hs : s < i) : seg 0 l = acc ++ [(s, i)] := by
  have hl : (l.drop s).length = l.length - s := List.length_drop
  have hb : brk (l.drop s) = (l.drop s).length := brk_all (by rw [hl, ← hi]; exact h.no)
  have hc : cutOf (l.drop s) true = some (i - s, i - s) := by
    unfold cutOf
    rw [hb, if_neg (Nat.lt_irrefl _), if_pos ⟨rfl, by omega⟩, hl, hi]
  have h2 := h.next hc
  rw [show s + (i - s) = i by omega] at h2
  exact h2.done hi

end Go.Proofs.Qxb6600587aDoor
