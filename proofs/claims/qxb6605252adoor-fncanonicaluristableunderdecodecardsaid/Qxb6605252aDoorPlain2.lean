import Derived.Test.Qxb6605252aDoorPlain
namespace Go.Proofs.Qxb6605252aDoor
open Go.Lib
set_option linter.unusedVariables false

/-- a segment that is kept. -/
structure Good (s : List UInt8) : Prop where
  a : s ≠ []
  b : s ≠ [46]
  c : s ≠ [46, 46]
  d : ∀ x ∈ s, x ≠ 47

theorem splitOn_no : ∀ (l : List UInt8) (s : List UInt8), s ∈ splitOn l → ∀ x ∈ s, x ≠ 47
  | [], s, h, x, hx => by simp [splitOn] at h; subst h; simp at hx
  | c :: r, s, h, x, hx => by
    have ih := splitOn_no r
    unfold splitOn at h
    by_cases hc : c = 47
    · rw [if_pos hc] at h
      rcases List.mem_cons.1 h with rfl | h
      · simp at hx
      · exact ih s h x hx
    · rw [if_neg hc] at h
      cases hs : splitOn r with
      | nil => exact absurd hs (splitOn_ne r)
      | cons y t =>
        rw [hs] at h ih
        rcases List.mem_cons.1 h with rfl | h
        · rcases List.mem_cons.1 hx with rfl | hx
          · exact hc
          · exact ih y (List.mem_cons_self ..) x hx
        · exact ih s (List.mem_cons_of_mem _ h) x hx

theorem step_good {st : List (List UInt8)} {s : List UInt8} (h : ∀ x ∈ st, Good x) (hs : ∀ x ∈ s, x ≠ 47) : ∀ x ∈ stepS st s, Good x := by
  unfold stepS
  split
  · exact h
  · rename_i h1
    split
    · exact fun x hx => h x (by rw [List.dropLast_eq_take] at hx; exact List.mem_of_mem_take hx)
    · rename_i h2
      intro x hx
      rcases List.mem_append.1 hx with hx | hx
      · exact h x hx
      · simp at hx
        subst hx
        exact ⟨fun e => h1 (Or.inl e), fun e => h1 (Or.inr e), h2, hs⟩
theorem fold_good : ∀ (xs st : List (List UInt8)), (∀ x ∈ st, Good x) → (∀ s ∈ xs, ∀ x ∈ s, x ≠ 47) → ∀ x ∈ xs.foldl stepS st, Good x
  | [], st, h, _ => h
  | y :: xs, st, h, hn => fold_good xs (stepS st y) (step_good h (hn y (List.mem_cons_self ..))) (fun s hs => hn s (List.mem_cons_of_mem _ hs))
theorem segs_good (l : List UInt8) : ∀ x ∈ segs l, Good x := fold_good _ _ (fun x hx => by simp at hx) (splitOn_no l)

theorem splitOn_app : ∀ (x z : List UInt8), (∀ c ∈ x, c ≠ 47) → splitOn (x ++ 47 :: z) = x :: splitOn z
  | [], z, _ => by
    show splitOn (47 :: z) = _
    conv => lhs; unfold splitOn
    simp
  | c :: x, z, h => by
    have ih := splitOn_app x z (fun y hy => h y (List.mem_cons_of_mem _ hy))
    have hc := h c (List.mem_cons_self ..)
    show splitOn (c :: (x ++ 47 :: z)) = _
    conv => lhs; unfold splitOn
    rw [if_neg hc, ih]
theorem splitOn_one (x : List UInt8) (h : ∀ c ∈ x, c ≠ 47) : splitOn x = [x] := splitOn_all (fun j y _ hy => h y (List.mem_of_getElem? hy))
theorem splitOn_slash (z : List UInt8) : splitOn (47 :: z) = [] :: splitOn z := by
  conv => lhs; unfold splitOn
  simp

/-- the inner part of the kept segments. -/
def inner (st : List (List UInt8)) : List UInt8 := (encS st).drop 1
theorem enc_inner {st : List (List UInt8)} (h : st ≠ []) : encS st = 47 :: inner st := by
  cases st with
  | nil => exact absurd rfl h
  | cons x r => rw [inner, encS_cons]; rfl
theorem inner_cons (x : List UInt8) (r : List (List UInt8)) : inner (x :: r) = x ++ encS r := by rw [inner, encS_cons]; rfl
theorem split_inner : ∀ (st : List (List UInt8)), st ≠ [] → (∀ x ∈ st, ∀ c ∈ x, c ≠ 47) → splitOn (inner st) = st ∧ splitOn (inner st ++ [47]) = st ++ [[]]
  | [], h, _ => absurd rfl h
  | [x], _, hn => by
    have hx := hn x (List.mem_cons_self ..)
    rw [inner_cons]
    constructor
    · simp only [encS, List.map_nil, List.flatten_nil, List.append_nil]
      exact splitOn_one x hx
    · simp only [encS, List.map_nil, List.flatten_nil, List.append_nil]
      rw [splitOn_app x [] hx]; rfl
  | x :: y :: r, _, hn => by
    have ih := split_inner (y :: r) (by simp) (fun s hs => hn s (List.mem_cons_of_mem _ hs))
    have hx := hn x (List.mem_cons_self ..)
    rw [inner_cons, enc_inner (st := y :: r) (by simp)]
    constructor
    · rw [splitOn_app x _ hx, ih.1]
    · rw [List.append_assoc, List.cons_append, splitOn_app x _ hx, ih.2]; rfl

theorem fold_push : ∀ (xs st : List (List UInt8)), (∀ x ∈ xs, Good x) → xs.foldl stepS st = st ++ xs
  | [], st, _ => by simp
  | x :: xs, st, h => by
    have hx := h x (List.mem_cons_self ..)
    rw [List.foldl_cons, stepS_push hx.a hx.b hx.c, fold_push xs _ (fun y hy => h y (List.mem_cons_of_mem _ hy))]
    simp
theorem segs_enc {st : List (List UInt8)} (h : st ≠ []) (hg : ∀ x ∈ st, Good x) : segs (encS st) = st ∧ segs (encS st ++ [47]) = st := by
  have hs := split_inner st h (fun x hx => (hg x hx).d)
  rw [enc_inner h]
  unfold segs
  constructor
  · rw [splitOn_slash, hs.1, List.foldl_cons, stepS_skip (Or.inl rfl), fold_push st [] hg]; rfl
  · rw [List.cons_append, splitOn_slash, hs.2, List.foldl_cons, stepS_skip (Or.inl rfl), List.foldl_append, fold_push st [] hg]
    rfl

theorem inner_last {st : List (List UInt8)} (h : st ≠ []) (hg : ∀ x ∈ st, Good x) : endsS (encS st) = false := by
  rcases List.eq_nil_or_concat st with e | ⟨a, x, e⟩
  · exact absurd e h
  · rw [List.concat_eq_append] at e
    subst e
    have hx := hg x (by simp)
    rw [encS_snoc]
    unfold endsS
    rcases List.eq_nil_or_concat x with e | ⟨b, c, e⟩
    · exact absurd e hx.a
    · rw [List.concat_eq_append] at e
      have hc : c ≠ 47 := hx.d c (by rw [e]; simp)
      rw [e]
      rw [show encS a ++ 47 :: (b ++ [c]) = (encS a ++ 47 :: b) ++ [c] by simp, List.getLast?_concat]
      simpa using hc

theorem path_path (l : List UInt8) : path (path l) = path l := by
  have hg := segs_good l
  generalize hst : segs l = st at hg
  by_cases h : st = []
  · have e : path l = [47] := by unfold path; rw [if_pos (by rw [hst, h])]
    rw [e]; rfl
  · have e : path l = encS st ++ (if endsS l = true then [47] else []) := by unfold path; rw [if_neg (by rw [hst]; exact h), hst]
    have hs := segs_enc h hg
    cases he : endsS l
    · rw [he] at e
      simp only [Bool.false_eq_true, if_false, List.append_nil] at e
      rw [e]
      conv => lhs; unfold path
      rw [hs.1, if_neg h, inner_last h hg]
      simp
    · rw [he] at e
      simp only [if_true] at e
      rw [e]
      conv => lhs; unfold path
      rw [hs.2, if_neg h]
      have : endsS (encS st ++ [47]) = true := by unfold endsS; rw [List.getLast?_concat]; rfl
      rw [this]
      simp
theorem canon_path (l : List UInt8) : canon (path l) = canon l := by unfold canon; rw [path_path]

theorem escL_nil {l : List UInt8} (h : escL l = []) : l = [] := by
  cases l with
  | nil => rfl
  | cons c r =>
    have h1 := (esc_len c).1
    have h2 := congrArg List.length h
    simp only [escL, List.flatMap_cons, List.length_append, List.length_nil] at h2
    omega
theorem hexD_ne (m : Nat) (h : m < 16) : hexD m ≠ 47 := by
  intro e
  have e2 := congrArg UInt8.toNat e
  by_cases h1 : m < 10
  · rw [hexD_low h1] at e2; simp at e2; omega
  · rw [hexD_high (by omega) h] at e2; simp at e2; omega
theorem esc_no {c : UInt8} (h : c ≠ 47) : ∀ x ∈ esc c, x ≠ 47 := by
  unfold esc
  split
  · intro x hx; simp at hx; subst hx; exact h
  · intro x hx
    have := UInt8.toNat_lt c
    simp at hx
    rcases hx with rfl | rfl | rfl
    · decide
    · exact hexD_ne _ (by omega)
    · exact hexD_ne _ (by omega)
theorem escL_no {l : List UInt8} (h : ∀ x ∈ l, x ≠ 47) : ∀ x ∈ escL l, x ≠ 47 := by
  intro x hx
  obtain ⟨c, hc, hx⟩ := List.mem_flatMap.1 hx
  exact esc_no (h c hc) x hx
theorem escL_cons (c : UInt8) (r : List UInt8) : escL (c :: r) = esc c ++ escL r := rfl
theorem esc_keep {c : UInt8} (h : keepB c = true) : esc c = [c] := if_pos h
theorem esc_drop {c : UInt8} (h : keepB c = false) : esc c = [37, hexD (c.toNat / 16), hexD (c.toNat % 16)] := by unfold esc; rw [h]; rfl
theorem escL_dot {l : List UInt8} (h : escL l = [46]) : l = [46] := by
  cases l with
  | nil => simp [escL] at h
  | cons c r =>
    rw [escL_cons] at h
    cases hk : keepB c
    · rw [esc_drop hk] at h; simp at h
    · rw [esc_keep hk] at h
      simp at h
      rw [h.1, escL_nil h.2]
theorem escL_dots {l : List UInt8} (h : escL l = [46, 46]) : l = [46, 46] := by
  cases l with
  | nil => simp [escL] at h
  | cons c r =>
    rw [escL_cons] at h
    cases hk : keepB c
    · rw [esc_drop hk] at h; simp at h
    · rw [esc_keep hk] at h
      simp at h
      rw [h.1, escL_dot h.2]
theorem esc_good {s : List UInt8} (h : Good s) : Good (escL s) := ⟨fun e => h.a (escL_nil e), fun e => h.b (escL_dot e), fun e => h.c (escL_dots e), escL_no h.d⟩
theorem esc47 : esc 47 = [47] := by decide
theorem escL_enc : ∀ st : List (List UInt8), escL (encS st) = encS (st.map escL)
  | [] => rfl
  | x :: r => by
    rw [encS_cons, List.cons_append, escL_cons, esc47, escL_append, escL_enc r, List.map_cons, encS_cons]
    rfl
/-- canonicalURI's answer has a clean shape. -/
theorem canon_shape (l : List UInt8) : canon l = [47] ∨ ∃ (st : List (List UInt8)) (t : Bool), st ≠ [] ∧ (∀ x ∈ st, Good x) ∧ canon l = encS st ++ (if t = true then [47] else []) := by
  have hg := segs_good l
  unfold canon path
  generalize segs l = st at hg
  by_cases h : st = []
  · left; rw [if_pos h]; decide
  · right
    refine ⟨st.map escL, endsS l, by simpa using h, fun x hx => ?_, ?_⟩
    · obtain ⟨y, hy, rfl⟩ := List.mem_map.1 hx
      exact esc_good (hg y hy)
    · rw [if_neg h, escL_append, escL_enc]
      congr 1
      cases endsS l
      · rfl
      · decide

/-- the scan over the inner part. -/
structure Cln (m : List UInt8) (ss k : Nat) : Prop where
  le : ss ≤ k
  kn : k ≤ m.length + 1
  mid : k ≤ m.length → NoS (m.drop ss) (k - ss) ∧ ∀ x ∈ splitOn (m.drop ss), Good x
theorem Cln.zero {st : List (List UInt8)} (h : st ≠ []) (hg : ∀ x ∈ st, Good x) : Cln (inner st) 0 0 :=
  ⟨Nat.le_refl _, Nat.zero_le _, fun _ => ⟨NoS.zero _, by rw [List.drop_zero, (split_inner st h (fun x hx => (hg x hx).d)).1]; exact hg⟩⟩
theorem Cln.skip {l : List UInt8} {ss k : Nat} {x : UInt8} (h : Cln l ss k) (hx : l[k]? = some x) (hn : x ≠ 47) : Cln l ss (k + 1) := by
  have hk := (List.getElem?_eq_some_iff.1 hx).1
  have h1 := h.le
  obtain ⟨h2, h3⟩ := h.mid (by omega)
  refine ⟨by omega, by omega, fun _ => ⟨?_, h3⟩⟩
  rw [show k + 1 - ss = (k - ss) + 1 by omega]
  refine h2.succ ?_ hn
  rw [List.getElem?_drop, show ss + (k - ss) = k by omega]
  exact hx
theorem Cln.cut {l : List UInt8} {ss k : Nat} (h : Cln l ss k) (hb : l[k]? = some 47 ∨ k = l.length) : Good ((l.drop ss).take (k - ss)) ∧ Cln l (k + 1) (k + 1) := by
  have h1 := h.le
  rcases hb with hx | rfl
  · have hk := (List.getElem?_eq_some_iff.1 hx).1
    obtain ⟨h2, h3⟩ := h.mid (by omega)
    have e := splitOn_at h2 (by rw [List.getElem?_drop, show ss + (k - ss) = k by omega]; exact hx)
    rw [List.drop_drop, show ss + (k - ss + 1) = k + 1 by omega] at e
    rw [e] at h3
    refine ⟨h3 _ (List.mem_cons_self ..), Nat.le_refl _, by omega, fun _ => ⟨by rw [Nat.sub_self]; exact NoS.zero _, fun x hx => h3 x (List.mem_cons_of_mem _ hx)⟩⟩
  · obtain ⟨h2, h3⟩ := h.mid (Nat.le_refl _)
    have hl : (l.drop ss).length = l.length - ss := List.length_drop
    rw [splitOn_all (by rw [hl]; exact h2)] at h3
    refine ⟨?_, Nat.le_refl _, Nat.le_refl _, fun h' => by omega⟩
    rw [List.take_of_length_le (by omega)]
    exact h3 _ (List.mem_cons_self ..)

end Go.Proofs.Qxb6605252aDoor
