import Derived.Lib.SplitLaws
import Derived.Lib.Join
import Derived.Lib.Strings
namespace Go.Proofs.Qxb6605252aDoor
open Go.Lib

/-- cut at every slash. -/
def splitOn : List UInt8 → List (List UInt8)
  | [] => [[]]
  | c :: r => if c = 47 then [] :: splitOn r else match splitOn r with
    | [] => [[c]]
    | h :: t => (c :: h) :: t

theorem splitOn_ne (l : List UInt8) : splitOn l ≠ [] := by
  cases l with
  | nil => simp [splitOn]
  | cons c r =>
    unfold splitOn
    split
    · simp
    · split <;> simp

theorem splitK_on : ∀ l : List UInt8, splitK [47] 0 (count l [47]) l = splitOn l
  | [] => by rw [count_one]; rfl
  | c :: r => by
    have ih := splitK_on r
    by_cases hc : c = 47
    · subst hc
      have hix : index (47 :: r) [47] = 0 := by rw [index]; simp [List.isPrefixOf]
      rw [count_cons_eq, Nat.add_comm 1]
      unfold splitK splitOn
      rw [hix]
      simp [ih]
    · have hp : ([47] : List UInt8).isPrefixOf (c :: r) = false := by simp [List.isPrefixOf, Ne.symm hc]
      have hix : index (c :: r) [47] = if index r [47] == -1 then -1 else index r [47] + 1 := by rw [index, hp]; simp
      rw [count_cons_ne c 47 r hc]
      unfold splitOn
      rw [if_neg hc, ← ih]
      cases hk : count r [47] with
      | zero => simp [splitK]
      | succ k =>
        rw [splitK, splitK, hix]
        by_cases hm : index r [47] = -1
        · simp [hm]
        · have hge := index_ge r [47]
          obtain ⟨j, hj⟩ : ∃ j : Nat, index r [47] = j := ⟨(index r [47]).toNat, by omega⟩
          have h1 : ¬ ((j : Int) == -1) = true := by simp
          have h2 : ¬ ((j : Int) + 1 == -1) = true := by simp; omega
          rw [hj, if_neg h1, if_neg h1, if_neg h2]
          simp only [Int.toNat_natCast, Nat.add_zero, List.length_singleton]
          rw [show ((j : Int) + 1).toNat = j + 1 by omega]
          simp

/-- no slash in the first k. -/
def NoS (l : List UInt8) (k : Nat) : Prop := ∀ j x, j < k → l[j]? = some x → x ≠ 47
theorem NoS.zero (l : List UInt8) : NoS l 0 := fun _ _ h => absurd h (Nat.not_lt_zero _)
theorem NoS.succ {l : List UInt8} {i : Nat} {x : UInt8} (h : NoS l i) (hx : l[i]? = some x) (hb : x ≠ 47) : NoS l (i + 1) := by
  intro j y hj hy
  rcases Nat.lt_succ_iff_lt_or_eq.1 hj with h' | rfl
  · exact h j y h' hy
  · rw [hx] at hy
    obtain rfl := Option.some.inj hy
    exact hb
theorem splitOn_all : ∀ {l : List UInt8}, NoS l l.length → splitOn l = [l]
  | [], _ => rfl
  | c :: r, h => by
    have hc : c ≠ 47 := h 0 c (by simp) rfl
    have ih := splitOn_all (l := r) (fun j x hj hx => h (j + 1) x (by simpa using hj) (by simpa using hx))
    unfold splitOn
    rw [if_neg hc, ih]
theorem splitOn_at : ∀ {l : List UInt8} {k : Nat}, NoS l k → l[k]? = some 47 → splitOn l = l.take k :: splitOn (l.drop (k + 1))
  | [], k, _, h => by simp at h
  | c :: r, 0, _, h => by
    simp at h
    subst h
    conv => lhs; unfold splitOn
    simp
  | c :: r, k + 1, hn, h => by
    have hc : c ≠ 47 := hn 0 c (by omega) rfl
    have ih := splitOn_at (l := r) (k := k) (fun j x hj hx => hn (j + 1) x (by omega) (by simpa using hx)) (by simpa using h)
    conv => lhs; unfold splitOn
    rw [if_neg hc, ih]
    simp

/-- what the loop over the segments does to the kept ones. -/
def stepS (st : List (List UInt8)) (s : List UInt8) : List (List UInt8) :=
  if s = [] ∨ s = [46] then st else if s = [46, 46] then st.dropLast else st ++ [s]
/-- the segments that are kept. -/
def segs (l : List UInt8) : List (List UInt8) := (splitOn l).foldl stepS []
/-- each kept segment behind its slash. -/
def encS (st : List (List UInt8)) : List UInt8 := (st.map (47 :: ·)).flatten
/-- does it end in a slash. -/
def endsS (l : List UInt8) : Bool := l.getLast? == some 47
/-- the path before the second escaping. -/
def path (l : List UInt8) : List UInt8 :=
  if segs l = [] then [47] else encS (segs l) ++ (if endsS l = true then [47] else [])

theorem join_enc (st : List (List UInt8)) : 47 :: Lib.join st [47] = if st = [] then [47] else encS st := by
  cases st with
  | nil => simp [Lib.join_nil]
  | cons x r =>
    rw [if_neg (by simp), Lib.join_cons]
    simp only [encS, List.map_cons, List.flatten_cons, Lib.joinTail, List.cons_append, List.nil_append]

theorem encS_snoc (st : List (List UInt8)) (s : List UInt8) : encS (st ++ [s]) = encS st ++ 47 :: s := by simp [encS]

theorem encS_cons (x : List UInt8) (st : List (List UInt8)) : encS (x :: st) = 47 :: x ++ encS st := by simp [encS]
theorem encS_append (a b : List (List UInt8)) : encS (a ++ b) = encS a ++ encS b := by simp [encS]
theorem encS_split : ∀ l : List UInt8, encS (splitOn l) = 47 :: l
  | [] => rfl
  | c :: r => by
    have ih := encS_split r
    unfold splitOn
    by_cases hc : c = 47
    · subst hc
      rw [if_pos rfl, encS_cons, ih]; rfl
    · rw [if_neg hc]
      cases hs : splitOn r with
      | nil => exact absurd hs (splitOn_ne r)
      | cons h t =>
        rw [hs, encS_cons] at ih
        simp only [encS_cons]
        simp only [List.cons_append, List.cons.injEq, true_and] at ih ⊢
        exact ih
theorem encS_step (st : List (List UInt8)) (s : List UInt8) : (encS (stepS st s)).length ≤ (encS st).length + (s.length + 1) := by
  unfold stepS
  split
  · omega
  · split
    · have h1 : encS st = encS st.dropLast ++ encS (st.drop (st.length - 1)) := by
        rw [← encS_append, List.dropLast_eq_take, List.take_append_drop]
      have := congrArg List.length h1
      rw [List.length_append] at this
      omega
    · rw [encS_snoc, List.length_append, List.length_cons]
      omega
theorem encS_fold : ∀ (xs st : List (List UInt8)), (encS (xs.foldl stepS st)).length ≤ (encS st).length + (encS xs).length
  | [], st => by simp [encS]
  | x :: xs, st => by
    rw [List.foldl_cons, encS_cons]
    have h1 := encS_fold xs (stepS st x)
    have h2 := encS_step st x
    simp only [List.length_append, List.length_cons]
    omega
theorem segs_len (l : List UInt8) : (encS (segs l)).length ≤ l.length + 1 := by
  have := encS_fold (splitOn l) []
  rw [encS_split] at this
  simpa [segs, encS] using this
theorem path_len (l : List UInt8) : (path l).length ≤ l.length + 2 := by
  have := segs_len l
  unfold path
  split
  · simp
  · split <;> simp <;> omega

/-- the same over strings as the walk holds them. -/
def stepB (st : List ByteArray) (s : ByteArray) : List ByteArray :=
  if s.data.toList = [] ∨ s.data.toList = [46] then st else if s.data.toList = [46, 46] then st.dropLast else st ++ [s]
theorem stepB_data (st : List ByteArray) (s : ByteArray) : (stepB st s).map (·.data.toList) = stepS (st.map (·.data.toList)) s.data.toList := by
  unfold stepB stepS
  split
  · rfl
  · split
    · simp [List.map_dropLast]
    · simp
theorem foldB_data : ∀ (xs st : List ByteArray), (xs.foldl stepB st).map (·.data.toList) = (xs.map (·.data.toList)).foldl stepS (st.map (·.data.toList))
  | [], _ => rfl
  | x :: xs, st => by rw [List.foldl_cons, foldB_data xs, stepB_data]; rfl
def parts (s : ByteArray) : List ByteArray := Lib.splitB ⟨#[47]⟩ 0 (Lib.countB s ⟨#[47]⟩) s
theorem parts_data (s : ByteArray) : (parts s).map (·.data.toList) = splitOn s.data.toList := by
  unfold parts
  rw [splitB_data]
  exact splitK_on s.data.toList
theorem parts_length (s : ByteArray) : (parts s).length = Lib.countB s ⟨#[47]⟩ + 1 := splitB_all ⟨#[47]⟩ (by decide) 0 _ s rfl
theorem parts_le (s : ByteArray) : (parts s).length ≤ s.size + 1 := by
  rw [parts_length]
  have := countB_le ⟨#[47]⟩ (by decide) s.size s (Nat.le_refl _)
  omega
def segB (s : ByteArray) : List ByteArray := (parts s).foldl stepB []
theorem segB_data (s : ByteArray) : (segB s).map (·.data.toList) = segs s.data.toList := by
  unfold segB segs
  rw [foldB_data, parts_data]; rfl
theorem stepB_len (st : List ByteArray) (s : ByteArray) : (stepB st s).length ≤ st.length + 1 := by
  unfold stepB
  split
  · omega
  · split
    · simp; omega
    · simp
theorem take_fold (xs : List ByteArray) (k : Nat) (x : ByteArray) (h : xs[k]? = some x) : (xs.take (k + 1)).foldl stepB [] = stepB ((xs.take k).foldl stepB []) x := by
  obtain ⟨hk, rfl⟩ := List.getElem?_eq_some_iff.1 h
  rw [List.take_succ_eq_append_getElem hk, List.foldl_append]
  rfl
theorem take_fold_len (xs : List ByteArray) : ∀ k, ((xs.take k).foldl stepB []).length ≤ k
  | 0 => by simp
  | k + 1 => by
    have ih := take_fold_len xs k
    by_cases hk : k < xs.length
    · rw [take_fold xs k _ (List.getElem?_eq_getElem hk)]
      have := stepB_len ((xs.take k).foldl stepB []) xs[k]
      omega
    · rw [List.take_of_length_le (by omega)]
      rw [List.take_of_length_le (by omega)] at ih
      omega

/-- an unreserved character. -/
def UnR (n : Nat) : Prop := (65 ≤ n ∧ n ≤ 90) ∨ (97 ≤ n ∧ n ≤ 122) ∨ (48 ≤ n ∧ n ≤ 57) ∨ n = 45 ∨ n = 46 ∨ n = 95 ∨ n = 126
/-- it stands for itself: unreserved, or a slash. -/
def keepB (c : UInt8) : Bool := decide ((65 ≤ c.toNat ∧ c.toNat ≤ 90) ∨ (97 ≤ c.toNat ∧ c.toNat ≤ 122) ∨ (48 ≤ c.toNat ∧ c.toNat ≤ 57) ∨ c.toNat = 45 ∨ c.toNat = 46 ∨ c.toNat = 95 ∨ c.toNat = 126 ∨ c.toNat = 47)
theorem keep_iff (c : UInt8) : keepB c = true ↔ UnR c.toNat ∨ c.toNat = 47 := by
  unfold keepB UnR
  rw [decide_eq_true_iff]
  omega
/-- an upper-case hex digit. -/
def hexD (n : Nat) : UInt8 := if n < 10 then UInt8.ofNat (48 + n) else UInt8.ofNat (55 + n)
/-- a byte's canonical form. -/
def esc (c : UInt8) : List UInt8 := if keepB c = true then [c] else [37, hexD (c.toNat / 16), hexD (c.toNat % 16)]
def escL (l : List UInt8) : List UInt8 := l.flatMap esc
theorem escL_snoc (l : List UInt8) (c : UInt8) : escL (l ++ [c]) = escL l ++ esc c := by simp [escL]
theorem esc_len (c : UInt8) : 1 ≤ (esc c).length ∧ (esc c).length ≤ 3 := by
  unfold esc
  split <;> simp
theorem escL_len : ∀ l : List UInt8, (escL l).length ≤ 3 * l.length
  | [] => by simp [escL]
  | c :: l => by
    have := escL_len l
    have h2 := (esc_len c).2
    simp only [escL, List.flatMap_cons, List.length_append, List.length_cons] at this ⊢
    omega
/-- canonicalURI's answer. -/
def canon (l : List UInt8) : List UInt8 := escL (path l)

theorem suffix_ends (l : List UInt8) : Lib.hasSuffix l [47] = endsS l := by
  unfold Lib.hasSuffix endsS
  rcases List.eq_nil_or_concat l with rfl | ⟨a, c, rfl⟩
  · rfl
  · rw [List.concat_eq_append, List.getLast?_concat, Bool.eq_iff_iff]
    simp only [List.isSuffixOf_iff_suffix, beq_iff_eq, Option.some.injEq]
    constructor
    · rintro ⟨t, ht⟩
      have := List.append_inj_right' ht rfl
      simpa using this.symm
    · rintro rfl
      exact ⟨a, rfl⟩

theorem escL_append (a b : List UInt8) : escL (a ++ b) = escL a ++ escL b := by simp [escL]
theorem escL_split (p : List UInt8) (j : Nat) (c : UInt8) (h : p[j]? = some c) : escL p = escL (p.take j) ++ (esc c ++ escL (p.drop (j + 1))) := by
  obtain ⟨hj, hc⟩ := List.getElem?_eq_some_iff.1 h
  have e : p = p.take j ++ c :: p.drop (j + 1) := by
    conv => lhs; rw [← List.take_append_drop j p]
    rw [List.drop_eq_getElem_cons hj, hc]
  conv => lhs; rw [e]
  rw [escL_append]
  simp [escL]
/-- the byte at place t of the form of p's byte j. -/
theorem escL_at (p : List UInt8) (j t : Nat) (c : UInt8) (h : p[j]? = some c) (ht : t < (esc c).length) : (escL p)[(escL (p.take j)).length + t]? = (esc c)[t]? := by
  rw [escL_split p j c h, List.getElem?_append_right (by omega), show (escL (p.take j)).length + t - (escL (p.take j)).length = t by omega, List.getElem?_append_left ht]
theorem escL_room (p : List UInt8) (j : Nat) (c : UInt8) (h : p[j]? = some c) : (escL (p.take j)).length + (esc c).length ≤ (escL p).length := by
  rw [escL_split p j c h]
  simp only [List.length_append]
  omega
theorem escL_take_succ (p : List UInt8) (j : Nat) (c : UInt8) (h : p[j]? = some c) : (escL (p.take (j + 1))).length = (escL (p.take j)).length + (esc c).length := by
  rw [List.take_add_one, h]
  simp only [Option.toList]
  rw [escL_snoc, List.length_append]
theorem hexD_low {m : Nat} (h : m < 10) : (hexD m).toNat = 48 + m := by
  unfold hexD
  rw [if_pos h]
  simp; omega
theorem hexD_high {m : Nat} (h : 10 ≤ m) (h2 : m < 16) : (hexD m).toNat = 55 + m := by
  unfold hexD
  rw [if_neg (by omega)]
  simp; omega

/-- where each kept segment begins. -/
def offs : Nat → List (List UInt8) → List Nat
  | _, [] => []
  | o, s :: r => o :: offs (o + (s.length + 1)) r
theorem offs_length : ∀ (o : Nat) (st : List (List UInt8)), (offs o st).length = st.length
  | _, [] => rfl
  | o, s :: r => by simp [offs, offs_length]
theorem offs_snoc : ∀ (o : Nat) (st : List (List UInt8)) (s : List UInt8), offs o (st ++ [s]) = offs o st ++ [o + (encS st).length]
  | o, [], s => by simp [offs, encS]
  | o, x :: r, s => by
    simp only [List.cons_append, offs, offs_snoc (o + (x.length + 1)) r s, encS_cons, List.length_append, List.length_cons]
    rw [show o + (x.length + 1) + (encS r).length = o + (x.length + (encS r).length + 1) by omega]

/-- the one-pass scan over the path: at k, the current segment from ss on, the kept ones st. -/
structure Nrm (l : List UInt8) (st : List (List UInt8)) (ss k : Nat) : Prop where
  le : ss ≤ k
  kn : k ≤ l.length + 1
  mid : k ≤ l.length → NoS (l.drop ss) (k - ss) ∧ segs l = (splitOn (l.drop ss)).foldl stepS st
  fin : k = l.length + 1 → segs l = st
  few : (encS st).length ≤ ss
theorem Nrm.zero (l : List UInt8) : Nrm l [] 0 0 := ⟨Nat.le_refl _, Nat.zero_le _, fun _ => ⟨NoS.zero _, rfl⟩, fun h => by omega, by simp [encS]⟩
theorem Nrm.skip {l : List UInt8} {st : List (List UInt8)} {ss k : Nat} {x : UInt8} (h : Nrm l st ss k) (hx : l[k]? = some x) (hn : x ≠ 47) : Nrm l st ss (k + 1) := by
  have hk := (List.getElem?_eq_some_iff.1 hx).1
  have h1 := h.le
  obtain ⟨h2, h3⟩ := h.mid (by omega)
  refine ⟨by omega, by omega, fun _ => ⟨?_, h3⟩, fun h' => by omega, h.few⟩
  rw [show k + 1 - ss = (k - ss) + 1 by omega]
  refine h2.succ ?_ hn
  rw [List.getElem?_drop, show ss + (k - ss) = k by omega]
  exact hx
theorem Nrm.cut {l : List UInt8} {st : List (List UInt8)} {ss k : Nat} (h : Nrm l st ss k) (hb : l[k]? = some 47 ∨ k = l.length) : Nrm l (stepS st ((l.drop ss).take (k - ss))) (k + 1) (k + 1) := by
  have h1 := h.le
  have hlen : ((l.drop ss).take (k - ss)).length ≤ k - ss := List.length_take_le _ _
  have hfew : (encS (stepS st ((l.drop ss).take (k - ss)))).length ≤ k + 1 := by
    have := encS_step st ((l.drop ss).take (k - ss))
    have := h.few
    omega
  rcases hb with hx | rfl
  · have hk := (List.getElem?_eq_some_iff.1 hx).1
    obtain ⟨h2, h3⟩ := h.mid (by omega)
    refine ⟨Nat.le_refl _, by omega, fun _ => ⟨by rw [Nat.sub_self]; exact NoS.zero _, ?_⟩, fun h' => by omega, hfew⟩
    rw [h3, splitOn_at h2 (by rw [List.getElem?_drop, show ss + (k - ss) = k by omega]; exact hx), List.foldl_cons, List.drop_drop, show ss + (k - ss + 1) = k + 1 by omega]
  · obtain ⟨h2, h3⟩ := h.mid (Nat.le_refl _)
    have hl : (l.drop ss).length = l.length - ss := List.length_drop
    refine ⟨Nat.le_refl _, Nat.le_refl _, fun h' => by omega, fun _ => ?_, hfew⟩
    rw [h3, splitOn_all (by rw [hl]; exact h2)]
    rw [List.take_of_length_le (by omega)]
    rfl

theorem stepS_skip {st : List (List UInt8)} {s : List UInt8} (h : s = [] ∨ s = [46]) : stepS st s = st := if_pos h
theorem stepS_pop {st : List (List UInt8)} {s : List UInt8} (h : s = [46, 46]) : stepS st s = st.dropLast := by
  unfold stepS
  rw [if_neg (by rw [h]; simp), if_pos h]
theorem stepS_push {st : List (List UInt8)} {s : List UInt8} (h1 : s ≠ []) (h2 : s ≠ [46]) (h3 : s ≠ [46, 46]) : stepS st s = st ++ [s] := by
  unfold stepS
  rw [if_neg (by rintro (h | h); exact h1 h; exact h2 h), if_neg h3]

end Go.Proofs.Qxb6605252aDoor
