import Derived.Test.Qxb6605443aDoorWi
namespace Go.Proofs.Qxb6605443aDoor
set_option linter.unusedVariables false
set_option linter.unusedSimpArgs false

theorem idx_step (c x : UInt8) (r : List UInt8) : Lib.index (x :: r) [c] = if x = c then 0 else if Lib.index r [c] == -1 then -1 else Lib.index r [c] + 1 := by
  rw [Lib.index]
  by_cases h : x = c
  · subst h; simp [List.isPrefixOf]
  · simp [List.isPrefixOf, Ne.symm h, h]
theorem idx_miss (c : UInt8) : ∀ l : List UInt8, (∀ x ∈ l, x ≠ c) → Lib.index l [c] = -1
  | [], _ => by simp [Lib.index]
  | x :: r, h => by
    rw [idx_step, if_neg (h x (List.mem_cons_self ..)), idx_miss c r (fun y hy => h y (List.mem_cons_of_mem _ hy))]
    rfl
theorem idx_hit (c : UInt8) (v : List UInt8) : ∀ n : List UInt8, (∀ x ∈ n, x ≠ c) → Lib.index (n ++ c :: v) [c] = (n.length : Int)
  | [], _ => by rw [List.nil_append, idx_step, if_pos rfl]; rfl
  | x :: r, h => by
    rw [List.cons_append, idx_step, if_neg (h x (List.mem_cons_self ..)), idx_hit c v r (fun y hy => h y (List.mem_cons_of_mem _ hy))]
    have : (((r.length : Nat) : Int) == -1) = false := beq_eq_false_iff_ne.2 (by omega)
    rw [this, List.length_cons]
    simp
theorem cut_miss (l : List UInt8) (c : UInt8) (h : ∀ x ∈ l, x ≠ c) : Lib.cut l [c] = (l, [], false) := by
  unfold Lib.cut
  rw [idx_miss c l h]; rfl
theorem cut_hit (n v : List UInt8) (c : UInt8) (h : ∀ x ∈ n, x ≠ c) : Lib.cut (n ++ c :: v) [c] = (n, v, true) := by
  unfold Lib.cut
  rw [idx_hit c v n h, if_pos (by omega)]
  simp
theorem dw_head (l : List UInt8) (h : l.head? ≠ some 32) : l.dropWhile (fun x => x == 32) = l := by
  cases l with
  | nil => rfl
  | cons a r =>
    have ha : a ≠ 32 := by simpa using h
    rw [List.dropWhile_cons, if_neg (by simpa using ha)]
theorem trim_id (l : List UInt8) (h1 : l.head? ≠ some 32) (h2 : l.getLast? ≠ some 32) : Lib.trimB l 32 = l := by
  unfold Lib.trimB Lib.trimLeftB Lib.trimRightB
  rw [dw_head l.reverse (by rw [List.head?_reverse]; exact h2), List.reverse_reverse, dw_head l h1]

/-- the cookie piece reads back. -/
theorem pf_piece (n v : List UInt8) (f : Nat) (h1 : ∀ x ∈ n, x ≠ 59 ∧ x ≠ 61) (h2 : n.head? ≠ some 32) (h3 : ∀ x ∈ v, x ≠ 59) (h4 : v.getLast? ≠ some 32) :
    pf n (f + 1) (n ++ 61 :: v) = some v := by
  have hc := cut_miss (n ++ 61 :: v) 59 (fun x hx => by
    rcases List.mem_append.1 hx with h | h
    · exact (h1 x h).1
    · rcases List.mem_cons.1 h with h | h
      · rw [h]; decide
      · exact h3 x h)
  have ht := trim_id (n ++ 61 :: v) (by
    cases n with
    | nil => simp
    | cons a r => simpa using h2) (by
    rw [List.getLast?_append]
    cases v with
    | nil => simp
    | cons a r => rw [List.getLast?_cons_cons]; cases hl : (a :: r).getLast? with
      | none => simp at hl
      | some z => rw [hl] at h4; simpa using h4)
  have hk := cut_hit n v 61 (fun x hx => (h1 x hx).2)
  rw [pf, if_neg (by simp), hc]
  simp only [ht, hk]
  simp

theorem ck_pre (n v : List UInt8) (P : ByteArray) (hs : List (ByteArray × ByteArray)) (hP : P.data.toList = n ++ 61 :: v) (h1 : ∀ x ∈ n, x ≠ 59 ∧ x ≠ 61) (h2 : n.head? ≠ some 32) (h3 : ∀ x ∈ v, x ≠ 59) (h4 : v.getLast? ≠ some 32) :
    ckF n ((⟨#[67, 111, 111, 107, 105, 101]⟩, P) :: hs) = some v :=
  ck_some fold_big (by rw [hP]; exact pf_piece n v _ h1 h2 h3 h4)
theorem ck_post (n v : List UInt8) (P : ByteArray) (hs : List (ByteArray × ByteArray)) (hP : P.data.toList = n ++ 61 :: v) (h1 : ∀ x ∈ n, x ≠ 59 ∧ x ≠ 61) (h2 : n.head? ≠ some 32) (h3 : ∀ x ∈ v, x ≠ 59) (h4 : v.getLast? ≠ some 32) :
    ckF n (hs ++ [(⟨#[99, 111, 111, 107, 105, 101]⟩, P)]) = (ckF n hs).or (some v) := by
  unfold ckF
  rw [List.findSome?_append]
  congr 1
  exact ck_some fold_small (by rw [hP]; exact pf_piece n v _ h1 h2 h3 h4)
end Go.Proofs.Qxb6605443aDoor
