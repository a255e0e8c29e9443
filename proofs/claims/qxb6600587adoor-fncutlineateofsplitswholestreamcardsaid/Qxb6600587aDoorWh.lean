import Derived.Test.Qxb6600587aDoorWg
namespace Go.Proofs.Qxb6600587aDoor
open Go.RowKit Go.Shelf
set_option linter.unusedVariables false

/-- what the walks know of a slice of bytes in world w. -/
structure Sl (w : World) (a : Option Addr) (n c : Nat) (l : List UInt8) : Prop where
  len : n = l.length
  small : n ≤ 65536
  cap : n ≤ c
  at_ : n ≠ 0 → ∃ b off, a = some ⟨b, off, none⟩ ∧ b < w.heap.size ∧ ∀ i y, l[i]? = some y → w.cell? ⟨b, off + i, none⟩ = some (.int .u8 (y.toNat : Int))
/-- what they know of the library's variables. -/
structure Libs (w : World) : Prop where
  max : ∃ m, w.cell? ⟨0, 0, none⟩ = some (.int .i64 m)
  pos : 0 < w.heap.size
  tabs : Lib.Utf8Tabs 1 2 w
theorem Sl.below {w w' : World} {a : Option Addr} {n c : Nat} {l : List UInt8} (h : Sl w a n c l) (hb : Below w.heap.size w w') : Sl w' a n c l :=
  ⟨h.len, h.small, h.cap, fun hn => by
    obtain ⟨b, off, h1, h2, h3⟩ := h.at_ hn
    exact ⟨b, off, h1, Nat.lt_of_lt_of_le h2 hb.size, fun i y hy => (hb.cell (p := ⟨b, off + i, none⟩) h2).trans (h3 i y hy)⟩⟩
theorem Libs.below {w w' : World} (h : Libs w) (hb : Below w.heap.size w w') : Libs w' :=
  ⟨let ⟨m, hm⟩ := h.max; ⟨m, (hb.cell (p := ⟨0, 0, none⟩) h.pos).trans hm⟩, Nat.lt_of_lt_of_le h.pos hb.size, Utf8Tabs_below h.tabs hb⟩

/-- cutLine's two results as a value. -/
def cutV (a : Option Addr) (c : Nat) : Option (Nat × Nat) → Value
  | none => .tuple #[.int .i64 0, .slice none 0 0]
  | some (m, k) => .tuple #[.int .i64 (m : Int), .slice a k c]

theorem cutLine_any (a : Option Addr) (n c : Nat) (l : List UInt8) (eof : Bool) (w : World) (hs : Sl w a n c l) (hL : Libs w) :
    Calls Tryd.prog 14 #[.slice a n c, .bool eof] w fun e w' => e = .returned (cutV a c (cutOf l eof)) ∧ Below w.heap.size w w' := by
  obtain ⟨m, hm⟩ := hL.max
  have hI := indexAny_any a n c l m w hs.len hs.small hs.cap hm hL.pos hL.tabs hs.at_
  have hlen := hs.len
  by_cases hb : brk l < l.length
  · have e1 : idx l = (brk l : Int) := if_pos hb
    rw [e1] at hI
    obtain ⟨b, off, rfl, hx, hc⟩ := hs.at_ (by omega)
    rcases at_brk hb with h13 | h10
    · have hne : ¬ l[brk l]? = some 10 := by rw [h13]; decide
      have hcc := hc _ _ h13
      unfold cutOf
      rw [if_pos hb, if_neg hne]
      by_cases h2 : brk l + 1 < l.length
      · rw [if_pos h2]
        obtain ⟨x, hxx⟩ : ∃ x, l[brk l + 1]? = some x := ⟨_, List.getElem?_eq_getElem h2⟩
        have hd := hc _ _ hxx
        by_cases hx10 : x = 10
        · subst hx10
          rw [if_pos hxx]
          exact cut_crlf b off n c (brk l) eof w (by omega) hs.small hs.cap hx hcc (by omega) hd hI
        · rw [if_neg (by rw [hxx]; simpa using hx10)]
          exact cut_cr b off n c (brk l) eof w (by omega) hs.small hs.cap hx hcc (by omega) _ (by
            rw [beq_eq_false_iff_ne]; intro h; apply hx10; apply UInt8.toNat_inj.1; show x.toNat = 10; omega) hd hI
      · rw [if_neg h2]
        cases eof
        · rw [if_neg (by simp)]
          exact cut_wait b off n c (brk l) w (by omega) hs.small hx hcc (by omega) hI
        · rw [if_pos rfl]
          exact cut_cr_end b off n c (brk l) w (by omega) hs.small hs.cap hx hcc (by omega) hI
    · unfold cutOf
      rw [if_pos hb, if_pos h10]
      exact cut_lf b off n c (brk l) eof w (by omega) hs.small hs.cap hx (hc _ _ h10) hI
  · have e1 : idx l = -1 := if_neg hb
    rw [e1] at hI
    unfold cutOf
    rw [if_neg hb]
    by_cases he : eof = true ∧ 0 < l.length
    · rw [if_pos he]
      obtain ⟨rfl, h0⟩ := he
      rw [← hlen] at h0 ⊢
      exact cut_none_eof a n c w h0 hs.small hI
    · rw [if_neg he]
      refine cut_none_nil a n c eof w ?_ hs.small hI
      cases eof
      · exact Or.inl rfl
      · right; have h9 : ¬ 0 < l.length := fun h => he ⟨rfl, h⟩; omega

set_option maxHeartbeats 400000 in
theorem zz_any (a : Option Addr) (n c : Nat) (l : List UInt8) (eof : Bool) (w : World) (hs : Sl w a n c l) (hL : Libs w) :
    Calls Tryd.prog 8 #[.slice a n c, .bool eof] w fun e w' => e = .returned (cutV a c (cutOf l eof)) ∧ Below w.heap.size w w' := by
  have h := cutLine_any a n c l eof w hs hL
  cases hq : cutOf l eof with
  | none =>
    rw [hq] at h
    clear hq
    simp only [cutV] at h ⊢
    go_enter Tryd.func8, Tryd.ntmps8
    go_wp2_with (go_at_call 14; refine h.mono ?_; rintro e w1 ⟨rfl, hb⟩)
    go_ret2
    exact ⟨rfl, hb⟩
  | some p =>
    obtain ⟨m, k⟩ := p
    rw [hq] at h
    clear hq
    simp only [cutV] at h ⊢
    go_enter Tryd.func8, Tryd.ntmps8
    go_wp2_with (go_at_call 14; refine h.mono ?_; rintro e w1 ⟨rfl, hb⟩)
    go_ret2
    exact ⟨rfl, hb⟩
end Go.Proofs.Qxb6600587aDoor
