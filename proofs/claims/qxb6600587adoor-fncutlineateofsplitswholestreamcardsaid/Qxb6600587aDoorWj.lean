import Derived.Test.Qxb6600587aDoorWi
namespace Go.Proofs.Qxb6600587aDoor
open Go.RowKit Go.Shelf
set_option linter.unusedVariables false

set_option maxHeartbeats 400000 in
theorem clone_empty (x : Addr) (c : Nat) (w : World) :
    Calls Tryd.prog 7 #[.slice (some x) 0 c] w fun e w' => e = .returned (.slice (some ⟨w.heap.size, 0, none⟩) 0 0) ∧ Below w.heap.size w w' := by
  obtain ⟨i0, hi, hz0, hz1, hz2⟩ := info_parts info5
  have hq := eqnil
  go_enter Tryd.func7, Tryd.ntmps7
  go_wp2_with (at_make; refine wpList_make_full _ rfl _ _ 22 rfl w.heap.size 5 i0 (.int .u8 0) 1 Tryd.underlying22 hi hz0 hz1 .i64 .i64 0 0 0 rfl rfl rfl rfl (by rw [hz2]; omega) (by unfold maxLen; omega) (Nat.le_refl _) ?_; intro w1 hown hgrow)
  have hb1 : Below w.heap.size w w1 := (Below.refl _ w).grown hgrow (Nat.le_refl _) (fun _ h => by cases h)
  go_loop [4] (fun i => i = .int .i64 0) (fun _ => 0)
  case atStart => rfl
  case round =>
    subst hrel
    go_wp2
    go_ret
    exact ⟨rfl, hb1⟩

/-- zzCloneBytes: a slice of the same bytes in new memory; nil stays nil. -/
theorem clone_any (a : Option Addr) (n c : Nat) (l : List UInt8) (w : World) (hs : Sl w a n c l) (hnil : a = none → c = 0) :
    Calls Tryd.prog 7 #[.slice a n c] w fun e w' => ∃ a', e = .returned (.slice a' n n) ∧ Sl w' a' n n l ∧ Below w.heap.size w w' := by
  by_cases hz : n = 0
  · have hl : l = [] := List.length_eq_zero_iff.1 (by rw [← hs.len]; exact hz)
    subst hz hl
    cases a with
    | none =>
      obtain rfl := hnil rfl
      exact (clone_nil w).mono fun e w' ⟨h1, h2⟩ => ⟨none, h1, ⟨rfl, by omega, by omega, fun h => absurd rfl h⟩, h2 ▸ Below.refl _ _⟩
    | some x =>
      exact (clone_empty x c w).mono fun e w' ⟨h1, h2⟩ => ⟨_, h1, ⟨rfl, by omega, by omega, fun h => absurd rfl h⟩, h2⟩
  · obtain ⟨b, off, rfl, hx, hc⟩ := hs.at_ hz
    refine (clone_some b off n c l w hs.small hs.len hx hc).mono fun e w' ⟨h1, h2, h3⟩ => ⟨_, h1, ⟨hs.len, hs.small, Nat.le_refl _, fun _ => ⟨_, 0, rfl, ?_, fun i y hy => ?_⟩⟩, h3⟩
    · obtain ⟨y, hy⟩ : ∃ y, l[0]? = some y := ⟨_, List.getElem?_eq_getElem (by have := hs.len; omega)⟩
      have hcell := h2.cellAt 0 (by omega)
      rw [List.getElem?_map, hy] at hcell
      rcases Nat.lt_or_ge w.heap.size w'.heap.size with h' | h'
      · exact h'
      · simp [World.cell?, Array.getElem?_eq_none h'] at hcell
    · have hi : i < n := by rw [hs.len]; exact (List.getElem?_eq_some_iff.1 hy).1
      have hcell := h2.cellAt i (by omega)
      rw [List.getElem?_map, hy] at hcell
      simpa [bv] using hcell

set_option maxHeartbeats 400000 in
theorem law1_big (a : Option Addr) (n c : Nat) (eof : Bool) (w : World) (h : 65536 < n) :
    Calls Tryd.prog 3 #[.slice a n c, .bool eof] w fun e w' => e = .returned (.bool true) ∧ w' = w := by
  by_cases h2 : n ≤ 1048576
  · have h' : (65536 : Int) < (n : Int) := by omega
    go_enter Tryd.func3, Tryd.ntmps3
    go_wp2_with (go_at_call 6; refine (bytes6_yes _ _ _ _ _ h2).mono ?_; rintro e w' ⟨rfl, rfl⟩)
    go_ret
    exact ⟨rfl, rfl⟩
  · go_enter Tryd.func3, Tryd.ntmps3
    go_wp2_with (go_at_call 6; refine (bytes6_no _ _ _ _ _ (by omega)).mono ?_; rintro e w' ⟨rfl, rfl⟩)
    go_ret
    exact ⟨rfl, rfl⟩

set_option maxHeartbeats 1000000 in
theorem law1_none (a : Option Addr) (n c : Nat) (l : List UInt8) (eof : Bool) (w : World) (hs : Sl w a n c l) (hL : Libs w) (hnil : a = none → c = 0) (hcut : cutOf l eof = none) :
    Calls Tryd.prog 3 #[.slice a n c, .bool eof] w fun e w' => e = .returned (.bool true) ∧ Below w.heap.size w w' := by
  have hn := hs.small
  have hn' : ¬ (65536 : Int) < (n : Int) := by omega
  have hw := none_wait hcut
  have hlen := hs.len
  have HC : Hid (cutOf l eof = none) := hcut
  have hq := eqnil
  clear hcut
  have h9 : ∀ (a' : Option Addr) (w2 : World), Sl w2 a' n n l → Calls Tryd.prog 9 #[.slice a' n n, .bool eof] w2 fun e w' => e = .returned (.bool true) ∧ w' = w2 := fun a' w2 h2 => by
    cases eof
    · exact wait_more a' n n l true w2 h2 ⟨fun _ => hw.2 rfl, fun _ => rfl⟩
    · have hz : n = 0 := by rw [hlen]; exact hw.1 rfl
      refine (wait_eof a' n n w2).mono fun e w' ⟨h1, h2⟩ => ⟨?_, h2⟩
      rw [h1, hz]; rfl
  have H9 : Hid (∀ (a' : Option Addr) (w2 : World), Sl w2 a' n n l → Calls Tryd.prog 9 #[.slice a' n n, .bool eof] w2 fun e w' => e = .returned (.bool true) ∧ w' = w2) := h9
  clear h9 hw hlen
  go_enter Tryd.func3, Tryd.ntmps3
  go_wp2_with (go_at_call 6; refine (bytes6_yes _ _ _ _ _ (by omega)).mono ?_; rintro e w' ⟨rfl, rfl⟩)
  refine (clone_any a n c l _ hs hnil).mono ?_
  rintro e w1 ⟨a', rfl, hs1, hb1⟩
  go_wp2_with fail
  have h8 := zz_any a' n n l eof w1 hs1 (hL.below hb1)
  rw [HC.out] at h8
  refine h8.mono ?_
  clear h8
  rintro e w2 ⟨rfl, hb2⟩
  simp only [cutV]
  go_wp2_with fail
  refine (H9.out a' w2 (hs1.below hb2)).mono ?_
  rintro e w3 ⟨rfl, rfl⟩
  go_wp2
  go_ret
  exact ⟨rfl, hb1.trans (hb2.mono hb1.size)⟩
end Go.Proofs.Qxb6600587aDoor
