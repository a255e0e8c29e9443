import Derived.Test.Qxb6605443aDoorWd
namespace Go.Proofs.Qxb6605443aDoor
open Go.RowKit
set_option linter.unusedVariables false
set_option linter.unusedSimpArgs false
set_option linter.unnecessarySimpa false

theorem zz_at (E t : ByteArray) (b : Bool) (w : World) (hE : E.size ≤ 800000) (ht : t.size ≤ 100) (h : want (E.data.toList ++ t.data.toList) = b) :
    Calls Tryd.prog 13 #[.string (E ++ t)] w fun e w' => e = .returned (.bool b) ∧ Below w.heap.size w w' := by
  have h1 := zz_reg (E ++ t) w (by rw [ByteArray.size_append]; omega)
  have h2 : (E ++ t).data.toList = E.data.toList ++ t.data.toList := by simp [ByteArray.data_append]
  rw [h2, h] at h1
  exact h1

set_option maxHeartbeats 1000000 in
theorem tails_any (E : ByteArray) (w : World) (hE : E.size ≤ 800000) (h : ∀ t, want (E.data.toList ++ t) = want t) :
    Calls Tryd.prog 16 #[.string E] w fun e w' => e = .returned (.bool true) ∧ Below w.heap.size w w' := by
  have h1 := fun w => zz_at E ⟨#[37]⟩ false w hE (by decide) (by rw [h]; exact tails.1)
  have h2 := fun w => zz_at E ⟨#[37, 52]⟩ false w hE (by decide) (by rw [h]; exact tails.2.1)
  have h3 := fun w => zz_at E ⟨#[37, 52, 103]⟩ false w hE (by decide) (by rw [h]; exact tails.2.2.1)
  have h4 := fun w => zz_at E ⟨#[32]⟩ false w hE (by decide) (by rw [h]; exact tails.2.2.2)
  have H1 := Hid.mk' h1
  have H2 := Hid.mk' h2
  have H3 := Hid.mk' h3
  have H4 := Hid.mk' h4
  clear h1 h2 h3 h4 h
  go_enter Tryd.func16, Tryd.ntmps16
  go_wp2_with fail
  refine (H1.out _).mono ?_
  rintro e w1 ⟨rfl, hb1⟩
  go_wp2_with fail
  refine (H2.out _).mono ?_
  rintro e w2 ⟨rfl, hb2⟩
  go_wp2_with fail
  refine (H3.out _).mono ?_
  rintro e w3 ⟨rfl, hb3⟩
  go_wp2_with fail
  refine (H4.out _).mono ?_
  rintro e w4 ⟨rfl, hb4⟩
  go_wp2
  go_ret
  have g2 := hb1.trans (hb2.mono hb1.size)
  have g3 := g2.trans (hb3.mono g2.size)
  exact ⟨rfl, g3.trans (hb4.mono g3.size)⟩

set_option maxHeartbeats 400000 in
theorem law5_big (s : ByteArray) (w : World) (h : 262144 < s.size) :
    Calls Tryd.prog 5 #[.string s] w fun e w' => e = .returned (.bool true) ∧ w' = w := by
  by_cases h2 : s.size ≤ 1048576
  · have h' : (262144 : Int) < (s.size : Int) := by omega
    go_enter Tryd.func5, Tryd.ntmps5
    go_wp2_with (go_at_call 14; refine (bytes14_yes _ _ h2).mono ?_; rintro e w' ⟨rfl, rfl⟩)
    go_ret
    exact ⟨rfl, rfl⟩
  · go_enter Tryd.func5, Tryd.ntmps5
    go_wp2_with (go_at_call 14; refine (bytes14_no _ _ (by omega)).mono ?_; rintro e w' ⟨rfl, rfl⟩)
    go_ret
    exact ⟨rfl, rfl⟩

theorem esc_size (D s : ByteArray) (hs : s.size ≤ 262144) (U : ByteArray) (hU : U = ⟨(escR D.data.toList s.data.toList).toArray⟩) : U.size ≤ 800000 := by
  have h1 := escR_len D.data.toList s.data.toList
  have h2 := Lib.size_eq s
  rw [hU, Lib.size_eq]
  simp only
  omega

set_option maxHeartbeats 1000000 in
theorem law5_small (s : ByteArray) (w : World) (hs : s.size ≤ 262144) :
    Calls Tryd.prog 5 #[.string s] w fun e w' => e = .returned (.bool true) ∧ Below w.heap.size w w' := by
  have h' : ¬ (262144 : Int) < (s.size : Int) := by omega
  have e1 := fun w => esc_walk s ⟨upL.toArray⟩ w hs rfl
  have e2 := fun w => esc_walk s ⟨loL.toArray⟩ w hs rfl
  obtain ⟨U, hU⟩ : ∃ U : ByteArray, U = ⟨(escR upL s.data.toList).toArray⟩ := ⟨_, rfl⟩
  obtain ⟨V, hV⟩ : ∃ V : ByteArray, V = ⟨(escR loL s.data.toList).toArray⟩ := ⟨_, rfl⟩
  have zU : U.size ≤ 800000 := esc_size ⟨upL.toArray⟩ s hs U hU
  have zV : V.size ≤ 800000 := esc_size ⟨loL.toArray⟩ s hs V hV
  have wU : ∀ t, want (U.data.toList ++ t) = want t := fun t => by rw [hU]; exact want_esc _ up_hex _ _
  have wV : ∀ t, want (V.data.toList ++ t) = want t := fun t => by rw [hV]; exact want_esc _ lo_hex _ _
  have wU0 : want U.data.toList = true := by have := wU []; rw [List.append_nil] at this; exact this
  have wV0 : want V.data.toList = true := by have := wV []; rw [List.append_nil] at this; exact this
  have f1 := fun w => zz_reg U w (by omega)
  have f2 := fun w => zz_reg V w (by omega)
  rw [wU0] at f1
  rw [wV0] at f2
  have g1 := fun w => tails_any U w zU wU
  have g2 := fun w => tails_any V w zV wV
  have E1 : Hid (∀ w, Calls Tryd.prog 15 #[.string s, .string ⟨#[48, 49, 50, 51, 52, 53, 54, 55, 56, 57, 65, 66, 67, 68, 69, 70]⟩] w fun e w' => e = .returned (.string U) ∧ Below w.heap.size w w') := Hid.mk' (by rw [hU]; exact e1)
  have E2 : Hid (∀ w, Calls Tryd.prog 15 #[.string s, .string ⟨#[48, 49, 50, 51, 52, 53, 54, 55, 56, 57, 97, 98, 99, 100, 101, 102]⟩] w fun e w' => e = .returned (.string V) ∧ Below w.heap.size w w') := Hid.mk' (by rw [hV]; exact e2)
  have F1 := Hid.mk' f1
  have F2 := Hid.mk' f2
  have G1 := Hid.mk' g1
  have G2 := Hid.mk' g2
  clear e1 e2 f1 f2 g1 g2 wU wV wU0 wV0 hU hV zU zV
  go_enter Tryd.func5, Tryd.ntmps5
  go_wp2_with (go_at_call 14; refine (bytes14_yes _ _ (by omega)).mono ?_; rintro e w' ⟨rfl, hw⟩; rw [hw]; clear hw w')
  refine (E1.out _).mono ?_
  rintro e w1 ⟨rfl, hb1⟩
  go_wp2_with fail
  refine (E2.out _).mono ?_
  rintro e w2 ⟨rfl, hb2⟩
  go_wp2_with fail
  refine (F1.out _).mono ?_
  rintro e w3 ⟨rfl, hb3⟩
  go_wp2_with fail
  refine (F2.out _).mono ?_
  rintro e w4 ⟨rfl, hb4⟩
  go_wp2_with fail
  refine (G1.out _).mono ?_
  rintro e w5 ⟨rfl, hb5⟩
  go_wp2_with fail
  refine (G2.out _).mono ?_
  rintro e w6 ⟨rfl, hb6⟩
  go_wp2
  go_ret
  have g2 := hb1.trans (hb2.mono hb1.size)
  have g3 := g2.trans (hb3.mono g2.size)
  have g4 := g3.trans (hb4.mono g3.size)
  have g5 := g4.trans (hb5.mono g4.size)
  exact ⟨rfl, g5.trans (hb6.mono g5.size)⟩

theorem law5_any (s : ByteArray) (w : World) :
    Calls Tryd.prog 5 #[.string s] w fun e w' => e = .returned (.bool true) ∧ Below w.heap.size w w' := by
  by_cases h : 262144 < s.size
  · exact (law5_big s w h).mono fun e w' ⟨h1, h2⟩ => ⟨h1, h2 ▸ Below.refl _ _⟩
  · exact law5_small s w (by omega)
end Go.Proofs.Qxb6605443aDoor
