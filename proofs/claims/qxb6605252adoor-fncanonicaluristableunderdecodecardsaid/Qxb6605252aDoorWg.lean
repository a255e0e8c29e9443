import Derived.Test.Qxb6605252aDoorWe
import Derived.Test.Qxb6605252aDoorWf
import Derived.Test.Qxb6605252aDoorFr
namespace Go.Proofs.Qxb6605252aDoor
open Go.RowKit
set_option linter.unusedVariables false

theorem clean_any (s : ByteArray) (l : List UInt8) (w : World) (hs : s.data.toList = canon l) (hz : s.size ≤ 300000) :
    Calls Tryd.prog 10 #[.string s] w fun e w' => e = .returned (.bool true) ∧ w' = w := by
  rcases canon_shape l with h | ⟨st, t, hne, hg, h⟩
  · exact clean_one s w (hs.trans h)
  · exact clean_more s (inner st) st t w hne hg rfl (by rw [hs, h, enc_inner hne]) hz

set_option maxHeartbeats 400000 in
theorem law4_big (s : ByteArray) (w : World) (h : 65536 < s.size) :
    Calls Tryd.prog 4 #[.string s] w fun e w' => e = .returned (.bool true) ∧ w' = w := by
  by_cases h2 : s.size ≤ 1048576
  · have h' : (65536 : Int) < (s.size : Int) := by omega
    go_enter Tryd.func4, Tryd.ntmps4
    go_wp2_with (go_at_call 9; refine (bytes9_yes _ _ h2).mono ?_; rintro e w' ⟨rfl, rfl⟩)
    go_ret
    exact ⟨rfl, rfl⟩
  · go_enter Tryd.func4, Tryd.ntmps4
    go_wp2_with (go_at_call 9; refine (bytes9_no _ _ (by omega)).mono ?_; rintro e w' ⟨rfl, rfl⟩)
    go_ret
    exact ⟨rfl, rfl⟩

theorem canon_len (l : List UInt8) : (canon l).length ≤ 3 * (path l).length := by
  unfold canon
  induction path l with
  | nil => simp [escL]
  | cons c r ih =>
    have h1 := (esc_len c).2
    simp only [escL, List.flatMap_cons, List.length_append, List.length_cons] at ih ⊢
    omega

set_option maxHeartbeats 1000000 in
theorem law4_small (s : ByteArray) (m : Int) (w : World) (h : s.size ≤ 65536) (hm : w.cell? ⟨0, 0, none⟩ = some (.int .i64 m)) :
    Calls Tryd.prog 4 #[.string s] w fun e w' => e = .returned (.bool true) ∧ Below w.heap.size w w' := by
  have h' : ¬ (65536 : Int) < (s.size : Int) := by omega
  have hpl : (path s.data.toList).length ≤ 65538 := by have h1 := path_len s.data.toList; have h2 := Lib.size_eq s; omega
  have h6 := zz_any s m w (by omega) hm
  obtain ⟨C, hC⟩ : ∃ C : ByteArray, C = ⟨(canon s.data.toList).toArray⟩ := ⟨_, rfl⟩
  rw [← hC] at h6
  have h10 := fun w1 => clean_any C s.data.toList w1 (by rw [hC]) (by rw [Lib.size_eq, hC]; have := canon_len s.data.toList; simp only; omega)
  have h7 := fun w1 => dec_any (path s.data.toList) C w1 (by rw [hC]; rfl) (by omega)
  obtain ⟨D, hD⟩ : ∃ D : ByteArray, D = ⟨(path s.data.toList).toArray⟩ := ⟨_, rfl⟩
  rw [← hD] at h7
  have h6b := fun w2 hm2 => zz_any D m w2 (by rw [Lib.size_eq, hD]; simp only; omega) hm2
  have hDC : (⟨(canon D.data.toList).toArray⟩ : ByteArray) = C := by
    rw [hC, hD]; simp only; rw [canon_path]
  rw [hDC] at h6b
  have HM := Hid.mk' hm
  have H6 := Hid.mk' h6
  have H10 := Hid.mk' h10
  have H7 := Hid.mk' h7
  have H6b := Hid.mk' h6b
  clear hC hD h6 h7 h6b h10 hm hDC hpl
  go_enter Tryd.func4, Tryd.ntmps4
  go_wp2_with (first
    | (go_at_call 9; refine (bytes9_yes _ _ (by omega)).mono ?_; rintro e w' ⟨rfl, hw⟩; rw [hw]; clear hw w')
    | (go_at_call 10; refine (H10.out _).mono ?_; rintro e w' ⟨rfl, hw⟩; rw [hw]; clear hw w')
    | (go_at_call 6; refine H6.out.mono ?_; rintro e w1 ⟨rfl, hb1⟩)
    | (go_at_call 7; refine (H7.out _).mono ?_; rintro e w2 ⟨rfl, hb2⟩)
    | (go_at_call 6; refine (H6b.out _ ?hmx).mono ?_; case hmx => exact ((hb1.trans (hb2.mono hb1.size)).cell (pos_of_cell HM.out)).trans HM.out
       rintro e w3 ⟨rfl, hb3⟩))
  go_ret
  have g2 : Below w.heap.size w w2 := hb1.trans (hb2.mono hb1.size)
  exact ⟨by simp, g2.trans (hb3.mono g2.size)⟩

theorem law4_any (s : ByteArray) (m : Int) (w : World) (hm : w.cell? ⟨0, 0, none⟩ = some (.int .i64 m)) :
    Calls Tryd.prog 4 #[.string s] w fun e w' => e = .returned (.bool true) ∧ Below w.heap.size w w' := by
  by_cases h : 65536 < s.size
  · exact (law4_big s w h).mono fun e w' ⟨h1, h2⟩ => ⟨h1, h2 ▸ Below.refl _ _⟩
  · exact law4_small s m w (by omega) hm
end Go.Proofs.Qxb6605252aDoor
