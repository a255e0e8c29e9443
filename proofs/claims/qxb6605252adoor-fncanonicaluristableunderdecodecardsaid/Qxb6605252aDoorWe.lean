import Derived.Test.Qxb6605252aDoorWb
import Derived.Test.Qxb6605252aDoorWc
import Derived.Test.Qxb6605252aDoorWd
namespace Go.Proofs.Qxb6605252aDoor
open Go.RowKit
set_option linter.unusedVariables false

set_option maxHeartbeats 400000 in
theorem zz_any (s : ByteArray) (m : Int) (w : World) (hs : s.size ≤ 70000) (hm : w.cell? ⟨0, 0, none⟩ = some (.int .i64 m)) :
    Calls Tryd.prog 6 #[.string s] w fun e w' => e = .returned (.string ⟨(canon s.data.toList).toArray⟩) ∧ Below w.heap.size w w' := by
  have h := canon_any s m w hs hm
  go_enter Tryd.func6, Tryd.ntmps6
  go_wp2_with (go_at_call 11; refine h.mono ?_; rintro e w1 ⟨rfl, hb⟩)
  go_ret
  exact ⟨rfl, hb⟩

set_option maxHeartbeats 400000 in
theorem law3_big (s : ByteArray) (w : World) (h : 65536 < s.size) :
    Calls Tryd.prog 3 #[.string s] w fun e w' => e = .returned (.bool true) ∧ w' = w := by
  by_cases h2 : s.size ≤ 1048576
  · have h' : (65536 : Int) < (s.size : Int) := by omega
    go_enter Tryd.func3, Tryd.ntmps3
    go_wp2_with (go_at_call 5; refine (bytes5_yes _ _ h2).mono ?_; rintro e w' ⟨rfl, rfl⟩)
    go_ret
    exact ⟨rfl, rfl⟩
  · go_enter Tryd.func3, Tryd.ntmps3
    go_wp2_with (go_at_call 5; refine (bytes5_no _ _ (by omega)).mono ?_; rintro e w' ⟨rfl, rfl⟩)
    go_ret
    exact ⟨rfl, rfl⟩

set_option maxHeartbeats 1000000 in
theorem law3_small (s : ByteArray) (m : Int) (w : World) (h : s.size ≤ 65536) (hm : w.cell? ⟨0, 0, none⟩ = some (.int .i64 m)) :
    Calls Tryd.prog 3 #[.string s] w fun e w' => e = .returned (.bool true) ∧ Below w.heap.size w w' := by
  have h' : ¬ (65536 : Int) < (s.size : Int) := by omega
  have hpl : (path s.data.toList).length ≤ 70002 := by have h1 := path_len s.data.toList; have h2 := Lib.size_eq s; omega
  have h6 := zz_any s m w (by omega) hm
  obtain ⟨C, hC⟩ : ∃ C : ByteArray, C = ⟨(canon s.data.toList).toArray⟩ := ⟨_, rfl⟩
  rw [← hC] at h6
  have h7 := fun w1 => dec_any (path s.data.toList) C w1 (by rw [hC]; rfl) hpl
  have h8 := fun w2 => norm_any s s.data.toList w2 rfl h
  obtain ⟨D, hD⟩ : ∃ D : ByteArray, D = ⟨(path s.data.toList).toArray⟩ := ⟨_, rfl⟩
  rw [← hD] at h7 h8
  have HC := Hid.mk' hC
  have HD := Hid.mk' hD
  have H6 := Hid.mk' h6
  have H7 := Hid.mk' h7
  have H8 := Hid.mk' h8
  clear hC hD h6 h7 h8 hm
  go_enter Tryd.func3, Tryd.ntmps3
  go_wp2_with (first
    | (go_at_call 5; refine (bytes5_yes _ _ (by omega)).mono ?_; rintro e w' ⟨rfl, hw⟩; rw [hw]; clear hw w')
    | (go_at_call 6; refine H6.out.mono ?_; rintro e w1 ⟨rfl, hb1⟩)
    | (go_at_call 7; refine (H7.out _).mono ?_; rintro e w2 ⟨rfl, hb2⟩)
    | (go_at_call 8; refine (H8.out _).mono ?_; rintro e w3 ⟨rfl, hb3⟩))
  go_ret
  have g2 : Below w.heap.size w w2 := hb1.trans (hb2.mono hb1.size)
  exact ⟨by simp, g2.trans (hb3.mono g2.size)⟩

theorem law3_any (s : ByteArray) (m : Int) (w : World) (hm : w.cell? ⟨0, 0, none⟩ = some (.int .i64 m)) :
    Calls Tryd.prog 3 #[.string s] w fun e w' => e = .returned (.bool true) ∧ Below w.heap.size w w' := by
  by_cases h : 65536 < s.size
  · exact (law3_big s w h).mono fun e w' ⟨h1, h2⟩ => ⟨h1, h2 ▸ Below.refl _ _⟩
  · exact law3_small s m w (by omega) hm
end Go.Proofs.Qxb6605252aDoor
