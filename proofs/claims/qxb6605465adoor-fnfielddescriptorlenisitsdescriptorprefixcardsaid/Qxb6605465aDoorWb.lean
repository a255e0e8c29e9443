import Derived.Test.Qxb6605465aDoorWa
import Derived.Lib.OthersKept
namespace Go.Proofs.Qxb6605465aDoor
open Go.RowKit
set_option linter.unusedVariables false
set_option linter.unusedSimpArgs false
set_option linter.unnecessarySimpa false

theorem bad_high (x : UInt8) (h : 128 ≤ x.toNat) : badL.contains x = false := by
  cases hc : badL.contains x
  · rfl
  · have := (bad_iff x).1 hc
    exfalso
    rcases this with rfl | rfl | rfl | rfl <;> revert h <;> decide

set_option maxHeartbeats 2000000 in
set_option maxRecDepth 100000 in
theorem any_short (s : ByteArray) (w : World) (h8 : s.size ≤ 8) :
    Calls Tryd.prog 25 #[.string s, .string ⟨#[46, 59, 91, 47]⟩] w fun e w' => e = .returned (.int .i64 (Lib.indexAny s.data.toList badL)) ∧ Below w.heap.size w w' := by
  have h8z : decide ((8 : Int) < (s.size : Int)) = false := decide_eq_false (by omega)
  go_enter Tryd.func25, Tryd.ntmps25
  go_wp2_with (go_at_call 31; refine (Tryd.strings_shouldUseASCIISet _ _).mono ?_; rintro e w' ⟨rfl, hw⟩; rw [hw, h8z])
  go_loopg [9, 10] s.size (fun g _ _ wx => ∃ i : Nat, i + g = s.size ∧ wx.heap[w.heap.size]? = some (.stringIter s i) ∧ Below w.heap.size w wx ∧ Lib.NoAny s.data.toList badL i)
  case atStart => exact ⟨0, by omega, World.iter_heap w s 0, (Below.refl _ _).alloc (Nat.le_refl _) _, Lib.NoAny.zero _ _⟩
  case round =>
    obtain ⟨i, hig, hit, hb, hno⟩ := hrel
    have HN := Hid.mk' hno
    have HB := Hid.mk' hb
    have HI := Hid.mk' hit
    clear hno hb
    cases gk with
    | zero =>
      obtain rfl : i = s.size := by omega
      have hnx := fun ty => Lib.run_next_end_at (P := Tryd.prog) wr w.heap.size s s.size ty hit (by omega)
      clear hit
      go_wp2
      go_ret
      exact ⟨by rw [Lib.indexAny_none (by rw [← Lib.size_eq]; exact HN.out)]; rfl, HB.out⟩
    | succ g =>
      have hi : i < s.size := by omega
      obtain ⟨x, hx⟩ : ∃ x : UInt8, s[i]'hi = x := ⟨_, rfl⟩
      have hxl : s.data.toList[i]? = some x := by rw [← hx]; exact Lib.data_getElem? s i hi
      have Hx := Hid.mk' hxl
      clear hxl
      by_cases hx128 : x.toNat < 128
      · have hnx := fun ty => Lib.run_next_ascii_at (P := Tryd.prog) wr w.heap.size s i ty hit hi (by rw [hx]; exact hx128)
        rw [hx] at hnx
        have hit2 := Lib.iterAt_heap wr w.heap.size s i (i + 1) hit
        have hb2 := Lib.below_iterAt HB.out (Nat.le_refl _) s (i + 1)
        generalize wr.iterAt w.heap.size s (i + 1) = wi at hnx hit2 hb2
        have HI2 := Hid.mk' hit2
        have HB2 := Hid.mk' hb2
        clear hit hx hit2 hb2
        have hcon := Lib.contains_iff_indexByte badL x
        have hback : ((x.toNat : Int)).toNat.toUInt8 = x := by simp
        cases hin : badL.contains x
        · rw [hin] at hcon
          have hlt : ¬ ((0 : Int) ≤ Lib.indexByte badL x) := of_decide_eq_false hcon.symm
          clear hcon
          have hc30 : Calls Tryd.prog 30 #[.string ⟨#[46, 59, 91, 47]⟩, .int .i32 (x.toNat : Int)] wi fun e w' => e = .returned (.int .i64 (Lib.indexByte badL x)) ∧ w' = wi := by
            have := Tryd.strings_IndexRune_ascii ⟨#[46, 59, 91, 47]⟩ (x.toNat : Int) wi (by omega) (by omega)
            rw [hback] at this
            exact this
          generalize Lib.indexByte badL x = q at hlt hc30
          have HC := Hid.mk' hc30
          clear hc30
          go_wp2_with (go_at_call 30; refine HC.out.mono ?_; rintro e w' ⟨rfl, hw⟩; rw [hw]; clear hw w')
          go_roundg g
          case measure => omega
          case rel => exact ⟨i + 1, by omega, HI2.out, HB2.out, HN.out.succ Hx.out hin⟩
        · rw [hin] at hcon
          have hge : (0 : Int) ≤ Lib.indexByte badL x := of_decide_eq_true hcon.symm
          clear hcon
          have hc30 : Calls Tryd.prog 30 #[.string ⟨#[46, 59, 91, 47]⟩, .int .i32 (x.toNat : Int)] wi fun e w' => e = .returned (.int .i64 (Lib.indexByte badL x)) ∧ w' = wi := by
            have := Tryd.strings_IndexRune_ascii ⟨#[46, 59, 91, 47]⟩ (x.toNat : Int) wi (by omega) (by omega)
            rw [hback] at this
            exact this
          generalize Lib.indexByte badL x = q at hge hc30
          have HC := Hid.mk' hc30
          clear hc30
          go_wp2_with (go_at_call 30; refine HC.out.mono ?_; rintro e w' ⟨rfl, hw⟩; rw [hw]; clear hw w')
          go_ret
          exact ⟨by rw [Lib.indexAny_hit HN.out Hx.out hin]; rfl, HB2.out⟩
      · have hd := dec_of s i hi (by rw [hx]; omega)
        have hnx := fun ty => Lib.run_next_any_at (P := Tryd.prog) wr w.heap.size s i ty hit hi
        generalize (Utf8.decode s i).1 = r at hd hnx
        generalize (Utf8.decode s i).2 = k at hd hnx
        have hit2 := Lib.iterAt_heap wr w.heap.size s i (i + k) hit
        have hb2 := Lib.below_iterAt HB.out (Nat.le_refl _) s (i + k)
        generalize wr.iterAt w.heap.size s (i + k) = wi at hnx hit2 hb2
        have hc30 : Calls Tryd.prog 30 #[.string ⟨#[46, 59, 91, 47]⟩, .int .i32 (r : Int)] wi fun e w' => e = .returned (.int .i64 (-1)) ∧ Below wi.heap.size wi w' := by
          by_cases hr : (r : Int) = 65533
          · rw [hr]; exact rune_err wi
          · exact rune_high r wi (by have := hd.hi; omega) (by have := hd.lo; omega) hr hd.val
        have hno2 : Lib.NoAny s.data.toList badL (i + k) := fun j y hj hy => by
          rcases Nat.lt_or_ge j i with h' | h'
          · exact HN.out j y h' hy
          · exact bad_high y (hd.high j y h' hj hy)
        have hk1 := hd.one
        have hkf : i + k ≤ s.size := by rw [Lib.size_eq]; exact hd.fits
        have HC := Hid.mk' hc30
        have HN2 := Hid.mk' hno2
        have HI2 := Hid.mk' hit2
        have HB2 := Hid.mk' hb2
        clear hit hx hit2 hb2 hc30 hno2 hd hx128
        go_wp2_with (go_at_call 30; refine HC.out.mono ?_; rintro e w2 ⟨rfl, hb3⟩)
        go_roundg (s.size - (i + k))
        case measure => omega
        case rel => exact ⟨i + k, by omega, by
          rw [hb3.block _ (Array.getElem?_eq_some_iff.1 HI2.out).1]; exact HI2.out, HB2.out.trans (hb3.mono HB2.out.size), HN2.out⟩

theorem any_all (s : ByteArray) (w : World) (hs : s.size < 4294967281) :
    Calls Tryd.prog 25 #[.string s, .string ⟨#[46, 59, 91, 47]⟩] w fun e w' => e = .returned (.int .i64 (Lib.indexAny s.data.toList badL)) ∧ Below w.heap.size w w' := by
  by_cases h8 : s.size ≤ 8
  · exact any_short s w h8
  · refine (Tryd.strings_IndexAny_long s ⟨#[46, 59, 91, 47]⟩ w (by decide) (by omega) hs (by decide) (fun j b hb => chars_low b (List.mem_of_getElem? hb))).mono ?_
    rintro e w' ⟨rfl, rfl⟩
    exact ⟨rfl, ((Below.refl _ _).alloc (Nat.le_refl _) _).alloc (by simp) _⟩

theorem any_iff (l : List UInt8) : decide (0 ≤ Lib.indexAny l badL) = l.any badB := by
  induction l with
  | nil => rfl
  | cons b r ih =>
    rw [Lib.indexAny, List.any_cons]
    cases hb : badL.contains b
    · have e : badB b = false := hb
      rw [e, ← ih]
      have hge := Lib.indexAny_ge badL r
      by_cases hm : Lib.indexAny r badL = -1
      · simp [hm]
      · have : (Lib.indexAny r badL == -1) = false := beq_eq_false_iff_ne.2 hm
        rw [this]
        simp only [Bool.false_eq_true, if_false, Bool.false_or, decide_eq_decide]
        omega
    · have e : badB b = true := hb
      rw [e]; simp

set_option maxHeartbeats 400000 in
theorem contains_any (s : ByteArray) (w : World) (hs : s.size < 4294967281) :
    Calls Tryd.prog 21 #[.string s, .string ⟨#[46, 59, 91, 47]⟩] w fun e w' => e = .returned (.bool (s.data.toList.any badB)) ∧ Below w.heap.size w w' := by
  have h := any_all s w hs
  rw [← any_iff]
  generalize Lib.indexAny s.data.toList badL = q at h
  go_enter Tryd.func21, Tryd.ntmps21
  go_wp2_with (go_at_call 25; refine h.mono ?_; rintro e w1 ⟨rfl, hb⟩)
  go_ret
  exact ⟨rfl, hb⟩

set_option maxHeartbeats 400000 in
theorem unq_any (s : ByteArray) (w : World) (hs : s.size < 4294967281) :
    Calls Tryd.prog 18 #[.string s] w fun e w' => e = .returned (.bool (unq s.data.toList)) ∧ Below w.heap.size w w' := by
  have h := contains_any s w hs
  have hl := Lib.toList_data s
  unfold unq
  rw [← hl]
  rw [← hl] at h
  clear hl
  cases he : s.toList.isEmpty
  · cases hv : s.toList.any badB
    · rw [hv] at h
      go_enter Tryd.func18, Tryd.ntmps18
      go_wp2_with (go_at_call 21; refine h.mono ?_; rintro e w1 ⟨rfl, hb⟩)
      go_ret
      exact ⟨rfl, hb⟩
    · rw [hv] at h
      go_enter Tryd.func18, Tryd.ntmps18
      go_wp2_with (go_at_call 21; refine h.mono ?_; rintro e w1 ⟨rfl, hb⟩)
      go_ret
      exact ⟨rfl, hb⟩
  · go_enter Tryd.func18, Tryd.ntmps18
    go_wp2
    go_ret
    exact ⟨rfl, Below.refl _ _⟩
end Go.Proofs.Qxb6605465aDoor
