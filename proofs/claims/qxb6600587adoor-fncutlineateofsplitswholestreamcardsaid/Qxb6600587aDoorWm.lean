import Derived.Test.Qxb6600587aDoorWl
namespace Go.Proofs.Qxb6600587aDoor
open Go.RowKit Go.Shelf
set_option linter.unusedVariables false

theorem Hid.mk' {p : Prop} (h : p) : Hid p := h

set_option maxHeartbeats 4000000 in
theorem split_any (a : Option Addr) (n c : Nat) (l : List UInt8) (w : World) (hs : Sl w a n c l) :
    Calls Tryd.prog 11 #[.slice a n c] w fun e w' => ∃ vs ve, e = .returned (.tuple #[vs, ve]) ∧ Two w.heap.size w' vs ve ((seg 0 l).map Prod.fst) ((seg 0 l).map Prod.snd) ∧ Below w.heap.size w w' := by
  have hn := hs.small
  have HS : Hid (Sl w a n c l) := hs
  clear hs
  go_enter Tryd.func11, Tryd.ntmps11
  go_wp2
  go_loopw [4, 5, 6, 7] (fun vs ve ss si wr => ∃ (acc : List (Nat × Nat)) (s i : Nat), acc.length ≤ s ∧ ss = .int .i64 s ∧ si = .int .i64 i ∧ Two w.heap.size wr vs ve (acc.map Prod.fst) (acc.map Prod.snd) ∧ Below w.heap.size w wr ∧ Scan l acc s i) (fun _ _ _ si _ => n - (intOf si).toNat)
  case atStart => exact ⟨[], 0, 0, Nat.le_refl _, rfl, rfl, Two.start _ _, Below.refl _ _, Scan.zero l⟩
  case round =>
    obtain ⟨acc, s, i, hacc, rfl, rfl, hT, hB, hsc⟩ := hrel
    have HT := Hid.mk' hT
    have HB := Hid.mk' hB
    have HSc := Hid.mk' hsc
    have hsi := hsc.le1
    have hin : i ≤ n := by rw [HS.out.len]; exact hsc.le2
    clear hT hB hsc
    by_cases hlt : i < n
    · obtain ⟨b, off, rfl, hx, hc⟩ := HS.out.at_ (by omega)
      have HC := Hid.mk' hc
      clear hc
      have hil : i < l.length := by rw [← HS.out.len]; exact hlt
      obtain ⟨x, hxl⟩ : ∃ x : UInt8, l[i]? = some x := ⟨_, List.getElem?_eq_getElem hil⟩
      have hcell : wr.cell? ⟨b, off + i, none⟩ = some (.int .u8 (x.toNat : Int)) := (HB.out.cell (p := ⟨b, off + i, none⟩) hx).trans (HC.out i x hxl)
      have Hx := Hid.mk' hxl
      clear hxl
      have hlt' : (i : Int) < (n : Int) := by omega
      by_cases h10 : x = 10
      · subst h10
        have hcell : wr.cell? ⟨b, off + i, none⟩ = some (.int .u8 10) := hcell

        go_wp2_with (first
        | (at_builtin; refine wpList_app (w := wr.alloc (.cells #[.int .i64 (s : Int)] 3)) rfl (.tmp 23) (.tmp 25) rfl (HT.out.alloc _) rfl ⟨wr.heap.size, 0, none⟩ 1 s rfl (by simp [Addr.add, iv]) (by simp; omega) (by have := HB.out.size; simp; omega) ?_; intro v1 w1 T1 hb1; have HT1 := Hid.mk' T1; have HB1 : Hid (Below w.heap.size w w1) := (HB.out.alloc (by have := HB.out.size; omega) _).trans hb1; clear T1 hb1)
        | (at_builtin; refine wpList_app (w := w1.alloc (.cells #[.int .i64 (i : Int)] 3)) rfl (.tmp 27) (.tmp 29) rfl (HT1.out.swap.alloc _) rfl ⟨w1.heap.size, 0, none⟩ 1 i rfl (by simp [Addr.add, iv]) (by simp; omega) (by have := HB1.out.size; simp; omega) ?_; intro v2 w2 T2 hb2; have HT2 := Hid.mk' T2.swap; have HB2 : Hid (Below w.heap.size w w2) := (HB1.out.alloc (by have := HB1.out.size; omega) _).trans hb2; clear T2 hb2; skip))
        go_roundw
        case rel => exact ⟨acc ++ [(s, i)], i + 1, i + 1, by simp; omega, by go_num, by go_num, by simpa using HT2.out, HB2.out, HSc.out.lf Hx.out⟩
        case measure => simp [intOf]; omega
      by_cases h13 : x = 13
      · subst h13
        have hcell : wr.cell? ⟨b, off + i, none⟩ = some (.int .u8 13) := hcell
        by_cases h2 : i + 1 < n
        · have h2' : (i : Int) + 1 < (n : Int) := by omega
          obtain ⟨y, hyl⟩ : ∃ y : UInt8, l[i + 1]? = some y := ⟨_, List.getElem?_eq_getElem (by rw [← HS.out.len]; exact h2)⟩
          have Hy := Hid.mk' hyl
          clear hyl
          by_cases hy : y = 10
          · subst hy
            skip
            go_wp2_with (first
            | (at_builtin; refine wpList_app (w := wr.alloc (.cells #[.int .i64 (s : Int)] 3)) rfl (.tmp 23) (.tmp 25) rfl (HT.out.alloc _) rfl ⟨wr.heap.size, 0, none⟩ 1 s rfl (by simp [Addr.add, iv]) (by simp; omega) (by have := HB.out.size; simp; omega) ?_; intro v1 w1 T1 hb1; have HT1 := Hid.mk' T1; have HB1 : Hid (Below w.heap.size w w1) := (HB.out.alloc (by have := HB.out.size; omega) _).trans hb1; clear T1 hb1)
            | (at_builtin; refine wpList_app (w := w1.alloc (.cells #[.int .i64 (i : Int)] 3)) rfl (.tmp 27) (.tmp 29) rfl (HT1.out.swap.alloc _) rfl ⟨w1.heap.size, 0, none⟩ 1 i rfl (by simp [Addr.add, iv]) (by simp; omega) (by have := HB1.out.size; simp; omega) ?_; intro v2 w2 T2 hb2; have HT2 := Hid.mk' T2.swap; have HB2 : Hid (Below w.heap.size w w2) := (HB1.out.alloc (by have := HB1.out.size; omega) _).trans hb2; clear T2 hb2; have hc2 : w2.cell? ⟨b, off + (i + 1), none⟩ = some (.int .u8 10) := (HB2.out.cell (p := ⟨b, off + (i + 1), none⟩) hx).trans (HC.out (i + 1) 10 Hy.out)))
            go_roundw
            case rel => exact ⟨acc ++ [(s, i)], i + 2, i + 2, by simp; omega, by go_num, by go_num, by simpa using HT2.out, HB2.out, HSc.out.crlf Hx.out Hy.out⟩
            case measure => simp [intOf]; omega
          · have y10 := ne10 hy
            have HY := Hid.mk' hy
            clear hy
            skip
            go_wp2_with (first
            | (at_builtin; refine wpList_app (w := wr.alloc (.cells #[.int .i64 (s : Int)] 3)) rfl (.tmp 23) (.tmp 25) rfl (HT.out.alloc _) rfl ⟨wr.heap.size, 0, none⟩ 1 s rfl (by simp [Addr.add, iv]) (by simp; omega) (by have := HB.out.size; simp; omega) ?_; intro v1 w1 T1 hb1; have HT1 := Hid.mk' T1; have HB1 : Hid (Below w.heap.size w w1) := (HB.out.alloc (by have := HB.out.size; omega) _).trans hb1; clear T1 hb1)
            | (at_builtin; refine wpList_app (w := w1.alloc (.cells #[.int .i64 (i : Int)] 3)) rfl (.tmp 27) (.tmp 29) rfl (HT1.out.swap.alloc _) rfl ⟨w1.heap.size, 0, none⟩ 1 i rfl (by simp [Addr.add, iv]) (by simp; omega) (by have := HB1.out.size; simp; omega) ?_; intro v2 w2 T2 hb2; have HT2 := Hid.mk' T2.swap; have HB2 : Hid (Below w.heap.size w w2) := (HB1.out.alloc (by have := HB1.out.size; omega) _).trans hb2; clear T2 hb2; have hc2 : w2.cell? ⟨b, off + (i + 1), none⟩ = some (.int .u8 (y.toNat : Int)) := (HB2.out.cell (p := ⟨b, off + (i + 1), none⟩) hx).trans (HC.out (i + 1) y Hy.out)))
            go_roundw
            case rel => exact ⟨acc ++ [(s, i)], i + 1, i + 1, by simp; omega, by go_num, by go_num, by simpa using HT2.out, HB2.out, HSc.out.cr Hx.out (by rw [Hy.out]; simpa using HY.out)⟩
            case measure => simp [intOf]; omega
        · have h2' : ¬ (i : Int) + 1 < (n : Int) := by omega
          skip
          go_wp2_with (first
          | (at_builtin; refine wpList_app (w := wr.alloc (.cells #[.int .i64 (s : Int)] 3)) rfl (.tmp 23) (.tmp 25) rfl (HT.out.alloc _) rfl ⟨wr.heap.size, 0, none⟩ 1 s rfl (by simp [Addr.add, iv]) (by simp; omega) (by have := HB.out.size; simp; omega) ?_; intro v1 w1 T1 hb1; have HT1 := Hid.mk' T1; have HB1 : Hid (Below w.heap.size w w1) := (HB.out.alloc (by have := HB.out.size; omega) _).trans hb1; clear T1 hb1)
          | (at_builtin; refine wpList_app (w := w1.alloc (.cells #[.int .i64 (i : Int)] 3)) rfl (.tmp 27) (.tmp 29) rfl (HT1.out.swap.alloc _) rfl ⟨w1.heap.size, 0, none⟩ 1 i rfl (by simp [Addr.add, iv]) (by simp; omega) (by have := HB1.out.size; simp; omega) ?_; intro v2 w2 T2 hb2; have HT2 := Hid.mk' T2.swap; have HB2 : Hid (Below w.heap.size w w2) := (HB1.out.alloc (by have := HB1.out.size; omega) _).trans hb2; clear T2 hb2; skip))
          go_roundw
          case rel => exact ⟨acc ++ [(s, i)], i + 1, i + 1, by simp; omega, by go_num, by go_num, by simpa using HT2.out, HB2.out, HSc.out.cr Hx.out (by rw [List.getElem?_eq_none (by rw [← HS.out.len]; omega)]; simp)⟩
          case measure => simp [intOf]; omega
      · have e10 := ne10 h10
        have e13 := ne13 h13
        have H10 := Hid.mk' h10
        have H13 := Hid.mk' h13
        clear h10 h13
        go_wp2
        go_roundw
        case rel => exact ⟨acc, s, i + 1, hacc, by go_num, by go_num, HT.out, HB.out, HSc.out.step Hx.out (by have := isB_iff x; cases hb : isB x; rfl; rcases this.1 hb with h | h; exact absurd h H13.out; exact absurd h H10.out)⟩
        case measure => simp [intOf]; omega
    · obtain rfl : i = n := by omega
      have hlt' : ¬ (i : Int) < (i : Int) := by omega
      by_cases hse : s < i
      · have hse' : (s : Int) < (i : Int) := by omega
        go_wp2_with (first
          | (at_builtin; refine wpList_app (w := wr.alloc (.cells #[.int .i64 (s : Int)] 3)) rfl (.tmp 57) (.tmp 59) rfl (HT.out.alloc _) rfl ⟨wr.heap.size, 0, none⟩ 1 s rfl (by simp [Addr.add, iv]) (by simp; omega) (by have := HB.out.size; simp; omega) ?_; intro v1 w1 T1 hb1; have HT1 := Hid.mk' T1; have HB1 : Hid (Below w.heap.size w w1) := (HB.out.alloc (by have := HB.out.size; omega) _).trans hb1; clear T1 hb1)
          | (at_builtin; refine wpList_app (w := w1.alloc (.cells #[.int .i64 (i : Int)] 3)) rfl (.tmp 61) (.tmp 64) rfl (HT1.out.swap.alloc _) rfl ⟨w1.heap.size, 0, none⟩ 1 i rfl (by simp [Addr.add, iv]) (by simp; omega) (by have := HB1.out.size; simp; omega) ?_; intro v2 w2 T2 hb2; have HT2 := Hid.mk' T2.swap; have HB2 : Hid (Below w.heap.size w w2) := (HB1.out.alloc (by have := HB1.out.size; omega) _).trans hb2; clear T2 hb2))
        go_ret2
        exact ⟨_, _, rfl, by rw [HSc.out.last HS.out.len hse]; simpa using HT2.out, HB2.out⟩
      · have hse' : ¬ (s : Int) < (i : Int) := by omega
        obtain rfl : s = i := by omega
        go_wp2
        go_ret2
        exact ⟨_, _, rfl, by rw [HSc.out.done HS.out.len]; exact HT.out, HB.out⟩
end Go.Proofs.Qxb6600587aDoor
