import Derived.Test.Qxb6605443aDoorWi
import Derived.OwnWalk
namespace Go.Proofs.Qxb6605443aDoor
open Go.RowKit
set_option linter.unusedVariables false
set_option linter.unusedSimpArgs false
set_option linter.unnecessarySimpa false

theorem Hdr.grow {N N' : Nat} {w : World} {ad : Option Addr} {hs : List (ByteArray × ByteArray)} (h : Hdr N w ad hs) (hn : N ≤ N') : Hdr N' w ad hs :=
  ⟨fun i x hx => by obtain ⟨b, off, h1, h2, h3⟩ := h.a i x hx; exact ⟨b, off, h1, Nat.lt_of_lt_of_le h2 hn, h3⟩⟩

/-- all that ZZCookie reads in the world. -/
structure CkEnv (B o cp : Nat) (m : Int) (w : World) : Prop where
  ft : FT B o cp w.heap.size w
  h5 : 5 < w.heap.size
  hm : w.cell? ⟨5, 0, none⟩ = some (.int .i64 m)
theorem CkEnv.below {B o cp : Nat} {m : Int} {w w' : World} (h : CkEnv B o cp m w) (hb : Below w.heap.size w w') : CkEnv B o cp m w' :=
  ⟨(h.ft.below hb).grow hb.size, Nat.lt_of_lt_of_le h.h5 hb.size, (hb.cell (p := ⟨5, 0, none⟩) h.h5).trans h.hm⟩

set_option maxHeartbeats 400000 in
theorem zz_cookie (ad : Option Addr) (cap : Nat) (hs : List (ByteArray × ByteArray)) (route name : ByteArray) (m : Int) (w : World)
    (hH : Hdr w.heap.size w ad hs) (hn : hs.length ≤ 2000000) (hz : ∀ h ∈ hs, h.1.size ≤ 2000000 ∧ h.2.size ≤ 2000000)
    (B o cp : Nat) (hE : CkEnv B o cp m w) :
    Calls Tryd.prog 9 #[.agg #[.slice ad hs.length cap, .string route], .string name] w fun e w' => e = .returned (ans2 (ckF name.data.toList hs)) ∧ Below w.heap.size w w' := by
  obtain ⟨wa, hwa⟩ : ∃ wa, wa = w.alloc (.cells #[.slice ad hs.length cap, .string route] 29) := ⟨_, rfl⟩
  have hba : Below w.heap.size w wa := by rw [hwa]; exact (Below.refl _ _).alloc (Nat.le_refl _) _
  have hEa := hE.below hba
  have hc := cookie_walk ad cap hs route name m wa ((hH.below hba).grow hba.size) hn hz B o cp hEa.ft hEa.h5 hEa.hm
  have HC := Hid.mk' hc
  have HBa := Hid.mk' hba
  clear hc hba hEa hE hH hz
  cases hv : ckF name.data.toList hs with
  | none =>
    rw [hv] at HC
    go_enter Tryd.func9, Tryd.ntmps9
    go_wp2_with (go_at_call 17; rw [← hwa]; refine HC.out.mono ?_; rintro e w1 ⟨rfl, hb1⟩; simp only [ans2])
    go_ret2
    exact ⟨rfl, HBa.out.trans (hb1.mono HBa.out.size)⟩
  | some v =>
    rw [hv] at HC
    go_enter Tryd.func9, Tryd.ntmps9
    go_wp2_with (go_at_call 17; rw [← hwa]; refine HC.out.mono ?_; rintro e w1 ⟨rfl, hb1⟩; simp only [ans2])
    go_ret2
    exact ⟨rfl, HBa.out.trans (hb1.mono HBa.out.size)⟩

theorem eqnil (w : World) (a : Option Addr) (n c : Nat) : (binOp .eql 22 (.slice a n c) (.slice none 0 0)).run Tryd.prog w = .ok (.bool a.isNone) w :=
  Lib.run_eql_slice_nil (P := Tryd.prog) w 22 30 a n c 0 0 Tryd.underlying22

set_option maxHeartbeats 400000 in
set_option maxRecDepth 100000 in
theorem copy_some (b off cap : Nat) (hs : List (ByteArray × ByteArray)) (w : World) (hn : hs.length ≤ 65536) (hH : Hdr w.heap.size w (some ⟨b, off, none⟩) hs) :
    Calls Tryd.prog 8 #[.slice (some ⟨b, off, none⟩) hs.length cap] w fun e w' => e = .returned (.slice (some ⟨w.heap.size, 0, none⟩) hs.length hs.length) ∧
      Hdr w'.heap.size w' (some ⟨w.heap.size, 0, none⟩) hs ∧ Below w.heap.size w w' := by
  obtain ⟨i0, hi, hz0, hz1, hz2⟩ := info_parts info30
  have HH := Hid.mk' hH
  have hq := eqnil
  clear hH
  go_enter Tryd.func8, Tryd.ntmps8
  go_wp2_with (at_make; refine wpList_make_full _ rfl _ _ 22 rfl w.heap.size 30 i0 _ 2 Tryd.underlying22 hi hz0 hz1 .i64 .i64 hs.length hs.length hs.length rfl rfl rfl rfl (by rw [hz2]; omega) (by unfold maxLen; omega) (Nat.le_refl _) ?_; intro w1 hown hgrow)
  have hb1 : Below w.heap.size w w1 := (Below.refl _ w).grown hgrow (Nat.le_refl _) (fun _ h => by cases h)
  go_loopw [4] (fun s4 wr => ∃ (k : Nat) (xs : List Value), k ≤ hs.length ∧ s4 = .int .i64 k ∧ wr.ownsRow w.heap.size 30 2 (.slice (some ⟨w.heap.size, 0, none⟩) hs.length hs.length) hs.length xs ∧ (∀ i h, i < k → hs[i]? = some h → xs[i * 2]? = some (.string h.1) ∧ xs[i * 2 + 1]? = some (.string h.2)) ∧ Below w.heap.size w wr) (fun s4 _ => hs.length - (intOf s4).toNat)
  case atStart => exact ⟨0, _, Nat.zero_le _, rfl, hown, fun i h hi _ => absurd hi (Nat.not_lt_zero _), hb1⟩
  case round =>
    clear hown hgrow hb1
    obtain ⟨k, xs, hk, rfl, hown, hxs, hb⟩ := hrel
    have HB := Hid.mk' hb
    have HX := Hid.mk' hxs
    have HO := Hid.mk' hown
    clear hxs hb
    by_cases hlt : k < hs.length
    · have hlt' : (k : Int) < (hs.length : Int) := by omega
      obtain ⟨h, hh⟩ : ∃ h, hs[k]? = some h := ⟨_, List.getElem?_eq_getElem hlt⟩
      obtain ⟨b', off', hbo, hbN, hc1, hc2⟩ := (HH.out.below HB.out).a k h hh
      cases hbo
      have hlen := hown.1
      have hx1 : k * 2 < xs.length := by omega
      have hx2 : k * 2 + 1 < xs.length := by omega
      have f1 := hown.frozenAt (k * 2)
      have f2 := hown.frozenAt (k * 2 + 1)
      obtain ⟨o1, ho1⟩ : ∃ o1, wr.cell? ⟨w.heap.size, k * 2, none⟩ = some o1 := ⟨_, (hown.cellAt (k * 2) (by omega)).trans (List.getElem?_eq_getElem hx1)⟩
      obtain ⟨o2, ho2⟩ : ∃ o2, wr.cell? ⟨w.heap.size, k * 2 + 1, none⟩ = some o2 := ⟨_, (hown.cellAt (k * 2 + 1) (by omega)).trans (List.getElem?_eq_getElem hx2)⟩
      have s1 := (hown.stored (k * 2) (.string h.1)).1
      have s2 := (s1.stored (k * 2 + 1) (.string h.2)).1
      have S2 := Hid.mk' s2
      have HX2 : Hid (∀ i h', i < k + 1 → hs[i]? = some h' → ((xs.set (k * 2) (.string h.1)).set (k * 2 + 1) (.string h.2))[i * 2]? = some (.string h'.1) ∧ ((xs.set (k * 2) (.string h.1)).set (k * 2 + 1) (.string h.2))[i * 2 + 1]? = some (.string h'.2)) := Hid.mk' (fun i h' hi hh' => by
        by_cases e : i = k
        · subst e
          rw [hh] at hh'
          obtain rfl := Option.some.inj hh'
          constructor
          · rw [List.getElem?_set_ne (by omega), List.getElem?_set_self hx1]
          · rw [List.getElem?_set_self (by rw [List.length_set]; exact hx2)]
        · have := HX.out i h' (by omega) hh'
          constructor
          · rw [List.getElem?_set_ne (by omega), List.getElem?_set_ne (by omega)]; exact this.1
          · rw [List.getElem?_set_ne (by omega), List.getElem?_set_ne (by omega)]; exact this.2)
      have HB2 := Hid.mk' ((HB.out.setCell (p := ⟨w.heap.size, k * 2, none⟩) (Nat.le_refl _) (.string h.1)).setCell (p := ⟨w.heap.size, k * 2 + 1, none⟩) (Nat.le_refl _) (.string h.2))
      obtain ⟨x, y⟩ := h
      simp only at hc1 hc2
      clear s1 s2 hown hlen hx1 hx2 hh
      go_wp2
      go_roundw
      case rel => exact ⟨k + 1, _, by omega, by go_num, S2.out, HX2.out, HB2.out⟩
      case measure => simp [intOf]; omega
    · have hlt' : ¬ (k : Int) < (hs.length : Int) := by omega
      obtain rfl : k = hs.length := by omega
      clear hown
      go_wp2
      go_ret
      exact ⟨rfl, ⟨fun i h hh => by
        have hil := (List.getElem?_eq_some_iff.1 hh).1
        have := HX.out i h hil hh
        refine ⟨w.heap.size, 0, rfl, ?_, ?_, ?_⟩
        · rcases HO.out.2 with ⟨h0, _⟩ | ⟨g, c, cur, hv, _, hg, _⟩
          · cases h0
          · cases hv; exact (Array.getElem?_eq_some_iff.1 hg).1
        · rw [Nat.zero_add, HO.out.cellAt (i * 2) (by omega)]; exact this.1
        · rw [Nat.zero_add, HO.out.cellAt (i * 2 + 1) (by omega)]; exact this.2⟩, HB.out⟩
set_option maxHeartbeats 400000 in
theorem copy_nil (w : World) :
    Calls Tryd.prog 8 #[.slice none 0 0] w fun e w' => e = .returned (.slice none 0 0) ∧ w' = w := by
  have hq := eqnil
  go_enter Tryd.func8, Tryd.ntmps8
  go_wp2
  go_ret
  exact ⟨rfl, rfl⟩
end Go.Proofs.Qxb6605443aDoor
