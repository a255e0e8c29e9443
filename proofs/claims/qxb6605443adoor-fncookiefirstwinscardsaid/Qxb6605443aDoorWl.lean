import Derived.Test.Qxb6605443aDoorWk
import Derived.Test.Qxb6605443aDoorPlain4
import Derived.Laws.AppendOwnNone
import Derived.Lib.SmallJoins
import Derived.Deep.AppendLies
import Derived.Deep.Cut
import Derived.Deep.CutRange
namespace Go.Proofs.Qxb6605443aDoor
open Go.RowKit
set_option linter.unusedVariables false
set_option linter.unusedSimpArgs false
set_option linter.unnecessarySimpa false

/-- how the headers' slice comes in. -/
def InForm (ad : Option Addr) (cap : Nat) (hs : List (ByteArray × ByteArray)) : Prop := (ad = none ∧ hs = [] ∧ cap = 0) ∨ (∃ b off, ad = some ⟨b, off, none⟩) ∨ (hs = [] ∧ ∃ a, ad = some a)
set_option maxHeartbeats 400000 in
set_option maxRecDepth 100000 in
theorem copy_empty (a : Addr) (cap : Nat) (w : World) :
    Calls Tryd.prog 8 #[.slice (some a) 0 cap] w fun e w' => e = .returned (.slice (some ⟨w.heap.size, 0, none⟩) 0 0) ∧ Below w.heap.size w w' := by
  obtain ⟨i0, hi, hz0, hz1, hz2⟩ := info_parts info30
  have hq := eqnil
  go_enter Tryd.func8, Tryd.ntmps8
  go_wp2_with (at_make; refine wpList_make_full _ rfl _ _ 22 rfl w.heap.size 30 i0 _ 2 Tryd.underlying22 hi hz0 hz1 .i64 .i64 0 0 0 rfl rfl rfl rfl (by omega) (by unfold maxLen; omega) (Nat.le_refl _) ?_; intro w1 hown hgrow)
  have hb1 : Below w.heap.size w w1 := (Below.refl _ w).grown hgrow (Nat.le_refl _) (fun _ h => by cases h)
  go_loop [4] (fun s4 => s4 = .int .i64 0) (fun _ => 0)
  case atStart => rfl
  case round =>
    subst hrel
    go_wp2
    go_ret
    exact ⟨rfl, hb1⟩
theorem copy_any (ad : Option Addr) (cap : Nat) (hs : List (ByteArray × ByteArray)) (w : World) (hF : InForm ad cap hs) (hn : hs.length ≤ 65536) (hH : Hdr w.heap.size w ad hs) :
    Calls Tryd.prog 8 #[.slice ad hs.length cap] w fun e w' => ∃ ad2 cap2, e = .returned (.slice ad2 hs.length cap2) ∧ Hdr w'.heap.size w' ad2 hs ∧ Below w.heap.size w w' ∧ ((ad2 = none ∧ hs = [] ∧ cap2 = 0) ∨ ad2 = some ⟨w.heap.size, 0, none⟩) := by
  rcases hF with ⟨rfl, rfl, rfl⟩ | ⟨b, off, rfl⟩ | ⟨rfl, a, rfl⟩
  · refine (copy_nil w).mono ?_
    rintro e w' ⟨rfl, rfl⟩
    exact ⟨none, 0, rfl, hH, Below.refl _ _, Or.inl ⟨rfl, rfl, rfl⟩⟩
  · refine (copy_some b off cap hs w hn hH).mono ?_
    rintro e w' ⟨rfl, h1, h2⟩
    exact ⟨_, _, rfl, h1, h2, Or.inr rfl⟩
  · refine (copy_empty a cap w).mono ?_
    rintro e w' ⟨rfl, h2⟩
    exact ⟨_, _, rfl, ⟨fun i h hh => by simp at hh⟩, h2, Or.inr rfl⟩
theorem beq_b (n : Nat) (x : UInt8) (hn : n < 256) (h : x ≠ n.toUInt8) : ((x.toNat : Int) == (n : Int)) = false := by
  rw [beq_eq_false_iff_ne]
  intro e
  refine h (UInt8.toNat_inj.1 ?_)
  have h2 : n.toUInt8.toNat = n % 256 := by simp
  omega
theorem beq_y (n : Nat) (x : UInt8) (hn : n < 256) (h : x = n.toUInt8) : ((x.toNat : Int) == (n : Int)) = true := by
  rw [h]
  have h2 : n.toUInt8.toNat = n := by simp; omega
  rw [h2]; simp

set_option maxHeartbeats 1000000 in
set_option maxRecDepth 100000 in
theorem law3_walk (ad : Option Addr) (cap : Nat) (hs : List (ByteArray × ByteArray)) (route name value : ByteArray) (m : Int) (w : World)
    (hF : InForm ad cap hs) (hH : Hdr w.heap.size w ad hs) (B o cp : Nat) (hE : CkEnv B o cp m w) :
    Calls Tryd.prog 3 #[.slice ad hs.length cap, .string route, .string name, .string value] w fun e w' => e = .returned (.bool true) ∧ Below w.heap.size w w' := by
  obtain ⟨i0, hi, hz0, hz1, hz2⟩ := info_parts info30
  have c6 := bytes6_any ad cap hs route name value w _ hH
  have C6 := Hid.mk' c6
  have HH := Hid.mk' hH
  have HE := Hid.mk' hE
  have HF := Hid.mk' hF
  clear c6 hH hE hF
  go_enter Tryd.func3, Tryd.ntmps3
  go_wp2_with fail
  refine C6.out.mono ?_
  rintro e w' ⟨⟨b, rfl⟩, rfl⟩
  cases b
  · go_wp2
    go_ret
    exact ⟨rfl, Below.refl _ _⟩
  by_cases n1 : 65536 < hs.length
  · have n1' : (65536 : Int) < (hs.length : Int) := by omega
    go_wp2
    go_ret
    exact ⟨rfl, Below.refl _ _⟩
  have n1' : ¬ (65536 : Int) < (hs.length : Int) := by omega
  by_cases n2 : 1048576 < route.size
  · have n2' : (1048576 : Int) < (route.size : Int) := by omega
    go_wp2
    go_ret
    exact ⟨rfl, Below.refl _ _⟩
  have n2' : ¬ (1048576 : Int) < (route.size : Int) := by omega
  by_cases n3 : 1048576 < name.size
  · have n3' : (1048576 : Int) < (name.size : Int) := by omega
    go_wp2
    go_ret
    exact ⟨rfl, Below.refl _ _⟩
  have n3' : ¬ (1048576 : Int) < (name.size : Int) := by omega
  by_cases n4 : 1048576 < value.size
  · have n4' : (1048576 : Int) < (value.size : Int) := by omega
    go_wp2
    go_ret
    exact ⟨rfl, Below.refl _ _⟩
  have n4' : ¬ (1048576 : Int) < (value.size : Int) := by omega
  go_wp2_with fail
  refine (bytes7_any ad cap hs _ HH.out (by omega)).mono ?_
  rintro e w0 ⟨⟨R, rfl, r1, r2, r3⟩, hb0⟩
  have HB0 := Hid.mk' hb0
  have HR3 := Hid.mk' r3
  clear hb0 r3
  by_cases n5 : 1048576 < R + (route.size : Int) + (name.size : Int) + (value.size : Int)
  · go_wp2
    go_ret
    exact ⟨rfl, HB0.out⟩
  have hz := HR3.out (by omega)
  have HZ := Hid.mk' hz
  clear hz
  go_wp2
  go_loop [9] (fun s9 => ∃ k : Nat, k ≤ name.size ∧ s9 = .int .i64 k ∧ (∀ i x, i < k → name.data.toList[i]? = some x → x ≠ 59 ∧ x ≠ 61)) (fun s9 => name.size - (intOf s9).toNat)
  case atStart => exact ⟨0, Nat.zero_le _, rfl, fun i x hi _ => absurd hi (Nat.not_lt_zero _)⟩
  case round =>
    obtain ⟨k, hk, rfl, hall⟩ := hrel
    have HA := Hid.mk' hall
    clear hall
    by_cases hlt : k < name.size
    · have hlt' : (k : Int) < (name.size : Int) := by omega
      obtain ⟨x, hx⟩ : ∃ x : UInt8, name[k]'hlt = x := ⟨_, rfl⟩
      have hxl : name.data.toList[k]? = some x := by rw [← hx]; exact Lib.data_getElem? name k hlt
      have HX := Hid.mk' hxl
      clear hxl
      by_cases h59 : x = 59
      · have e59 : ((x.toNat : Int) == 59) = true := beq_y 59 x (by decide) h59
        clear h59
        go_wp2
        go_ret
        exact ⟨rfl, HB0.out⟩
      · have e59 : ((x.toNat : Int) == 59) = false := beq_b 59 x (by decide) h59
        by_cases h61 : x = 61
        · have e61 : ((x.toNat : Int) == 61) = true := beq_y 61 x (by decide) h61
          clear h59 h61
          go_wp2
          go_ret
          exact ⟨rfl, HB0.out⟩
        · have e61 : ((x.toNat : Int) == 61) = false := beq_b 61 x (by decide) h61
          have HA2 : Hid (∀ i y, i < k + 1 → name.data.toList[i]? = some y → y ≠ 59 ∧ y ≠ 61) := Hid.mk' (fun i y hi hy => by
            by_cases e : i = k
            · subst e
              rw [HX.out] at hy
              obtain rfl := Option.some.inj hy
              exact ⟨h59, h61⟩
            · exact HA.out i y (by omega) hy)
          clear h59 h61
          go_wp2
          go_round
          case rel => exact ⟨k + 1, by omega, by go_num, HA2.out⟩
          case measure => simp [intOf]; omega
    · have hlt' : ¬ (k : Int) < (name.size : Int) := by omega
      obtain rfl : k = name.size := by omega
      by_cases h32 : name.data.toList.head? = some 32
      · have hp : 0 < name.size := by
          rw [Lib.size_eq]
          cases hl : name.data.toList with
          | nil => rw [hl] at h32; cases h32
          | cons a r => simp
        have hp' : (0 : Int) < (name.size : Int) := by omega
        have hx0 : name[0]'hp = 32 := by
          have h1 := Lib.data_getElem? name 0 hp
          rw [← List.head?_eq_getElem?, h32] at h1
          exact (Option.some.inj h1).symm
        clear h32
        go_wp2
        go_ret
        exact ⟨rfl, HB0.out⟩
      have H32 := Hid.mk' h32
      clear h32
      go_upto_region 12 with fail
      go_cut [79] from 72 to 79 (fun s79 wx => s79 = .bool false ∧ wx = w0)
      case first =>
        by_cases hp : 0 < name.size
        · have hp' : (0 : Int) < (name.size : Int) := by omega
          obtain ⟨x, hx⟩ : ∃ x : UInt8, name[0]'hp = x := ⟨_, rfl⟩
          have hne : x ≠ 32 := fun e => H32.out (by
            have h1 := Lib.data_getElem? name 0 hp
            rw [← List.head?_eq_getElem?, hx, e] at h1
            exact h1)
          have e32 : ((x.toNat : Int) == 32) = false := beq_b 32 x (by decide) hne
          clear hne
          go_wp2
          go_meet
          exact ⟨rfl, rfl⟩
        · have hp' : ¬ (0 : Int) < (name.size : Int) := by omega
          go_wp2
          go_meet
          exact ⟨rfl, rfl⟩
      case rest =>
      obtain ⟨rfl, rfl⟩ := hcut
      go_wp2
      go_loop [10] (fun s10 => ∃ k : Nat, k ≤ value.size ∧ s10 = .int .i64 k ∧ (∀ i x, i < k → value.data.toList[i]? = some x → x ≠ 59)) (fun s10 => value.size - (intOf s10).toNat)
      case atStart => exact ⟨0, Nat.zero_le _, rfl, fun i x hi _ => absurd hi (Nat.not_lt_zero _)⟩
      case round =>
        obtain ⟨j, hj, rfl, hall⟩ := hrel
        have HV := Hid.mk' hall
        clear hall
        by_cases hjt : j < value.size
        · have hjt' : (j : Int) < (value.size : Int) := by omega
          obtain ⟨x, hx⟩ : ∃ x : UInt8, value[j]'hjt = x := ⟨_, rfl⟩
          have hxl : value.data.toList[j]? = some x := by rw [← hx]; exact Lib.data_getElem? value j hjt
          have HX := Hid.mk' hxl
          clear hxl
          by_cases h59 : x = 59
          · have e59 : ((x.toNat : Int) == 59) = true := beq_y 59 x (by decide) h59
            clear h59
            go_wp2
            go_ret
            exact ⟨rfl, HB0.out⟩
          · have e59 : ((x.toNat : Int) == 59) = false := beq_b 59 x (by decide) h59
            have HV2 : Hid (∀ i y, i < j + 1 → value.data.toList[i]? = some y → y ≠ 59) := Hid.mk' (fun i y hi hy => by
              by_cases e : i = j
              · subst e
                rw [HX.out] at hy
                obtain rfl := Option.some.inj hy
                exact h59
              · exact HV.out i y (by omega) hy)
            clear h59
            go_wp2
            go_round
            case rel => exact ⟨j + 1, by omega, by go_num, HV2.out⟩
            case measure => simp [intOf]; omega
        · have hjt' : ¬ (j : Int) < (value.size : Int) := by omega
          obtain rfl : j = value.size := by omega
          by_cases hl32 : value.data.toList.getLast? = some 32
          · have hp : 0 < value.size := by
              rw [Lib.size_eq]
              cases hl : value.data.toList with
              | nil => rw [hl] at hl32; cases hl32
              | cons a r => simp
            have hp' : (0 : Int) < (value.size : Int) := by omega
            have hln : value.size - 1 < value.size := by omega
            have hx0 : value[value.size - 1]'hln = 32 := by
              have h1 := Lib.data_getElem? value (value.size - 1) hln
              have h2 := Lib.size_eq value
              rw [List.getLast?_eq_getElem?, ← h2] at hl32
              rw [hl32] at h1
              exact (Option.some.inj h1).symm
            clear hl32
            go_wp2
            go_ret
            exact ⟨rfl, HB0.out⟩
          have HL32 := Hid.mk' hl32
          clear hl32
          go_upto_region 19 with fail
          go_cut [100] from 90 to 100 (fun s100 wx => s100 = .bool false ∧ wx = wc)
          case first =>
            by_cases hp : 0 < value.size
            · have hp' : (0 : Int) < (value.size : Int) := by omega
              have hln : value.size - 1 < value.size := by omega
              obtain ⟨x, hx⟩ : ∃ x : UInt8, value[value.size - 1]'hln = x := ⟨_, rfl⟩
              have hne : x ≠ 32 := fun e => HL32.out (by
                have h1 := Lib.data_getElem? value (value.size - 1) hln
                have h2 := Lib.size_eq value
                rw [List.getLast?_eq_getElem?, ← h2, h1, hx, e])
              have e32 : ((x.toNat : Int) == 32) = false := beq_b 32 x (by decide) hne
              clear hne
              go_wp2
              go_meet
              exact ⟨rfl, rfl⟩
            · have hp' : ¬ (0 : Int) < (value.size : Int) := by omega
              go_wp2
              go_meet
              exact ⟨rfl, rfl⟩
          case rest =>
          obtain ⟨rfl, rfl⟩ := hcut
          have a1 : ∀ x ∈ name.data.toList, x ≠ 59 ∧ x ≠ 61 := fun x hx => by
            obtain ⟨i, hi⟩ := List.getElem?_of_mem hx
            exact HA.out i x (by rw [Lib.size_eq]; exact (List.getElem?_eq_some_iff.1 hi).1) hi
          have a3 : ∀ x ∈ value.data.toList, x ≠ 59 := fun x hx => by
            obtain ⟨i, hi⟩ := List.getElem?_of_mem hx
            exact HV.out i x (by rw [Lib.size_eq]; exact (List.getElem?_eq_some_iff.1 hi).1) hi
          obtain ⟨P, hP⟩ : ∃ P, name ++ ⟨#[61]⟩ ++ value = P := ⟨_, rfl⟩
          have hPl : P.data.toList = name.data.toList ++ 61 :: value.data.toList := by
            rw [← hP]; simp [ByteArray.data_append]
          have hpre := ck_pre name.data.toList value.data.toList P hs hPl a1 H32.out a3 HL32.out
          have hpost := ck_post name.data.toList value.data.toList P hs hPl a1 H32.out a3 HL32.out
          have hPz : P.size ≤ 2000000 := by
            rw [Lib.size_eq, hPl, List.length_append, List.length_cons, ← Lib.size_eq, ← Lib.size_eq]; omega
          have HPre := Hid.mk' hpre
          have HPost := Hid.mk' hpost
          clear a1 a3 hPl hpre hpost
          go_wp2_with fail
          refine (copy_any ad cap hs _ HF.out (by omega) ((HH.out.below HB0.out).grow HB0.out.size)).mono ?_
          rintro e w1 ⟨ad2, cap2, rfl, hH2, hb1, hform⟩
          have HB1 := Hid.mk' (HB0.out.trans (hb1.mono HB0.out.size))
          have HH2 := Hid.mk' hH2
          clear hH2 hb1
          obtain ⟨bs, bo, hA1, hA2, hA3⟩ := answers name.data.toList value.data.toList value hs _ rfl HPost.out
          have hzz : ∀ h ∈ hs, h.1.size ≤ 2000000 ∧ h.2.size ≤ 2000000 := fun h hh => by have := HZ.out h hh; omega
          have c9a := zz_cookie ad2 cap2 hs route name m w1 HH2.out (by omega) hzz B o cp (HE.out.below HB1.out)
          rw [hA1] at c9a
          have C9a := Hid.mk' c9a
          have HZZ := Hid.mk' hzz
          have HA2 := Hid.mk' hA2
          have HA3 := Hid.mk' hA3
          clear c9a hzz hA1 hA2 hA3
          go_wp2_with fail
          refine C9a.out.mono ?_
          rintro e w2 ⟨rfl, hb2⟩
          have HB2 := Hid.mk' (HB1.out.trans (hb2.mono HB1.out.size))
          have HH3 := Hid.mk' ((HH2.out.below hb2).grow hb2.size)
          clear hb2
          rcases hform with ⟨rfl, rfl, rfl⟩ | rfl
          · go_wp2_with (at_make; refine wpList_make_own _ rfl _ _ 22 rfl w2.heap.size 30 i0 _ 2 Tryd.underlying22 hi hz0 hz1 .i64 .i64 _ 1 rfl rfl (by simp) (by rw [hz2]; omega) (by unfold maxLen; omega) (Nat.le_refl _) ?_; intro w3 hown3 hgrow3; have HO3 := Hid.mk' hown3; have HB3 := Hid.mk' ((Below.refl w2.heap.size w2).grown hgrow3 (Nat.le_refl _) (fun _ h => by cases h)); clear hown3 hgrow3; go_wp2_with (at_builtin; refine wpList_append_lies _ (by rfl) _ _ _ (by rfl) w2.heap.size 30 i0 _ 2 32 Tryd.underlying22 hi hz0 hz1 hz2 rfl (by omega) (.slice (some ⟨w2.heap.size, 0, none⟩) 0 1) 0 [] (by rfl) (HO3.out.alloc _) ⟨w3.heap.size, 0, none⟩ 1 1 [.string ⟨#[67, 111, 111, 107, 105, 101]⟩, .string P] (by rfl) (by rfl) (World.news_of_block (cs := #[.string ⟨#[67, 111, 111, 107, 105, 101]⟩, .string P]) (t := 30) (fr := (0, 0)) (heap_alloc_new w3 _)) (by simp [Value.oneCell']) (by omega) (by unfold maxLen; omega) (by omega) (by have := HB3.out.size; simp; omega) (w3.heap.size + 1) (by simp) ?_; intro g4 c4 w4 hown4 hgrow4 hat4 hlt4; have HO4 := Hid.mk' hown4; have HB4 := Hid.mk' ((HB3.out.alloc HB3.out.size _).grown hgrow4 (by have := HB3.out.size; simp; omega) (fun g hg => (HO3.out.lt g hg).1)); clear hown4 hgrow4 hat4 hlt4; go_wp2_with (at_builtin; refine wpList_append_own_none (by rfl) _ _ _ (by rfl) w2.heap.size 30 i0 2 Tryd.underlying22 hi (.slice (some ⟨g4, 0, none⟩) (0 + 1) c4) (0 + 1) _ (by rfl) HO4.out (by rfl) ?_; go_wp2_with (at_make; refine wpList_make_own _ rfl _ _ 22 rfl w4.heap.size 30 i0 _ 2 Tryd.underlying22 hi hz0 hz1 .i64 .i64 _ 1 rfl rfl (by simp) (by rw [hz2]; omega) (by unfold maxLen; omega) (Nat.le_refl _) ?_; intro w6 hown6 hgrow6; have HO6 := Hid.mk' hown6; have HB6 := Hid.mk' ((Below.refl w4.heap.size w4).grown hgrow6 (Nat.le_refl _) (fun _ h => by cases h)); clear hown6 hgrow6; go_wp2_with (at_builtin; refine wpList_append_own_none (by rfl) _ _ _ (by rfl) w4.heap.size 30 i0 2 Tryd.underlying22 hi (.slice (some ⟨w4.heap.size, 0, none⟩) 0 1) 0 _ (by rfl) HO6.out (by rfl) ?_; go_wp2_with (at_builtin; refine wpList_append_lies _ (by rfl) _ _ _ (by rfl) w4.heap.size 30 i0 _ 2 32 Tryd.underlying22 hi hz0 hz1 hz2 rfl (by omega) (.slice (some ⟨w4.heap.size, 0, none⟩) 0 1) 0 [] (by rfl) (HO6.out.alloc _) ⟨w6.heap.size, 0, none⟩ 1 1 [.string ⟨#[99, 111, 111, 107, 105, 101]⟩, .string P] (by rfl) (by rfl) (World.news_of_block (cs := #[.string ⟨#[99, 111, 111, 107, 105, 101]⟩, .string P]) (t := 30) (fr := (0, 0)) (heap_alloc_new w6 _)) (by simp [Value.oneCell']) (by omega) (by unfold maxLen; omega) (by omega) (by have := HB6.out.size; simp; omega) (w6.heap.size + 1) (by simp) ?_; intro g8 c8 w8 hown8 hgrow8 hat8 hlt8; have HO8 := Hid.mk' hown8; have HB8 := Hid.mk' ((HB6.out.alloc HB6.out.size _).grown hgrow8 (by have := HB6.out.size; simp; omega) (fun g hg => (HO6.out.lt g hg).1)); clear hown8 hgrow8 hat8 hlt8; go_wp2_with fail))))))
            have hrow5 : w4.ownsRow w2.heap.size 30 2 (.slice (some ⟨g4, 0, none⟩) (0 + 1) c4) (0 + 1) (hcells [(⟨#[67, 111, 111, 107, 105, 101]⟩, P)]) := HO4.out
            have hb8 : Below w'.heap.size w' w8 := HB2.out.trans ((HB4.out.trans (HB8.out.mono HB4.out.size)).mono HB2.out.size)
            have hsz : ∀ (k : ByteArray), k.size = 6 → ∀ h ∈ [(k, P)], h.1.size ≤ 2000000 ∧ h.2.size ≤ 2000000 := fun k hk h hh => by
              rcases List.mem_cons.1 hh with rfl | hh
              · exact ⟨by simp only; omega, hPz⟩
              · cases hh
            have c9b := zz_cookie (some ⟨g4, 0, none⟩) c4 [(⟨#[67, 111, 111, 107, 105, 101]⟩, P)] route name m w8 (((hdr_of_row hrow5).1.below HB8.out).grow HB8.out.size) (by simp) (hsz _ rfl) B o cp (HE.out.below hb8)
            rw [HPre.out, ans2, ba_eta] at c9b
            refine c9b.mono ?_
            rintro e w9 ⟨rfl, hb9⟩
            have hrow8 : w8.ownsRow w4.heap.size 30 2 (.slice (some ⟨g8, 0, none⟩) (0 + 1) c8) (0 + 1) (hcells [(⟨#[99, 111, 111, 107, 105, 101]⟩, P)]) := HO8.out
            have c9c := zz_cookie (some ⟨g8, 0, none⟩) c8 [(⟨#[99, 111, 111, 107, 105, 101]⟩, P)] route name m w9 (((hdr_of_row hrow8).1.below hb9).grow hb9.size) (by simp) (hsz _ rfl) B o cp ((HE.out.below hb8).below hb9)
            have h3 := HA3.out
            rw [List.nil_append] at h3
            rw [h3] at c9c
            have C9c := Hid.mk' c9c
            have hb9' : Below w'.heap.size w' w9 := hb8.trans (hb9.mono hb8.size)
            have HB9 := Hid.mk' hb9'
            clear c9b c9c hrow8 hrow5 hb9 hb8 hb9' h3 hsz
            go_wp2_with fail
            refine C9c.out.mono ?_
            rintro e w10 ⟨rfl, hb10⟩
            have HB10 := Hid.mk' (HB9.out.trans (hb10.mono HB9.out.size))
            clear hb10
            cases bo
            · have hbs := HA2.out rfl
              subst hbs
              go_wp2
              go_ret
              exact ⟨by simp, HB10.out⟩
            · go_wp2
              go_ret
              exact ⟨by simp, HB10.out⟩
          · go_wp2_with (at_make; refine wpList_make_own _ rfl _ _ 22 rfl w2.heap.size 30 i0 _ 2 Tryd.underlying22 hi hz0 hz1 .i64 .i64 _ (hs.length + 1) rfl rfl (by simp) (by rw [hz2]; omega) (by unfold maxLen; omega) (Nat.le_refl _) ?_; intro w3 hown3 hgrow3; have HO3 := Hid.mk' hown3; have HB3 := Hid.mk' ((Below.refl w2.heap.size w2).grown hgrow3 (Nat.le_refl _) (fun _ h => by cases h)); clear hown3 hgrow3; go_wp2_with (at_builtin; refine wpList_append_lies _ (by rfl) _ _ _ (by rfl) w2.heap.size 30 i0 _ 2 32 Tryd.underlying22 hi hz0 hz1 hz2 rfl (by omega) (.slice (some ⟨w2.heap.size, 0, none⟩) 0 (hs.length + 1)) 0 [] (by rfl) (HO3.out.alloc _) ⟨w3.heap.size, 0, none⟩ 1 1 [.string ⟨#[67, 111, 111, 107, 105, 101]⟩, .string P] (by rfl) (by rfl) (World.news_of_block (cs := #[.string ⟨#[67, 111, 111, 107, 105, 101]⟩, .string P]) (t := 30) (fr := (0, 0)) (heap_alloc_new w3 _)) (by simp [Value.oneCell']) (by omega) (by unfold maxLen; omega) (by omega) (by have := HB3.out.size; simp; omega) (w3.heap.size + 1) (by simp) ?_; intro g4 c4 w4 hown4 hgrow4 hat4 hlt4; have HO4 := Hid.mk' hown4; have HB4 := Hid.mk' ((HB3.out.alloc HB3.out.size _).grown hgrow4 (by have := HB3.out.size; simp; omega) (fun g hg => (HO3.out.lt g hg).1)); clear hown4 hgrow4 hat4 hlt4; go_wp2_with (at_builtin; refine wpList_append_own _ (by rfl) _ _ _ (by rfl) w2.heap.size 30 i0 _ 2 32 Tryd.underlying22 hi hz0 hz1 hz2 rfl (by omega) (.slice (some ⟨g4, 0, none⟩) (0 + 1) c4) _ _ (by rfl) HO4.out ⟨wc.heap.size, 0, none⟩ hs.length _ (hcells hs) (by rfl) (hcells_len hs) (HH3.out.below HB4.out).news (hcells_one hs) (by unfold maxLen; omega) (by omega) HB4.out.size ?_; intro v5 w5 hown5 hgrow5 _; obtain ⟨g5, c5, hv5⟩ := Joins.ownsRow_form hown5 (by omega); subst hv5; have hrow5 : w5.ownsRow w2.heap.size 30 2 (.slice (some ⟨g5, 0, none⟩) (0 + 1 + hs.length) c5) (0 + 1 + hs.length) (hcells ((⟨#[67, 111, 111, 107, 105, 101]⟩, P) :: hs)) := hown5; have HPr := Hid.mk' (hdr_of_row hrow5).1; have HB5 := Hid.mk' (HB4.out.grown hgrow5 HB4.out.size (fun g hg => (HO4.out.lt g hg).1)); clear hrow5 hown5 hgrow5; go_wp2_with (at_make; refine wpList_make_own _ rfl _ _ 22 rfl w5.heap.size 30 i0 _ 2 Tryd.underlying22 hi hz0 hz1 .i64 .i64 _ (hs.length + 1) rfl rfl (by simp) (by rw [hz2]; omega) (by unfold maxLen; omega) (Nat.le_refl _) ?_; intro w6 hown6 hgrow6; have HO6 := Hid.mk' hown6; have HB6 := Hid.mk' ((Below.refl w5.heap.size w5).grown hgrow6 (Nat.le_refl _) (fun _ h => by cases h)); clear hown6 hgrow6; go_wp2_with (at_builtin; refine wpList_append_own _ (by rfl) _ _ _ (by rfl) w5.heap.size 30 i0 _ 2 32 Tryd.underlying22 hi hz0 hz1 hz2 rfl (by omega) (.slice (some ⟨w5.heap.size, 0, none⟩) 0 (hs.length + 1)) _ _ (by rfl) HO6.out ⟨wc.heap.size, 0, none⟩ hs.length _ (hcells hs) (by rfl) (hcells_len hs) ((HH3.out.below HB5.out).below (HB6.out.mono HB5.out.size)).news (hcells_one hs) (by unfold maxLen; omega) (by omega) HB6.out.size ?_; intro v7 w7 hown7 hgrow7 _; have HO7 := Hid.mk' hown7; have HB7 := Hid.mk' (HB6.out.grown hgrow7 HB6.out.size (fun g hg => (HO6.out.lt g hg).1)); clear hown7 hgrow7; go_wp2_with (at_builtin; refine wpList_append_lies _ (by rfl) _ _ _ (by rfl) w5.heap.size 30 i0 _ 2 32 Tryd.underlying22 hi hz0 hz1 hz2 rfl (by omega) v7 (0 + hs.length) ([] ++ hcells hs) (by rfl) (HO7.out.alloc _) ⟨w7.heap.size, 0, none⟩ 1 1 [.string ⟨#[99, 111, 111, 107, 105, 101]⟩, .string P] (by rfl) (by rfl) (World.news_of_block (cs := #[.string ⟨#[99, 111, 111, 107, 105, 101]⟩, .string P]) (t := 30) (fr := (0, 0)) (heap_alloc_new w7 _)) (by simp [Value.oneCell']) (by omega) (by unfold maxLen; omega) (by omega) (by have := HB7.out.size; simp; omega) (w7.heap.size + 1) (by simp) ?_; intro g8 c8 w8 hown8 hgrow8 hat8 hlt8; have HO8 := Hid.mk' hown8; have HB8 := Hid.mk' ((HB7.out.alloc HB7.out.size _).grown hgrow8 (by have := HB7.out.size; simp; omega) (fun g hg => (HO7.out.lt g hg).1)); clear hown8 hgrow8 hat8 hlt8; go_wp2_with fail))))))
            have hb8 : Below w'.heap.size w' w8 := HB2.out.trans ((HB5.out.trans (HB8.out.mono HB5.out.size)).mono HB2.out.size)
            have c9b := zz_cookie (some ⟨g5, 0, none⟩) c5 ((⟨#[67, 111, 111, 107, 105, 101]⟩, P) :: hs) route name m w8 ((HPr.out.below HB8.out).grow HB8.out.size) (by rw [List.length_cons]; omega) (fun h hh => by
              rcases List.mem_cons.1 hh with rfl | hh
              · exact ⟨by show (6 : Nat) ≤ 2000000; omega, hPz⟩
              · exact HZZ.out h hh) B o cp (HE.out.below hb8)
            rw [HPre.out, ans2, ba_eta, List.length_cons, Nat.add_comm] at c9b
            refine c9b.mono ?_
            rintro e w9 ⟨rfl, hb9⟩
            have hrow8 : w8.ownsRow w5.heap.size 30 2 (.slice (some ⟨g8, 0, none⟩) (0 + hs.length + 1) c8) (0 + hs.length + 1) (hcells (hs ++ [(⟨#[99, 111, 111, 107, 105, 101]⟩, P)])) := by
              rw [hcells_append]; exact HO8.out
            have c9c := zz_cookie (some ⟨g8, 0, none⟩) c8 (hs ++ [(⟨#[99, 111, 111, 107, 105, 101]⟩, P)]) route name m w9 (((hdr_of_row hrow8).1.below hb9).grow hb9.size) (by rw [List.length_append, List.length_singleton]; omega) (fun h hh => by
              rcases List.mem_append.1 hh with hh | hh
              · exact HZZ.out h hh
              · rcases List.mem_cons.1 hh with rfl | hh
                · exact ⟨by show (6 : Nat) ≤ 2000000; omega, hPz⟩
                · cases hh) B o cp ((HE.out.below hb8).below hb9)
            rw [HA3.out, List.length_append, List.length_singleton] at c9c
            have C9c := Hid.mk' c9c
            have hb9' : Below w'.heap.size w' w9 := hb8.trans (hb9.mono hb8.size)
            have HB9 := Hid.mk' hb9'
            clear c9b c9c hrow8 hb9 hb8 hb9'
            go_wp2_with fail
            refine C9c.out.mono ?_
            rintro e w10 ⟨rfl, hb10⟩
            have HB10 := Hid.mk' (HB9.out.trans (hb10.mono HB9.out.size))
            clear hb10
            cases bo
            · have hbs := HA2.out rfl
              subst hbs
              go_wp2
              go_ret
              exact ⟨by simp, HB10.out⟩
            · go_wp2
              go_ret
              exact ⟨by simp, HB10.out⟩
end Go.Proofs.Qxb6605443aDoor
