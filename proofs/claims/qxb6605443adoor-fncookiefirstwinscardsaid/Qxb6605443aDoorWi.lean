import Derived.Test.Qxb6605443aDoorWh
import Derived.Lib.IndexMore
namespace Go.Proofs.Qxb6605443aDoor
open Go.RowKit
set_option linter.unusedVariables false
set_option linter.unusedSimpArgs false
set_option linter.unnecessarySimpa false

/-- the pieces of one cookie header, the first whose key is the name. -/
def pf (name : List UInt8) : Nat → List UInt8 → Option (List UInt8)
  | 0, _ => none
  | f + 1, p => if p = [] then none else
    if (Lib.cut (Lib.trimB (Lib.cut p [59]).1 32) [61]).2.2 = true ∧ (Lib.cut (Lib.trimB (Lib.cut p [59]).1 32) [61]).1 = name then some (Lib.cut (Lib.trimB (Lib.cut p [59]).1 32) [61]).2.1
    else pf name f (Lib.cut p [59]).2.1
/-- one header. -/
def hf (name : List UInt8) (h : ByteArray × ByteArray) : Option (List UInt8) := if foldc h.1 = true then pf name (h.2.size + 1) h.2.data.toList else none
/-- (Request).cookie. -/
def ckF (name : List UInt8) (hs : List (ByteArray × ByteArray)) : Option (List UInt8) := hs.findSome? (hf name)
/-- its two results. -/
def ans2 : Option (List UInt8) → Value
  | some v => .tuple #[.string ⟨v.toArray⟩, .bool true]
  | none => .tuple #[.string ⟨#[]⟩, .bool false]

/-- the headers that a slice value holds. -/
structure Hdr (N : Nat) (w : World) (ad : Option Addr) (hs : List (ByteArray × ByteArray)) : Prop where
  a : ∀ (i : Nat) h, hs[i]? = some h → ∃ b off, ad = some ⟨b, off, none⟩ ∧ b < N ∧ w.cell? ⟨b, off + i * 2, none⟩ = some (.string h.1) ∧ w.cell? ⟨b, off + i * 2 + 1, none⟩ = some (.string h.2)
theorem Hdr.below {N : Nat} {w w' : World} {ad : Option Addr} {hs : List (ByteArray × ByteArray)} (h : Hdr N w ad hs) (hb : Below N w w') : Hdr N w' ad hs :=
  ⟨fun i x hx => by
    obtain ⟨b, off, h1, h2, h3, h4⟩ := h.a i x hx
    exact ⟨b, off, h1, h2, (hb.cell (p := ⟨b, off + i * 2, none⟩) h2).trans h3, (hb.cell (p := ⟨b, off + i * 2 + 1, none⟩) h2).trans h4⟩⟩

theorem FT.grow {B o cap N N' : Nat} {w : World} (h : FT B o cap N w) (hn : N ≤ N') : FT B o cap N' w := ⟨Nat.lt_of_lt_of_le h.n1 hn, Nat.lt_of_lt_of_le h.nB hn, h.a, h.s, h.c⟩
theorem below_drewN {B : Nat} {a w : World} (h : Below B a w) (n : Nat) : Below B a (w.drewN n) := ⟨h.os, h.tape, h.output, h.size, h.block⟩
theorem fold_at {N : Nat} {w w' : World} (x : ByteArray) (hx : x.size ≤ 2000000) (B o cp : Nat) (hN : w.heap.size = N) (hF : FT B o cp N w) (hb : Below N w w') :
    Calls Tryd.prog 19 #[.string x, .string ⟨#[99, 111, 111, 107, 105, 101]⟩] w' fun e w2 => e = .returned (.bool (foldc x)) ∧ Below w'.heap.size w' w2 :=
  fold_walk x w' hx B o cp ((hF.below hb).grow (by rw [← hN]; rw [← hN] at hb; exact hb.size))
theorem cut_at {N : Nat} {w w' : World} (p sep a r : ByteArray) (f : Bool) (m : Int) (hp : p.size ≤ 2000000) (h5 : 5 < N) (hm : w.cell? ⟨5, 0, none⟩ = some (.int .i64 m)) (hb : Below N w w')
    (ha : a = ⟨(Lib.cut p.data.toList sep.data.toList).1.toArray⟩) (hr : r = ⟨(Lib.cut p.data.toList sep.data.toList).2.1.toArray⟩) (hf : f = (Lib.cut p.data.toList sep.data.toList).2.2) :
    Calls Tryd.prog 20 #[.string p, .string sep] w' fun e w2 => e = .returned (.tuple #[.string a, .string r, .bool f]) ∧ Below w'.heap.size w' w2 := by
  refine (Tryd.strings_Cut p sep m w' (by omega) ((hb.cell (p := ⟨5, 0, none⟩) h5).trans hm)).mono ?_
  rintro e w2 ⟨rfl, n, rfl⟩
  rw [ha, hr, hf]
  exact ⟨rfl, below_drewN (Below.refl _ _) n⟩
theorem trim_at (a t : ByteArray) (w' : World) (hp : a.size ≤ 2000000) (ht : t = ⟨(Lib.trimB a.data.toList 32).toArray⟩) :
    Calls Tryd.prog 21 #[.string a, .string ⟨#[32]⟩] w' fun e w2 => e = .returned (.string t) ∧ Below w'.heap.size w' w2 := by
  refine (Tryd.strings_Trim_one a 32 (by decide) w' (by omega)).mono ?_
  rintro e w2 ⟨rfl, h⟩
  refine ⟨by rw [ht], ?_⟩
  rcases h with rfl | rfl
  · exact Below.refl _ _
  · exact (Below.refl _ _).drew
theorem cut_le (l : List UInt8) (c : UInt8) : (Lib.cut l [c]).1.length ≤ l.length ∧ (l ≠ [] → (Lib.cut l [c]).2.1.length < l.length) := by
  unfold Lib.cut
  split
  · refine ⟨by simp; omega, fun hl => ?_⟩
    have : 0 < l.length := List.length_pos_iff.2 hl
    simp only [List.length_drop, List.length_singleton]
    omega
  · exact ⟨Nat.le_refl _, fun hl => by have : 0 < l.length := List.length_pos_iff.2 hl; simpa using this⟩
theorem trim_le (l : List UInt8) (c : UInt8) : (Lib.trimB l c).length ≤ l.length := by
  unfold Lib.trimB Lib.trimLeftB Lib.trimRightB
  have h1 := (List.dropWhile_sublist (l := (List.dropWhile (fun x => x == c) l.reverse).reverse) (fun x => x == c)).length_le
  have h2 := (List.dropWhile_sublist (l := l.reverse) (fun x => x == c)).length_le
  rw [List.length_reverse] at h1 h2
  omega
theorem ck_some {n : List UInt8} {x y : ByteArray} {r : List (ByteArray × ByteArray)} {v : List UInt8} (h : foldc x = true) (hp : pf n (y.size + 1) y.data.toList = some v) : ckF n ((x, y) :: r) = some v := by
  simp [ckF, hf, h, hp]
theorem ck_none {n : List UInt8} {x y : ByteArray} {r : List (ByteArray × ByteArray)} (h : foldc x = true) (hp : pf n (y.size + 1) y.data.toList = none) : ckF n ((x, y) :: r) = ckF n r := by
  simp [ckF, List.findSome?_cons, hf, h, hp]
theorem ck_skip {n : List UInt8} {x y : ByteArray} {r : List (ByteArray × ByteArray)} (h : foldc x = false) : ckF n ((x, y) :: r) = ckF n r := by
  simp [ckF, List.findSome?_cons, hf, h]
theorem info30 : (Tryd.prog.info? 30).map (fun i => (i.zero, i.size, i.bytes)) = some (some (.agg #[.string ⟨#[]⟩, .string ⟨#[]⟩]), 2, 32) := by kernel_rfl

set_option maxHeartbeats 400000 in
set_option maxRecDepth 100000 in
theorem cookie_walk (ad : Option Addr) (cap : Nat) (hs : List (ByteArray × ByteArray)) (route name : ByteArray) (m : Int) (w : World)
    (hH : Hdr w.heap.size w ad hs) (hn : hs.length ≤ 2000000) (hz : ∀ h ∈ hs, h.1.size ≤ 2000000 ∧ h.2.size ≤ 2000000)
    (B o cp : Nat) (hFT : FT B o cp w.heap.size w) (h5 : 5 < w.heap.size) (hm : w.cell? ⟨5, 0, none⟩ = some (.int .i64 m)) :
    Calls Tryd.prog 17 #[.agg #[.slice ad hs.length cap, .string route], .string name] w fun e w' => e = .returned (ans2 (ckF name.data.toList hs)) ∧ Below w.heap.size w w' := by
  have HH := Hid.mk' hH
  have HZ := Hid.mk' hz
  have HFT := Hid.mk' hFT
  have HM := Hid.mk' hm
  clear hH hz hFT hm
  go_enter Tryd.func17, Tryd.ntmps17
  go_wp2
  go_loopw [16] (fun s16 wr => ∃ k : Nat, k ≤ hs.length ∧ s16 = .int .i64 k ∧ ckF name.data.toList (hs.drop k) = ckF name.data.toList hs ∧ Below w.heap.size w wr) (fun s16 _ => hs.length - (intOf s16).toNat)
  case atStart => exact ⟨0, Nat.zero_le _, rfl, rfl, (Below.refl _ _).alloc (Nat.le_refl _) _⟩
  case round =>
    obtain ⟨k, hk, rfl, hc, hb⟩ := hrel
    have HC := Hid.mk' hc
    have HB := Hid.mk' hb
    clear hc hb
    by_cases hlt : k < hs.length
    · have hlt' : (k : Int) < (hs.length : Int) := by omega
      obtain ⟨h, hh⟩ : ∃ h, hs[k]? = some h := ⟨_, List.getElem?_eq_getElem hlt⟩
      obtain ⟨b, off, rfl, hbN, hc1, hc2⟩ := (HH.out.below HB.out).a k h hh
      obtain ⟨z1, z2⟩ := HZ.out h (List.mem_of_getElem? hh)
      obtain ⟨x, y⟩ := h
      simp only at hc1 hc2 z1 z2
      have hdr : hs.drop k = (x, y) :: hs.drop (k + 1) := by
        obtain ⟨hi, hx⟩ := List.getElem?_eq_some_iff.1 hh
        rw [List.drop_eq_getElem_cons hi, hx]
      have hc := HC.out
      rw [hdr] at hc
      have HC1 := Hid.mk' hc
      clear hc hdr hh
      obtain ⟨wa, hwa⟩ : ∃ wa, wa = wr.alloc (.cells #[.string x, .string y] 30) := ⟨_, rfl⟩
      have hba : Below w.heap.size w wa := by rw [hwa]; exact HB.out.alloc HB.out.size _
      have hcy : wa.cell? ⟨wr.heap.size, 1, none⟩ = some (.string y) := by rw [hwa, World.cell?_alloc_at _ _ _ _ rfl]; rfl
      have hsa : wr.heap.size < wa.heap.size := by rw [hwa]; simp
      have hc19 := fold_at x z1 B o cp rfl HFT.out hba
      have HBa := Hid.mk' hba
      have HCy := Hid.mk' hcy
      have HSa := Hid.mk' hsa
      have C19 := Hid.mk' hc19
      clear hba hcy hsa hc19
      cases hfc : foldc x
      · have hg : ckF name.data.toList (hs.drop (k + 1)) = ckF name.data.toList hs := by
          rw [← HC1.out]
          exact (ck_skip hfc).symm
        have HG := Hid.mk' hg
        clear hg
        rw [hfc] at C19
        go_wp2_with (go_at_call 19; rw [← hwa]; refine C19.out.mono ?_; rintro e w1 ⟨rfl, hb1⟩)
        have HB1 := Hid.mk' (HBa.out.trans (hb1.mono HBa.out.size))
        clear hb1
        go_roundw
        case rel => exact ⟨k + 1, by omega, by go_num, HG.out, HB1.out⟩
        case measure => simp [intOf]; omega
      · have HFc := Hid.mk' hfc
        rw [hfc] at C19
        go_wp2_with (go_at_call 19; rw [← hwa]; refine C19.out.mono ?_; rintro e w1 ⟨rfl, hb1⟩; have hy1 := (hb1.cell (p := ⟨wr.heap.size, 1, none⟩) HSa.out).trans HCy.out; have HB1 := Hid.mk' (HBa.out.trans (hb1.mono HBa.out.size)); clear hb1)
        go_loopg [8] (y.size + 1) (fun g s8 wx => ∃ p : ByteArray, s8 = .string p ∧ p.size < g ∧ p.size ≤ 2000000 ∧ pf name.data.toList g p.data.toList = pf name.data.toList (y.size + 1) y.data.toList ∧ Below w.heap.size w wx)
        case atStart => exact ⟨y, rfl, by omega, z2, rfl, HB1.out⟩
        case round =>
          obtain ⟨p, rfl, hpg, hpz, hpf, hbp⟩ := hrel
          have HBp := Hid.mk' hbp
          clear hbp hy1
          match gk, hpg, hpf with
          | 0, hpg, _ => omega
          | g + 1, hpg, hpf =>
            have hpl := Lib.toList_data p
            cases hpe : p.toList.isEmpty
            · have hne : p.data.toList ≠ [] := by rw [← hpl]; intro e; rw [e] at hpe; cases hpe
              rw [pf, if_neg hne] at hpf
              obtain ⟨a, ha⟩ : ∃ a : ByteArray, a = ⟨(Lib.cut p.data.toList [59]).1.toArray⟩ := ⟨_, rfl⟩
              obtain ⟨r, hr⟩ : ∃ r : ByteArray, r = ⟨(Lib.cut p.data.toList [59]).2.1.toArray⟩ := ⟨_, rfl⟩
              obtain ⟨q, hq⟩ : ∃ q, q = (Lib.cut p.data.toList [59]).2.2 := ⟨_, rfl⟩
              have hcl := cut_le p.data.toList 59
              have haz : a.size ≤ p.size := by rw [Lib.size_eq, Lib.size_eq, ha]; exact hcl.1
              have hrz : r.size < p.size := by rw [Lib.size_eq, Lib.size_eq, hr]; exact hcl.2 hne
              obtain ⟨tt, htt⟩ : ∃ tt : ByteArray, tt = ⟨(Lib.trimB a.data.toList 32).toArray⟩ := ⟨_, rfl⟩
              have htz : tt.size ≤ a.size := by rw [Lib.size_eq, Lib.size_eq, htt]; exact trim_le _ _
              obtain ⟨ke, hke⟩ : ∃ ke : ByteArray, ke = ⟨(Lib.cut tt.data.toList [61]).1.toArray⟩ := ⟨_, rfl⟩
              obtain ⟨va, hva⟩ : ∃ va : ByteArray, va = ⟨(Lib.cut tt.data.toList [61]).2.1.toArray⟩ := ⟨_, rfl⟩
              obtain ⟨ok, hok⟩ : ∃ ok, ok = (Lib.cut tt.data.toList [61]).2.2 := ⟨_, rfl⟩
              have cA := fun w' hb => cut_at (w' := w') p ⟨#[59]⟩ a r q m hpz h5 HM.out hb ha hr hq
              have cT := fun w' => trim_at a tt w' (by omega) htt
              have cB := fun w' hb => cut_at (w' := w') tt ⟨#[61]⟩ ke va ok m (by omega) h5 HM.out hb hke hva hok
              have e1 : (Lib.cut p.data.toList [59]).1 = a.data.toList := by rw [ha]
              have e2 : (Lib.cut p.data.toList [59]).2.1 = r.data.toList := by rw [hr]
              have e3 : Lib.trimB a.data.toList 32 = tt.data.toList := by rw [htt]
              have e4 : (Lib.cut tt.data.toList [61]).1 = ke.data.toList := by rw [hke]
              have e5 : (Lib.cut tt.data.toList [61]).2.1 = va.data.toList := by rw [hva]
              rw [e1, e2, e3, ← hok, e4, e5] at hpf
              have CA := Hid.mk' cA
              have CT := Hid.mk' cT
              have CB := Hid.mk' cB
              have hrg : r.size < g := by omega
              have hrz2 : r.size ≤ 2000000 := by omega
              clear cA cT cB ha hr hq htt hke hva hok e1 e2 e3 e4 e5 hcl haz hrz htz hne hpl hpz hpg
              by_cases hyes : ok = true ∧ ke.data.toList = name.data.toList
              · rw [if_pos hyes] at hpf
                obtain ⟨rfl, hkn⟩ := hyes
                have b1 : (ke.toList == name.toList) = true := by rw [Lib.toList_data, Lib.toList_data, hkn]; simp
                have hfin : ckF name.data.toList hs = some va.data.toList := by rw [← HC1.out]; exact ck_some HFc.out hpf.symm
                have HFin := Hid.mk' hfin
                clear hfin hpf hkn
                go_wp2_with fail
                refine (CA.out _ HBp.out).mono ?_
                rintro e w1 ⟨rfl, hb1⟩
                have HBA := Hid.mk' (HBp.out.trans (hb1.mono HBp.out.size))
                clear hb1
                go_wp2_with fail
                refine (CT.out _).mono ?_
                rintro e w2 ⟨rfl, hb2⟩
                have HBT := Hid.mk' (HBA.out.trans (hb2.mono HBA.out.size))
                clear hb2
                go_wp2_with fail
                refine (CB.out _ HBT.out).mono ?_
                rintro e w3 ⟨rfl, hb3⟩
                have HBB := Hid.mk' (HBT.out.trans (hb3.mono HBT.out.size))
                clear hb3
                go_wp2
                go_ret2
                exact ⟨by rw [HFin.out]; rfl, HBB.out⟩
              · rw [if_neg hyes] at hpf
                have HPf := Hid.mk' hpf
                clear hpf
                go_wp2_with fail
                refine (CA.out _ HBp.out).mono ?_
                rintro e w1 ⟨rfl, hb1⟩
                have HBA := Hid.mk' (HBp.out.trans (hb1.mono HBp.out.size))
                clear hb1
                go_wp2_with fail
                refine (CT.out _).mono ?_
                rintro e w2 ⟨rfl, hb2⟩
                have HBT := Hid.mk' (HBA.out.trans (hb2.mono HBA.out.size))
                clear hb2
                go_wp2_with fail
                refine (CB.out _ HBT.out).mono ?_
                rintro e w3 ⟨rfl, hb3⟩
                have HBB := Hid.mk' (HBT.out.trans (hb3.mono HBT.out.size))
                clear hb3
                cases hokc : ok
                · subst hokc
                  clear hyes
                  go_wp2
                  go_roundg g
                  case measure => omega
                  case rel => exact ⟨r, rfl, hrg, hrz2, HPf.out, HBB.out⟩
                · subst hokc
                  have b1 : (ke.toList == name.toList) = false := by
                    rw [Lib.toList_data, Lib.toList_data, beq_eq_false_iff_ne]
                    exact fun h => hyes ⟨rfl, h⟩
                  clear hyes
                  go_wp2
                  go_roundg g
                  case measure => omega
                  case rel => exact ⟨r, rfl, hrg, hrz2, HPf.out, HBB.out⟩
            · have hne : p.data.toList = [] := by rw [← hpl]; exact List.isEmpty_iff.1 hpe
              rw [pf, if_pos hne] at hpf
              have hg2 : ckF name.data.toList (hs.drop (k + 1)) = ckF name.data.toList hs := by rw [← HC1.out]; exact (ck_none HFc.out hpf.symm).symm
              have HG2 := Hid.mk' hg2
              clear hg2 hpf hne hpl
              go_wp2
              go_roundw
              case rel => exact ⟨k + 1, by omega, by go_num, HG2.out, HBp.out⟩
              case measure => simp [intOf]; omega
    · have hlt' : ¬ (k : Int) < (hs.length : Int) := by omega
      have hc := HC.out
      rw [List.drop_eq_nil_iff.2 (by omega)] at hc
      have HC1 := Hid.mk' hc
      clear hc
      go_wp2
      go_ret2
      exact ⟨by rw [← HC1.out]; rfl, HB.out⟩
end Go.Proofs.Qxb6605443aDoor
