import Derived.Test.Qxb6600587aDoorWe
import Derived.Test.Qxb6600587aDoorDec
import Derived.Test.Qxb6600587aDoorShelf
namespace Go.Proofs.Qxb6600587aDoor
open Go.RowKit Go.Shelf
set_option linter.unusedVariables false

theorem get_drop (l : List UInt8) (i j : Nat) (y : UInt8) (h : l[i + j]? = some y) : (⟨(l.drop i).toArray⟩ : ByteArray).get! j = y := by
  show (l.drop i).toArray[j]! = y
  simp [h]
theorem drop_size (l : List UInt8) (i : Nat) : (⟨(l.drop i).toArray⟩ : ByteArray).size = l.length - i := by
  show (l.drop i).toArray.size = _
  simp

theorem decAt (l : List UInt8) (n c b off : Nat) (w : World) (hl : n = l.length) (hx : b < w.heap.size)
    (hc : ∀ i y, l[i]? = some y → w.cell? ⟨b, off + i, none⟩ = some (.int .u8 (y.toNat : Int))) (hT : Lib.Utf8Tabs 1 2 w) : DecAt l n c b off w := by
  intro wr i y hb hy h128
  have hi : i < l.length := (List.getElem?_eq_some_iff.1 hy).1
  obtain ⟨s, hs⟩ : ∃ s : ByteArray, s = ⟨(l.drop i).toArray⟩ := ⟨_, rfl⟩
  have hsz : s.size = n - i := by rw [hs, drop_size, hl]
  have hg : ∀ j x, l[i + j]? = some x → s.get! j = x := fun j x h => by rw [hs]; exact get_drop l i j x h
  have hT' : Lib.Utf8Tabs 1 2 wr := Utf8Tabs_below hT hb
  have C := Any7.utf8_DecodeRune Tryd.lays732 s b (off + i) (c - i) wr hT' (fun j hj => by
    have hij : i + j < l.length := by omega
    obtain ⟨x, hxj⟩ : ∃ x, l[i + j]? = some x := ⟨_, List.getElem?_eq_getElem hij⟩
    rw [hg j x hxj]
    have := (hb.cell (p := ⟨b, off + (i + j), none⟩) hx).trans (hc (i + j) x hxj)
    rw [Nat.add_assoc]; exact this)
  rw [hsz] at C
  refine Calls.mono C fun e w' ⟨he, hb'⟩ => ?_
  have h0 : s.get! 0 = y := hg 0 y (by simpa using hy)
  have hd : Lib.decodeGo s = Lib.decodeN s.size (s.get! 0).toNat (s.get! 1).toNat (s.get! 2).toNat (s.get! 3).toNat := by
    unfold Lib.decodeGo
    rw [if_neg (by omega), Lib.decode_at s 0]
    rfl
  have D := decN s.size (s.get! 0).toNat (s.get! 1).toNat (s.get! 2).toNat (s.get! 3).toNat (by omega) (by rw [h0]; exact h128) (UInt8.toNat_lt _) (UInt8.toNat_lt _) (UInt8.toNat_lt _) (UInt8.toNat_lt _)
  rw [← hd] at D
  refine ⟨_, _, he, ?_, hb'⟩
  generalize (Lib.decodeGo s).1 = r at D
  generalize (Lib.decodeGo s).2 = k at D
  refine ⟨D.hi, D.lo, D.one, D.four, by have := D.fits; omega, fun j x hj1 hj2 hjx => ?_, fun hr => ?_⟩
  · obtain ⟨t, rfl⟩ : ∃ t, j = i + t := ⟨j - i, by omega⟩
    have hgt := hg t x hjx
    apply isB_high
    rw [← hgt]
    have := D.four
    match t, hj2 with
    | 0, _ => rw [h0]; exact h128
    | 1, hj2 => exact D.c1 (by omega)
    | 2, hj2 => exact D.c2 (by omega)
    | 3, hj2 => exact D.c3 (by omega)
    | t + 4, hj2 => omega
  · obtain ⟨e1, e2, e3⟩ := D.enc hr
    have hv := valid_of r e1
    exact ⟨hv, by rw [enc_size r hv D.hi, e3], e2⟩

/-- bytes.IndexAny(data, CR LF) at every slice of at most 65536 bytes. -/
theorem indexAny_any (a : Option Addr) (n c : Nat) (l : List UInt8) (m : Int) (w : World) (hl : n = l.length) (hn : n ≤ 65536) (hcn : n ≤ c)
    (hm : w.cell? ⟨0, 0, none⟩ = some (.int .i64 m)) (h0 : 0 < w.heap.size) (hT : Lib.Utf8Tabs 1 2 w)
    (ha : n ≠ 0 → ∃ b off, a = some ⟨b, off, none⟩ ∧ b < w.heap.size ∧ ∀ i y, l[i]? = some y → w.cell? ⟨b, off + i, none⟩ = some (.int .u8 (y.toNat : Int))) :
    Calls Tryd.prog 15 #[.slice a n c, .string ⟨#[13, 10]⟩] w fun e w' => e = .returned (.int .i64 (idx l)) ∧ Below w.heap.size w w' := by
  by_cases hz : n = 0
  · subst hz
    have e1 : l = [] := List.length_eq_zero_iff.1 hl.symm
    subst e1
    refine (indexAny_zero a c w).mono fun e w' ⟨h1, h2⟩ => ⟨h1, h2 ▸ Below.refl _ _⟩
  obtain ⟨b, off, rfl, hx, hc⟩ := ha hz
  by_cases h1 : n = 1
  · subst h1
    obtain ⟨x, rfl⟩ := List.length_eq_one_iff.1 hl.symm
    have hc0 := hc 0 x rfl
    by_cases hlow : x.toNat < 128
    · exact (indexAny_one_low b off c x w hlow hc0).mono fun e w' ⟨h1, h2⟩ => ⟨h1, h2 ▸ Below.refl _ _⟩
    · refine (indexAny_one_high b off c x w (by omega) hc0).mono fun e w' ⟨h1, h2⟩ => ⟨?_, h2⟩
      rw [h1]
      exact ret_int (idx_none (fun j y hj hy => by
        obtain rfl : j = 0 := by simpa using hj
        simp at hy; subst hy; exact isB_high _ (by omega))).symm
  by_cases h8 : n ≤ 8
  · exact indexAny_short b off n c l m w hl (by omega) h8 hcn hx h0 hm hc (decAt l n c b off w hl hx hc hT)
  · exact indexAny_long setEnv b off n c l w hl (by omega) hn hx hc

end Go.Proofs.Qxb6600587aDoor
