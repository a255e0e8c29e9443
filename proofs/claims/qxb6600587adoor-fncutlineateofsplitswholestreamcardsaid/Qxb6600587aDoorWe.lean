import Derived.Test.Qxb6600587aDoorWd
import Derived.Lib.IndexEntry
import Derived.Lib.IndexLaws
namespace Go.Proofs.Qxb6600587aDoor
open Go.RowKit Go.Shelf
set_option linter.unusedVariables false

/-- what the decoder's answer (r, k) at place i is good for. -/
structure Dec (l : List UInt8) (i r k : Nat) : Prop where
  hi : 128 ≤ r
  lo : r ≤ 1114111
  one : 1 ≤ k
  four : k ≤ 4
  fits : i + k ≤ l.length
  noB : ∀ j x, i ≤ j → j < i + k → l[j]? = some x → isB x = false
  enc : r ≠ 65533 → Utf8.valid (r : Int) = true ∧ (Utf8.encode (r : Int)).size = k ∧ 2 ≤ k

theorem index_long (E : ByteArray) (h : 3 ≤ E.size) : Lib.index ([13, 10] : List UInt8) E.data.toList = -1 := by
  refine Lib.index_past (i := 0) ?_ (fun j hj => absurd hj (Nat.not_lt_zero _)) ?_
  · intro e
    have h' := Lib.size_eq E
    rw [e, List.length_nil] at h'
    omega
  · rw [← Lib.size_eq]; show 2 < 0 + E.size; omega
theorem call22 (E : ByteArray) (m : Int) (w : World) (hm : w.cell? ⟨0, 0, none⟩ = some (.int .i64 m)) (h3 : 3 ≤ E.size) (hb : (E.size : Int) ≤ m) :
    (callFunc 22 #[.string ⟨#[13, 10]⟩, .string E]).run Tryd.prog w = .ok (.value (.int .i64 (-1))) w := by
  rw [run_callFunc_extern Tryd.func22 (by kernel_rfl) (by kernel_rfl) (by kernel_rfl) (e := Extern.BytealgIndex.index) (by kernel_rfl),
    Lib.run_indexString ⟨#[13, 10]⟩ E w 0 m (by kernel_rfl) hm (by omega) hb (by decide)]
  simp only [Result.andThen]
  rw [index_long E h3]
theorem enc_ne (E : ByteArray) (h2 : E.size = 2) (hh : ∀ h : E.size - 1 < E.size, 128 ≤ (E[E.size - 1]'h).toNat) : (([13, 10] : List UInt8) == E.toList) = false := by
  rw [beq_eq_false_iff_ne]
  intro e
  have h1 := hh (by omega)
  have e2 : E.data.toList = [13, 10] := by rw [← Lib.toList_data]; exact e.symm
  have key : ∀ (j : Nat) (hj : j < E.size), j = 1 → E[j]'hj = 10 := fun j hj ej => by
    subst ej
    have e3 := Lib.data_getElem? E 1 hj
    rw [e2] at e3
    simpa using e3.symm
  rw [key _ _ (by omega)] at h1
  simp at h1

/-- utf8.DecodeRune's contract at the places of one slice, in every later world. -/
def DecAt (l : List UInt8) (n c b off : Nat) (w : World) : Prop := ∀ (wr : World) (i : Nat) (y : UInt8), Below w.heap.size w wr → l[i]? = some y → 128 ≤ y.toNat →
  Calls Tryd.prog 21 #[.slice (some ⟨b, off + i, none⟩) (n - i) (c - i)] wr fun e w' => ∃ r k : Nat, e = .returned (.tuple #[.int .i32 (r : Int), .int .i64 (k : Int)]) ∧ Dec l i r k ∧ Below wr.heap.size wr w'

set_option maxHeartbeats 1000000 in
set_option maxRecDepth 1000000 in
theorem indexAny_short (b off n c : Nat) (l : List UInt8) (m : Int) (w : World) (hl : n = l.length) (h2 : 2 ≤ n) (h8 : n ≤ 8) (hcn : n ≤ c) (hx : b < w.heap.size) (h0 : 0 < w.heap.size)
    (hm : w.cell? ⟨0, 0, none⟩ = some (.int .i64 m))
    (hc : ∀ i y, l[i]? = some y → w.cell? ⟨b, off + i, none⟩ = some (.int .u8 (y.toNat : Int)))
    (hD : DecAt l n c b off w) :
    Calls Tryd.prog 15 #[.slice (some ⟨b, off, none⟩) n c, .string ⟨#[13, 10]⟩] w fun e w' => e = .returned (.int .i64 (idx l)) ∧ Below w.heap.size w w' := by
  have HC : Hid (∀ i y, l[i]? = some y → w.cell? ⟨b, off + i, none⟩ = some (.int .u8 (y.toNat : Int))) := hc
  have HL : Hid (n = l.length) := hl
  clear hc hl
  have hn1 : ((n : Int) == 1) = false := beq_eq_false_iff_ne.2 (by omega)
  have h8z : decide ((8 : Int) < (n : Int)) = false := decide_eq_false (by omega)
  go_enter Tryd.func15, Tryd.ntmps15
  go_wp2_with (go_at_call 18; refine (useSet setEnv _ _).mono ?_; rintro e w' ⟨rfl, hw⟩; rw [hw, h8z])
  go_loopg [12] n (fun g s12 wr => ∃ i : Nat, i + g = n ∧ s12 = .int .i64 i ∧ NoB l i ∧ Below w.heap.size w wr)
  case atStart => exact ⟨0, by omega, rfl, NoB.zero _, Below.refl _ _⟩
  case round =>
    obtain ⟨i, hig, rfl, hno, hb⟩ := hrel
    have HN : Hid (NoB l i) := hno
    clear hno
    cases gk with
    | zero =>
      obtain rfl : i = n := by omega
      have hiz : ¬ ((i : Int) < (i : Int)) := by omega
      go_wp2
      go_ret
      exact ⟨ret_int (idx_none (by rw [← HL.out]; exact HN.out)).symm, hb⟩
    | succ g =>
      have hi : i < n := by omega
      have hiz : (i : Int) < (n : Int) := by omega
      have hil : i < l.length := by rw [← HL.out]; exact hi
      obtain ⟨x, hxl⟩ : ∃ x : UInt8, l[i]? = some x := ⟨_, List.getElem?_eq_getElem hil⟩
      have hcell : wr.cell? ⟨b, off + i, none⟩ = some (.int .u8 (x.toNat : Int)) := (hb.cell (p := ⟨b, off + i, none⟩) hx).trans (HC.out i x hxl)
      have h256 : (x.toNat : Int) < 256 := by have := UInt8.toNat_lt x; omega
      have Hx : Hid (l[i]? = some x) := hxl
      clear hxl
      by_cases hlow : x.toNat < 128
      · have hlow' : (x.toNat : Int) < 128 := by omega
        have h16 := fun w => call16 ⟨#[13, 10]⟩ x w
        cases hin : isB x
        · have hf := first_no x hin
          go_wp2
          go_roundg g
          case measure => omega
          case rel => exact ⟨i + 1, by omega, by go_num, HN.out.succ Hx.out hin, hb⟩
        · have hf := first_yes x hin
          go_wp2
          go_ret
          exact ⟨ret_int (idx_hit HN.out Hx.out hin).symm, hb⟩
      · have hlow' : ¬ (x.toNat : Int) < 128 := by omega
        go_wp2_with fail
        refine (hD wr i x hb Hx.out (by omega)).mono ?_
        rintro e w1 ⟨r, k, rfl, hdec, hb1⟩
        have HB1 : Hid (Below w.heap.size w w1) := hb.trans (hb1.mono hb.size)
        have hm1 : w1.cell? ⟨0, 0, none⟩ = some (.int .i64 m) := (HB1.out.cell (p := ⟨0, 0, none⟩) h0).trans hm
        have r1 : (128 : Int) ≤ (r : Int) := by have := hdec.hi; omega
        have r2 : (r : Int) ≤ 1114111 := by have := hdec.lo; omega
        have k1 : 1 ≤ k := hdec.one
        have k4 : k ≤ 4 := hdec.four
        have kf : i + k ≤ n := by rw [HL.out]; exact hdec.fits
        have e13 : ((r : Int) == 13) = false := beq_eq_false_iff_ne.2 (by omega)
        have e10 : ((r : Int) == 10) = false := beq_eq_false_iff_ne.2 (by omega)
        have HNk : Hid (NoB l (i + k)) := fun j y hj hy => by
          rcases Nat.lt_or_ge j i with h' | h'
          · exact HN.out j y h' hy
          · exact hdec.noB j y h' hj hy
        have n0 := next0 w1
        have n1 := next1 w1
        have n2 := next2 w1
        by_cases hr : r = 65533
        · have hrB : ((r : Int) != 65533) = false := by rw [hr]; rfl
          have HR : Hid (r = 65533) := hr
          clear hr hb hb1 hdec hm hcell
          go_wp2
          go_loopg [15] 2 (fun g _ wx => ∃ j : Nat, j + g = 2 ∧ wx = w1.iter ⟨#[13, 10]⟩ j)
          case atStart => exact ⟨0, by omega, rfl⟩
          case round =>
            obtain ⟨j, hjg, rfl⟩ := hrel
            match gk, hjg with
            | 0, hjg =>
              obtain rfl : j = 2 := by omega
              go_wp2
              go_roundg (n - (i + k))
              case measure => omega
              case rel => exact ⟨i + k, by omega, by go_num, HNk.out, HB1.out.alloc (by have := HB1.out.size; omega) _⟩
            | 1, hjg =>
              obtain rfl : j = 1 := by omega
              go_wp2
              go_roundg 0
              case measure => omega
              case rel => exact ⟨2, by omega, rfl⟩
            | 2, hjg =>
              obtain rfl : j = 0 := by omega
              go_wp2
              go_roundg 1
              case measure => omega
              case rel => exact ⟨1, by omega, rfl⟩
            | g + 3, hjg => omega
        · have hrB : ((r : Int) != 65533) = true := bne_iff_ne.2 (by omega)
          obtain ⟨hv, hes, hk2⟩ := hdec.enc hr
          have ef := encode_facts (r : Int) hv r1
          obtain ⟨E, hE⟩ : ∃ E, E = Utf8.encode (r : Int) := ⟨_, rfl⟩
          have hcv : ∀ w, (convert 21 9 (.int .i32 (r : Int))).run Tryd.prog w = .ok (.string E) w := fun w => by
            rw [hE]; exact run_convert_int_string w 21 9 .i32 _ (by rw [Tryd.underlying21]; rfl) Tryd.underlying9
          rw [← hE] at hes ef
          have HE : Hid (E.size = k ∧ ∀ h : E.size - 1 < E.size, 128 ≤ (E[E.size - 1]'h).toNat) := ⟨hes, ef.2.2⟩
          clear hes ef hE hv
          by_cases hk : k = 2
          · have hkB : ((2 : Int) == (k : Int)) = true := by rw [hk]; rfl
            have hne := enc_ne E (by rw [HE.out.1, hk]) HE.out.2
            have HK : Hid (k = 2) := hk
            clear hk hr hb hb1 hdec hm hcell
            go_wp2
            go_roundg (n - (i + k))
            case measure => omega
            case rel => exact ⟨i + k, by omega, by go_num, HNk.out, HB1.out⟩
          · have hkB : ((2 : Int) == (k : Int)) = false := beq_eq_false_iff_ne.2 (by omega)
            by_cases hmk : (k : Int) ≤ m
            · have h22 := call22 E m w1 hm1 (by rw [HE.out.1]; omega) (by rw [HE.out.1]; exact hmk)
              clear hk hr hb hb1 hdec hm hcell
              go_wp2
              go_roundg (n - (i + k))
              case measure => omega
              case rel => exact ⟨i + k, by omega, by go_num, HNk.out, HB1.out⟩
            · clear hk hr hb hb1 hdec hm hcell
              go_wp2
              go_loopg [15] 2 (fun g _ wx => ∃ j : Nat, j + g = 2 ∧ wx = w1.iter ⟨#[13, 10]⟩ j)
              case atStart => exact ⟨0, by omega, rfl⟩
              case round =>
                obtain ⟨j, hjg, rfl⟩ := hrel
                match gk, hjg with
                | 0, hjg =>
                  obtain rfl : j = 2 := by omega
                  go_wp2
                  go_roundg (n - (i + k))
                  case measure => omega
                  case rel => exact ⟨i + k, by omega, by go_num, HNk.out, HB1.out.alloc (by have := HB1.out.size; omega) _⟩
                | 1, hjg =>
                  obtain rfl : j = 1 := by omega
                  go_wp2
                  go_roundg 0
                  case measure => omega
                  case rel => exact ⟨2, by omega, rfl⟩
                | 2, hjg =>
                  obtain rfl : j = 0 := by omega
                  go_wp2
                  go_roundg 1
                  case measure => omega
                  case rel => exact ⟨1, by omega, rfl⟩
                | g + 3, hjg => omega
end Go.Proofs.Qxb6600587aDoor
