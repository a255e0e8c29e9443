import Derived.Test.Qxb6605465aDoorChecked
import Derived.Test.Qxb6605465aDoorPlain
import Derived.Test.Qxb6605465aDoorSa
import Derived.WalkKit
import Derived.WalkSpells
import Derived.WalkLawsBesides
import Derived.Laws.RangeAny
import Derived.Laws.Runes
import Derived.Lib.Strings
import Derived.Lib.RuneCount
import Derived.Deep.QuietTactic
import Derived.BigQuiet
import Derived.Deep.LoopGhost
import Derived.WalkMore
import Derived.ScopeJumps
import Derived.Deep.Cut
import Derived.Deep.CutRange
namespace Go.Proofs.Qxb6605465aDoor
open Go.RowKit
set_option linter.unusedVariables false
set_option linter.unusedSimpArgs false
set_option linter.unnecessarySimpa false

theorem Hid.mk' {p : Prop} (h : p) : Hid p := h

/-- what the model's decoding gives at a high byte. -/
structure Dec (l : List UInt8) (i r k : Nat) : Prop where
  hi : 128 ≤ r
  lo : r ≤ 1114111
  one : 1 ≤ k
  fits : i + k ≤ l.length
  high : ∀ j x, i ≤ j → j < i + k → l[j]? = some x → 128 ≤ x.toNat
  val : Utf8.valid (r : Int) = true

theorem get_bang (s : ByteArray) (j : Nat) (x : UInt8) (h : s.data.toList[j]? = some x) : s.get! j = x := by
  obtain ⟨hj, hx⟩ := List.getElem?_eq_some_iff.1 h
  have hj' : j < s.size := by rw [Lib.size_eq]; exact hj
  have h2 := Lib.data_getElem? s j hj'
  rw [h] at h2
  have := get_at s j hj'
  rw [Nat.add_zero] at this
  rw [this]
  exact (Option.some.inj h2).symm

theorem dec_of (s : ByteArray) (i : Nat) (h : i < s.size) (ha : 128 ≤ (s[i]'h).toNat) : Dec s.data.toList i (Utf8.decode s i).1 (Utf8.decode s i).2 := by
  have hd := decode_high s i h ha
  have e0 : (s.get! (i + 0)).toNat = (s[i]'h).toNat := by rw [get_at s i h]
  have hb : ∀ k, (s.get! (i + k)).toNat < 256 := fun k => (s.get! (i + k)).toNat_lt
  have h1 := hb 1; have h2 := hb 2; have h3 := hb 3
  have key : (Utf8.decode s i).1 ≤ 1114111 ∧ Utf8.valid ((Utf8.decode s i).1 : Int) = true ∧ i + (Utf8.decode s i).2 ≤ s.size ∧ ∀ t, t < (Utf8.decode s i).2 → 128 ≤ (s.get! (i + t)).toNat := by
    have hn : ¬ (s[i]'h).toNat < 128 := by omega
    have h0 := UInt8.toNat_lt (s[i]'h)
    simp only [Utf8.decode, e0, hn, if_false]
    generalize hx0 : (s[i]'h).toNat = b0 at *
    have g0 : (s.get! (i + 0)).toNat = b0 := e0
    generalize hx1 : (s.get! (i + 1)).toNat = b1 at *
    generalize hx2 : (s.get! (i + 2)).toNat = b2 at *
    generalize hx3 : (s.get! (i + 3)).toNat = b3 at *
    have fin : ∀ k, 1 ≤ k → k ≤ 4 → (2 ≤ k → 128 ≤ b1) → (3 ≤ k → 128 ≤ b2) → (4 ≤ k → 128 ≤ b3) → ∀ t, t < k → 128 ≤ (s.get! (i + t)).toNat := by
      intro k k1 k4 f1 f2 f3 t ht
      match t, ht with
      | 0, _ => rw [g0]; omega
      | 1, _ => rw [hx1]; exact f1 (by omega)
      | 2, _ => rw [hx2]; exact f2 (by omega)
      | 3, _ => rw [hx3]; exact f3 (by omega)
      | t + 4, ht => omega
    have f1 := fin 1 (by omega) (by omega) (fun h => by omega) (fun h => by omega) (fun h => by omega)
    have err : (65533 : Nat) ≤ 1114111 ∧ Utf8.valid ((65533 : Nat) : Int) = true ∧ i + 1 ≤ s.size ∧ ∀ t, t < 1 → 128 ≤ (s.get! (i + t)).toNat := ⟨by omega, by decide, h, f1⟩
    have vv : ∀ n : Nat, ((n : Int) < 55296 ∨ (57343 < (n : Int) ∧ (n : Int) ≤ 1114111)) → Utf8.valid (n : Int) = true := fun n hn => by
      rw [validRune_eq, validRune, decide_eq_true_iff]; omega
    by_cases c2 : (b0 / 32 == 6 && (decide (i + 1 < s.size) && b1 / 64 == 2)) = true
    · rw [if_pos c2]
      simp only [Bool.and_eq_true, beq_iff_eq, decide_eq_true_iff] at c2
      split
      · exact ⟨by simp only; omega, vv _ (by omega), by simp only; omega, fin 2 (by omega) (by omega) (fun _ => by omega) (fun _ => by omega) (fun _ => by omega)⟩
      · exact err
    · rw [if_neg c2]
      by_cases c3 : (b0 / 16 == 14 && (decide (i + 1 < s.size) && b1 / 64 == 2) && (decide (i + 2 < s.size) && b2 / 64 == 2)) = true
      · rw [if_pos c3]
        simp only [Bool.and_eq_true, beq_iff_eq, decide_eq_true_iff] at c3
        split
        · rename_i hv
          rw [Bool.and_eq_true] at hv
          exact ⟨by simp only; omega, hv.2, by simp only; omega, fin 3 (by omega) (by omega) (fun _ => by omega) (fun _ => by omega) (fun _ => by omega)⟩
        · exact err
      · rw [if_neg c3]
        by_cases c4 : (b0 / 8 == 30 && (decide (i + 1 < s.size) && b1 / 64 == 2) && (decide (i + 2 < s.size) && b2 / 64 == 2) && (decide (i + 3 < s.size) && b3 / 64 == 2)) = true
        · rw [if_pos c4]
          simp only [Bool.and_eq_true, beq_iff_eq, decide_eq_true_iff] at c4
          split
          · rename_i hv
            rw [Bool.and_eq_true] at hv
            have hvv := hv.2
            rw [validRune_eq, validRune, decide_eq_true_iff] at hvv
            exact ⟨by simp only; omega, hv.2, by simp only; omega, fin 4 (by omega) (by omega) (fun _ => by omega) (fun _ => by omega) (fun _ => by omega)⟩
          · exact err
        · rw [if_neg c4]; exact err
  obtain ⟨k1, k2, k3, k4⟩ := key
  refine ⟨hd.1, k1, hd.2, by rw [← Lib.size_eq]; exact k3, ?_, k2⟩
  intro j x hj1 hj2 hx
  have := k4 (j - i) (by omega)
  rw [show i + (j - i) = j by omega, get_bang s j x hx] at this
  exact this
theorem chars_high (c : UInt8) (h : 128 ≤ c.toNat) (k : Nat) : firstIdx ((⟨#[46, 59, 91, 47]⟩ : ByteArray).extract k 4) c = -1 :=
  firstIdx_ascii _ _ _ _ (by decide) h

set_option maxHeartbeats 2000000 in
set_option maxRecDepth 100000 in
theorem rune_err (w : World) :
    Calls Tryd.prog 30 #[.string ⟨#[46, 59, 91, 47]⟩, .int .i32 65533] w fun e w' => e = .returned (.int .i64 (-1)) ∧ Below w.heap.size w w' := by
  have n0 := fun ty => run_next_ascii (P := Tryd.prog) w ⟨#[46, 59, 91, 47]⟩ 0 ty (by decide) (by decide)
  have n1 := fun ty => run_next_ascii (P := Tryd.prog) w ⟨#[46, 59, 91, 47]⟩ 1 ty (by decide) (by decide)
  have n2 := fun ty => run_next_ascii (P := Tryd.prog) w ⟨#[46, 59, 91, 47]⟩ 2 ty (by decide) (by decide)
  have n3 := fun ty => run_next_ascii (P := Tryd.prog) w ⟨#[46, 59, 91, 47]⟩ 3 ty (by decide) (by decide)
  have n4 := fun ty => run_next_end (P := Tryd.prog) w ⟨#[46, 59, 91, 47]⟩ 4 ty (by decide)
  go_enter Tryd.func30, Tryd.ntmps30
  go_wp2
  go_loopg [5, 6] 4 (fun g _ _ wx => ∃ i : Nat, i + g = 4 ∧ wx = w.iter ⟨#[46, 59, 91, 47]⟩ i)
  case atStart => exact ⟨0, by omega, rfl⟩
  case round =>
    obtain ⟨i, hig, rfl⟩ := hrel
    match gk, hig with
    | 0, hig =>
      obtain rfl : i = 4 := by omega
      go_wp2
      go_ret
      exact ⟨rfl, (Below.refl _ _).alloc (Nat.le_refl _) _⟩
    | 1, hig =>
      obtain rfl : i = 3 := by omega
      go_wp2
      go_roundg 0
      case measure => omega
      case rel => exact ⟨4, by omega, rfl⟩
    | 2, hig =>
      obtain rfl : i = 2 := by omega
      go_wp2
      go_roundg 1
      case measure => omega
      case rel => exact ⟨3, by omega, rfl⟩
    | 3, hig =>
      obtain rfl : i = 1 := by omega
      go_wp2
      go_roundg 2
      case measure => omega
      case rel => exact ⟨2, by omega, rfl⟩
    | 4, hig =>
      obtain rfl : i = 0 := by omega
      go_wp2
      go_roundg 3
      case measure => omega
      case rel => exact ⟨1, by omega, rfl⟩
    | g + 5, hig => omega

theorem below_drewN {B : Nat} {a w : World} (h : Below B a w) (n : Nat) : Below B a (w.drewN n) := ⟨h.os, h.tape, h.output, h.size, h.block⟩
theorem chars_low : ∀ b ∈ (⟨#[46, 59, 91, 47]⟩ : ByteArray).data.toList, b.toNat < 128 := by decide
theorem no_high : ∀ (l : List UInt8) (c : UInt8), (∀ b ∈ l, b.toNat < 128) → 128 ≤ c.toNat → Lib.indexByte l c = -1
  | [], _, _, _ => rfl
  | b :: r, c, h, hc => by
    have ih := no_high r c (fun x hx => h x (List.mem_cons_of_mem _ hx)) hc
    have hb := h b (List.mem_cons_self ..)
    have hne : (b == c) = false := by rw [beq_eq_false_iff_ne]; intro e; rw [e] at hb; omega
    rw [Lib.indexByte, hne, ih]; rfl
theorem idx_none (t : ByteArray) (c : UInt8) (w : World) (h : ∀ b ∈ t.data.toList, b.toNat < 128) (hc : 128 ≤ c.toNat) :
    Calls Tryd.prog 14 #[.string t, .int .u8 (c.toNat : Int)] w fun e w' => e = .returned (.int .i64 (-1)) ∧ w' = w := by
  refine (Tryd.strings_IndexByte t _ w).mono ?_
  rintro e w' ⟨rfl, rfl⟩
  have : ((c.toNat : Int)).toNat.toUInt8 = c := by simp
  rw [this, no_high _ _ h hc]
  exact ⟨rfl, rfl⟩

set_option maxHeartbeats 2000000 in
set_option maxRecDepth 100000 in
theorem rune_high (r : Int) (w : World) (h1 : 128 ≤ r) (h2 : r ≤ 1114111) (hne : r ≠ 65533) (hv : Utf8.valid r = true) :
    Calls Tryd.prog 30 #[.string ⟨#[46, 59, 91, 47]⟩, .int .i32 r] w fun e w' => e = .returned (.int .i64 (-1)) ∧ Below w.heap.size w w' := by
  obtain ⟨z2, z4, zl⟩ := encode_facts r hv h1
  obtain ⟨E, hE⟩ : ∃ E, Utf8.encode r = E := ⟨_, rfl⟩
  rw [hE] at z2 z4 zl
  have e1 : (r == 65533) = false := beq_eq_false_iff_ne.2 hne
  have e2 : ¬ r < 128 := by omega
  have hvr : Lib.validRune r = true := by
    rw [validRune_eq, validRune, decide_eq_true_iff] at hv
    unfold Lib.validRune
    simp
    omega
  have e3 : (0 : Int) ≤ r := by omega
  have hcv := fun w => run_convert_int_string (P := Tryd.prog) w 21 9 .i32 r (by rw [Tryd.underlying21]; rfl) Tryd.underlying9
  rw [hE] at hcv
  rcases (show E.size = 2 ∨ E.size = 3 ∨ E.size = 4 by omega) with hz | hz | hz
  · have hzI : (E.size : Int) = 2 := by omega
    have hl : 1 < E.size := by omega
    obtain ⟨y, hy⟩ : ∃ y : UInt8, E[1]'hl = y := ⟨_, rfl⟩
    have hyh : 128 ≤ y.toNat := by
      have := zl (by omega)
      rw [← hy]
      have e : E.size - 1 = 1 := by omega
      simpa only [e] using this
    have hw2 : IntKind.i64.wrap 2 = 2 := by decide
    have q1 : ((((⟨#[46, 59, 91, 47]⟩ : ByteArray)[1]'(by decide)).toNat : Int) != (y.toNat : Int)) = true := by
      show ((59 : Int) != (y.toNat : Int)) = true
      simp; omega
    have HY := Hid.mk' hyh
    have HZ := Hid.mk' hz
    clear zl hyh z2 z4 hv hne hz
    go_enter Tryd.func30, Tryd.ntmps30
    go_wp2_with (go_at_call 38; refine (Tryd.utf8_ValidRune _ _).mono ?_; rintro e w' ⟨rfl, hw⟩; rw [hw, hvr]; clear hw w')
    go_step3
    go_wp2
    go_loopw [9] (fun s9 wr => s9 = .int .i64 1 ∧ wr = w) (fun _ _ => 0)
    case atStart => exact ⟨rfl, rfl⟩
    case round =>
      obtain ⟨rfl, rfl⟩ := hrel
      go_wp2
      go_step3
      go_wp2
      go_quiet (fail)
      go_wp2
      generalize hwq : wr.drewN nq = wq
      go_quiet (first | (go_at_call 14; refine Calls.quiet_of_same (idx_none _ y _ (fun b hb => chars_low b (mem_extract hb)) HY.out)))
      go_wp2
      rw [Exit.noGoto_ret]
      go_wp2
      rw [Exit.noGoto_ret]
      go_ret
      exact ⟨rfl, by rw [← hwq]; exact below_drewN (below_drewN (Below.refl _ _) _) _⟩
  · have hzI : (E.size : Int) = 3 := by omega
    have hl : 2 < E.size := by omega
    obtain ⟨y, hy⟩ : ∃ y : UInt8, E[2]'hl = y := ⟨_, rfl⟩
    have hyh : 128 ≤ y.toNat := by
      have := zl (by omega)
      rw [← hy]
      have e : E.size - 1 = 2 := by omega
      simpa only [e] using this
    have hw2 : IntKind.i64.wrap 3 = 3 := by decide
    have q1 : ((((⟨#[46, 59, 91, 47]⟩ : ByteArray)[2]'(by decide)).toNat : Int) != (y.toNat : Int)) = true := by
      show ((91 : Int) != (y.toNat : Int)) = true
      simp; omega
    have HY := Hid.mk' hyh
    have HZ := Hid.mk' hz
    clear zl hyh z2 z4 hv hne hz
    go_enter Tryd.func30, Tryd.ntmps30
    go_wp2_with (go_at_call 38; refine (Tryd.utf8_ValidRune _ _).mono ?_; rintro e w' ⟨rfl, hw⟩; rw [hw, hvr]; clear hw w')
    go_step3
    go_wp2
    go_loopw [9] (fun s9 wr => s9 = .int .i64 2 ∧ wr = w) (fun _ _ => 0)
    case atStart => exact ⟨rfl, rfl⟩
    case round =>
      obtain ⟨rfl, rfl⟩ := hrel
      go_wp2
      go_step3
      go_wp2
      go_quiet (fail)
      go_wp2
      generalize hwq : wr.drewN nq = wq
      go_quiet (first | (go_at_call 14; refine Calls.quiet_of_same (idx_none _ y _ (fun b hb => chars_low b (mem_extract hb)) HY.out)))
      go_wp2
      rw [Exit.noGoto_ret]
      go_wp2
      rw [Exit.noGoto_ret]
      go_ret
      exact ⟨rfl, by rw [← hwq]; exact below_drewN (below_drewN (Below.refl _ _) _) _⟩
  · have hzI : (E.size : Int) = 4 := by omega
    have hl : 3 < E.size := by omega
    obtain ⟨y, hy⟩ : ∃ y : UInt8, E[3]'hl = y := ⟨_, rfl⟩
    have hyh : 128 ≤ y.toNat := by
      have := zl (by omega)
      rw [← hy]
      have e : E.size - 1 = 3 := by omega
      simpa only [e] using this
    have hw2 : IntKind.i64.wrap 4 = 4 := by decide
    have q1 : ((((⟨#[46, 59, 91, 47]⟩ : ByteArray)[3]'(by decide)).toNat : Int) != (y.toNat : Int)) = true := by
      show ((47 : Int) != (y.toNat : Int)) = true
      simp; omega
    have HY := Hid.mk' hyh
    have HZ := Hid.mk' hz
    clear zl hyh z2 z4 hv hne hz
    go_enter Tryd.func30, Tryd.ntmps30
    go_wp2_with (go_at_call 38; refine (Tryd.utf8_ValidRune _ _).mono ?_; rintro e w' ⟨rfl, hw⟩; rw [hw, hvr]; clear hw w')
    go_step3
    go_wp2
    go_loopw [9] (fun s9 wr => s9 = .int .i64 3 ∧ wr = w) (fun _ _ => 0)
    case atStart => exact ⟨rfl, rfl⟩
    case round =>
      obtain ⟨rfl, rfl⟩ := hrel
      go_wp2
      go_step3
      go_wp2
      go_quiet (fail)
      go_wp2
      generalize hwq : wr.drewN nq = wq
      go_quiet (first | (go_at_call 14; refine Calls.quiet_of_same (idx_none _ y _ (fun b hb => absurd hb (by simp)) HY.out)))
      go_wp2
      rw [Exit.noGoto_ret]
      go_wp2
      rw [Exit.noGoto_ret]
      go_ret
      exact ⟨rfl, by rw [← hwq]; exact below_drewN (below_drewN (Below.refl _ _) _) _⟩
end Go.Proofs.Qxb6605465aDoor
