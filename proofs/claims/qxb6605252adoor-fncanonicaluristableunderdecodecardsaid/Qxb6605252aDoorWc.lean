import Derived.Test.Qxb6605252aDoorWa
import Derived.Lib.SmallJoins
namespace Go.Proofs.Qxb6605252aDoor
open Go.RowKit
set_option linter.unusedVariables false
set_option linter.unnecessarySimpa false
set_option linter.unusedSimpArgs false

theorem info5 : (Tryd.prog.info? 5).map (fun i => (i.zero, i.size, i.bytes)) = some (some (.int .u8 0), 1, 1) := by kernel_rfl
/-- a byte as a cell holds it. -/
def bv (y : UInt8) : Value := .int .u8 (y.toNat : Int)

theorem hexc (m : Nat) (h : m < 16) (w : World) : Calls Tryd.prog 13 #[.int .u8 ((hexD m).toNat : Int)] w fun e w' => e = .returned (.tuple #[.int .u8 (m : Int), .bool true]) ∧ w' = w := by
  by_cases h1 : m < 10
  · have := hexD_low h1
    refine (hex_low (hexD m).toNat w (by omega) (by omega)).mono fun e w' ⟨h2, h3⟩ => ⟨?_, h3⟩
    rw [h2, this]
    rw [show ((48 + m : Nat) : Int) - 48 = (m : Int) by omega]
  · have := hexD_high (by omega) h
    refine (hex_high (hexD m).toNat w (by omega) (by omega)).mono fun e w' ⟨h2, h3⟩ => ⟨?_, h3⟩
    rw [h2, this]
    rw [show ((55 + m : Nat) : Int) - 65 + 10 = (m : Int) by omega]

theorem or_hex (c : UInt8) : bits BinOp.or IntKind.u8 ((c.toNat : Int) / 16 * 16) ((c.toNat : Int) % 16) = (c.toNat : Int) := by
  have key : ∀ i : Fin 256, bits BinOp.or IntKind.u8 ((i.val : Int) / 16 * 16) ((i.val : Int) % 16) = (i.val : Int) := by decide +kernel
  exact key ⟨c.toNat, UInt8.toNat_lt c⟩
theorem un37 (w : World) : Calls Tryd.prog 12 #[.int .u8 37] w fun e w' => e = .returned (.bool false) ∧ w' = w := unres_no 37 w (by unfold UnR; omega)

set_option maxHeartbeats 4000000 in
set_option maxRecDepth 100000 in
theorem dec_any (p : List UInt8) (s : ByteArray) (w : World) (hs : s.data.toList = escL p) (hp : p.length ≤ 70002) :
    Calls Tryd.prog 7 #[.string s] w fun e w' => e = .returned (.tuple #[.string ⟨p.toArray⟩, .bool true]) ∧ Below w.heap.size w w' := by
  obtain ⟨i0, hi, hz0, hz1, hz2⟩ := info_parts info5
  have hsz : s.size = (escL p).length := by rw [Lib.size_eq, hs]
  have hsm : s.size ≤ 210006 := by have := escL_len p; omega
  have HS := Hid.mk' hs
  have HZ := Hid.mk' hsz
  clear hs hsz
  go_enter Tryd.func7, Tryd.ntmps7
  go_wp2_with (at_make; refine wpList_make_own _ rfl _ _ 26 rfl w.heap.size 5 i0 (.int .u8 0) 1 Tryd.underlying26 hi hz0 hz1 .i64 .i64 s.size s.size rfl rfl rfl (by rw [hz2]; omega) (by unfold maxLen; omega) (Nat.le_refl _) ?_; intro w1 hown hgrow)
  have hb1 : Below w.heap.size w w1 := (Below.refl _ w).grown hgrow (Nat.le_refl _) (fun _ h => by cases h)
  go_loopw [4, 5] (fun s4 s5 wr => ∃ j : Nat, j ≤ p.length ∧ s5 = .int .i64 ((escL (p.take j)).length : Int) ∧ wr.ownsRow w.heap.size 5 1 s4 j ((p.take j).map bv) ∧ Below w.heap.size w wr ∧ (∃ g cap, s4 = .slice (some ⟨g, 0, none⟩) j cap)) (fun _ s5 _ => s.size - (intOf s5).toNat)
  case atStart => exact ⟨0, Nat.zero_le _, rfl, hown, hb1, _, _, rfl⟩
  case round =>
    clear hown hgrow hb1
    obtain ⟨j, hj, rfl, hown, hb, g, cap, rfl⟩ := hrel
    have HO := Hid.mk' hown
    have HB := Hid.mk' hb
    obtain ⟨k, hk⟩ : ∃ k, k = (escL (p.take j)).length := ⟨_, rfl⟩
    rw [← hk]
    have HK := Hid.mk' hk
    clear hown hb hk
    by_cases hlt : j < p.length
    · obtain ⟨c, hc⟩ : ∃ c, p[j]? = some c := ⟨_, List.getElem?_eq_getElem hlt⟩
      have hc256 : (c.toNat : Int) < 256 := by have := UInt8.toNat_lt c; omega
      have hroom := escL_room p j c hc
      rw [← HK.out, ← HZ.out] at hroom
      have hel := (esc_len c).1
      have hks : k < s.size := by omega
      have hks' : (k : Int) < (s.size : Int) := by omega
      have hat : ∀ t, t < (esc c).length → s.data.toList[k + t]? = (esc c)[t]? := fun t ht => by rw [HS.out, HK.out]; exact escL_at p j t c hc ht
      have hnx := escL_take_succ p j c hc
      rw [← HK.out] at hnx
      have HNx := Hid.mk' hnx
      have htk : (p.take (j + 1)).map bv = (p.take j).map bv ++ [bv c] := by rw [List.take_add_one, hc]; simp
      have HTk := Hid.mk' htk
      have HA := Hid.mk' hat
      clear hnx htk hat
      cases hkp : keepB c
      · have he : esc c = [37, hexD (c.toNat / 16), hexD (c.toNat % 16)] := by unfold esc; rw [hkp]; rfl
        rw [he] at hroom
        simp only [List.length_cons, List.length_nil] at hroom
        have hnk : ¬ (UnR c.toNat ∨ c.toNat = 47) := fun h => by have := (keep_iff c).2 h; rw [hkp] at this; cases this
        have x0 : s[k]'hks = 37 := by
          have h1 := HA.out 0 (by rw [he]; simp)
          rw [he] at h1
          have h2 := Lib.data_getElem? s k hks
          simp only [Nat.add_zero] at h1
          rw [h1] at h2
          simpa using h2.symm
        have x1 : s[k + 1]'(by omega) = hexD (c.toNat / 16) := by
          have h1 := HA.out 1 (by rw [he]; simp)
          rw [he] at h1
          have h2 := Lib.data_getElem? s (k + 1) (by omega)
          rw [h1] at h2
          simpa using h2.symm
        have x2 : s[k + 2]'(by omega) = hexD (c.toNat % 16) := by
          have h1 := HA.out 2 (by rw [he]; simp)
          rw [he] at h1
          have h2 := Lib.data_getElem? s (k + 2) (by omega)
          rw [h1] at h2
          simpa using h2.symm
        have c47 : ((c.toNat : Int) == 47) = false := beq_eq_false_iff_ne.2 (by omega)
        have hnU : ¬ UnR c.toNat := fun h => hnk (Or.inl h)
        have HnU := Hid.mk' hnU
        have HE := Hid.mk' he
        clear he hkp hnk hnU hc
        have k1 : (k : Int) + 1 < (s.size : Int) := by omega
        have k2 : (k : Int) + 2 < (s.size : Int) := by omega
        go_wp2_with (first | (go_at_call 12; refine (un37 _).mono ?_; rintro e w' ⟨rfl, hw⟩; rw [hw]; clear hw w'))
        refine (hexc (c.toNat / 16) (by omega) _).mono ?_
        rintro e w' ⟨rfl, hw⟩
        rw [hw]
        clear hw w'
        go_wp2_with fail
        refine (hexc (c.toNat % 16) (by omega) _).mono ?_
        rintro e w' ⟨rfl, hw⟩
        rw [hw]
        clear hw w'
        have hor := or_hex c
        go_wp2_with (first | (go_at_call 12; refine (unres_no _ _ HnU.out).mono ?_; rintro e w' ⟨rfl, hw⟩; rw [hw]; clear hw w') | (at_builtin; refine wpList_append_own _ rfl (.tmp 75) (.tmp 77) 26 rfl w.heap.size 5 i0 (.int .u8 0) 1 1 Tryd.underlying26 hi hz0 hz1 hz2 rfl (by decide) _ _ _ rfl (HO.out.alloc _) ⟨wr.heap.size, 0, none⟩ 1 1 [bv c] rfl rfl (cell_one_new _ _ _) (by simp [Value.oneCell', bv]) (by unfold maxLen; omega) (by omega) (by have := HB.out.size; simp; omega) ?_; intro v1 w2 hown1 hgrow1 _))
        go_roundw
        case rel => exact ⟨j + 1, by omega, by rw [HNx.out, HE.out]; go_num, by rw [HTk.out]; exact hown1, (HB.out.alloc (by have := HB.out.size; omega) _).grown hgrow1 (by have := HB.out.size; simp; omega) (fun g hg => (HO.out.lt g hg).1), Joins.ownsRow_form hown1 (by omega)⟩
        case measure => simp [intOf]; omega
      · have he : esc c = [c] := by unfold esc; rw [if_pos hkp]
        have hkk := (keep_iff c).1 hkp
        have x0 : s[k]'hks = c := by
          have h1 := HA.out 0 (by rw [he]; simp)
          rw [he] at h1
          have h2 := Lib.data_getElem? s k hks
          simp only [Nat.add_zero] at h1
          rw [h1] at h2
          simpa using h2.symm
        have HE := Hid.mk' he
        clear he hkp hc
        rcases hkk with hu | h47
        · have HU := Hid.mk' hu
          clear hu
          go_wp2_with (first | (go_at_call 12; refine (unres_yes _ _ HU.out).mono ?_; rintro e w' ⟨rfl, hw⟩; rw [hw]; clear hw w') | (at_builtin; refine wpList_append_own _ rfl (.tmp 28) (.tmp 30) 26 rfl w.heap.size 5 i0 (.int .u8 0) 1 1 Tryd.underlying26 hi hz0 hz1 hz2 rfl (by decide) _ _ _ rfl (HO.out.alloc _) ⟨wr.heap.size, 0, none⟩ 1 1 [bv c] rfl rfl (cell_one_new _ _ _) (by simp [Value.oneCell', bv]) (by unfold maxLen; omega) (by omega) (by have := HB.out.size; simp; omega) ?_; intro v1 w2 hown1 hgrow1 _))
          go_roundw
          case rel => exact ⟨j + 1, by omega, by rw [HNx.out, HE.out]; go_num, by rw [HTk.out]; exact hown1, (HB.out.alloc (by have := HB.out.size; omega) _).grown hgrow1 (by have := HB.out.size; simp; omega) (fun g hg => (HO.out.lt g hg).1), Joins.ownsRow_form hown1 (by omega)⟩
          case measure => simp [intOf]; omega
        · have hnU : ¬ UnR c.toNat := by unfold UnR; omega
          have HnU := Hid.mk' hnU
          have c47 : ((c.toNat : Int) == 47) = true := beq_iff_eq.2 (by omega)
          clear hnU h47
          go_wp2_with (first | (go_at_call 12; refine (unres_no _ _ HnU.out).mono ?_; rintro e w' ⟨rfl, hw⟩; rw [hw]; clear hw w') | (at_builtin; refine wpList_append_own _ rfl (.tmp 28) (.tmp 30) 26 rfl w.heap.size 5 i0 (.int .u8 0) 1 1 Tryd.underlying26 hi hz0 hz1 hz2 rfl (by decide) _ _ _ rfl (HO.out.alloc _) ⟨wr.heap.size, 0, none⟩ 1 1 [bv c] rfl rfl (cell_one_new _ _ _) (by simp [Value.oneCell', bv]) (by unfold maxLen; omega) (by omega) (by have := HB.out.size; simp; omega) ?_; intro v1 w2 hown1 hgrow1 _))
          go_roundw
          case rel => exact ⟨j + 1, by omega, by rw [HNx.out, HE.out]; go_num, by rw [HTk.out]; exact hown1, (HB.out.alloc (by have := HB.out.size; omega) _).grown hgrow1 (by have := HB.out.size; simp; omega) (fun g hg => (HO.out.lt g hg).1), Joins.ownsRow_form hown1 (by omega)⟩
          case measure => simp [intOf]; omega
    · obtain rfl : j = p.length := by omega
      have hke : k = s.size := by rw [HK.out, HZ.out, List.take_length]
      have hks' : ¬ (k : Int) < (s.size : Int) := by omega
      have hcv := run_convert_bytes_back (P := Tryd.prog) wr 26 9 5 ⟨g, 0, none⟩ cap p Tryd.underlying26 Tryd.underlying5 Tryd.underlying9 (fun i hil => by
        have := HO.out.cellAt i (by omega)
        rw [List.take_length, List.getElem?_map, List.getElem?_eq_getElem hil] at this
        have hadd : (⟨g, 0, none⟩ : Addr).add i = ⟨g, i, none⟩ := by unfold Addr.add; split <;> simp_all
        rw [hadd]
        simpa [bv] using this)
      go_wp2
      go_ret2
      exact ⟨rfl, HB.out⟩
end Go.Proofs.Qxb6605252aDoor
