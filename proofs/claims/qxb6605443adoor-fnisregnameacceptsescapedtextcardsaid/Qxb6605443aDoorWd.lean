import Derived.Test.Qxb6605443aDoorWb
import Derived.Lib.SmallJoins
import Derived.Deep.RegionHeld3
import Derived.Deep.AppendLies
namespace Go.Proofs.Qxb6605443aDoor
open Go.RowKit
set_option linter.unusedVariables false
set_option linter.unusedSimpArgs false
set_option linter.unnecessarySimpa false

theorem info5 : (Tryd.prog.info? 5).map (fun i => (i.zero, i.size, i.bytes)) = some (some (.int .u8 0), 1, 1) := by kernel_rfl
/-- a byte as a cell holds it. -/
def bv (y : UInt8) : Value := .int .u8 (y.toNat : Int)

/-- 'string(b)' of a row that the call owns. -/
theorem conv_own {w : World} {B g cap : Nat} {l : List UInt8} (h : w.ownsRow B 5 1 (.slice (some ⟨g, 0, none⟩) l.length cap) l.length (l.map bv)) :
    (convert 35 9 (.slice (some ⟨g, 0, none⟩) l.length cap)).run Tryd.prog w = .ok (.string ⟨l.toArray⟩) w :=
  run_convert_bytes_back (P := Tryd.prog) w 35 9 5 ⟨g, 0, none⟩ cap l Tryd.underlying35 Tryd.underlying5 Tryd.underlying9 (fun i hil => by
    have := h.cellAt i (by omega)
    rw [List.getElem?_map, List.getElem?_eq_getElem hil] at this
    have hadd : (⟨g, 0, none⟩ : Addr).add i = ⟨g, i, none⟩ := by unfold Addr.add; split <;> simp_all
    rw [hadd]
    simpa [bv] using this)

theorem and15 (c : UInt8) : bits BinOp.and IntKind.u8 (c.toNat : Int) 15 = (c.toNat : Int) % 16 := by
  have key : ∀ i : Fin 256, bits BinOp.and IntKind.u8 (i.val : Int) 15 = (i.val : Int) % 16 := by decide +kernel
  exact key ⟨c.toNat, UInt8.toNat_lt c⟩
theorem at_getD (D : ByteArray) (k : Nat) (h : k < D.size) : D[k]'h = D.data.toList.getD k 0 := by
  have := Lib.data_getElem? D k h
  rw [List.getD_eq_getElem?_getD, this]; rfl

set_option maxHeartbeats 8000000 in
set_option maxRecDepth 100000 in
theorem esc_walk (s D : ByteArray) (w : World) (hs : s.size ≤ 262144) (hD : D.size = 16) :
    Calls Tryd.prog 15 #[.string s, .string D] w fun e w' => e = .returned (.string ⟨(escR D.data.toList s.data.toList).toArray⟩) ∧ Below w.heap.size w w' := by
  obtain ⟨i0, hi, hz0, hz1, hz2⟩ := info_parts info5
  have hlen := fun l => escR_len D.data.toList l
  have HL := Hid.mk' hlen
  clear hlen
  go_enter Tryd.func15, Tryd.ntmps15
  go_wp2_with (at_make; refine wpList_make_own _ rfl _ _ 35 rfl w.heap.size 5 i0 (.int .u8 0) 1 Tryd.underlying35 hi hz0 hz1 .i64 .i64 (3 * s.size) (3 * s.size) rfl (by go_num) rfl (by rw [hz2]; omega) (by unfold maxLen; omega) (Nat.le_refl _) ?_; intro w1 hown hgrow)
  have hb1 : Below w.heap.size w w1 := (Below.refl _ w).grown hgrow (Nat.le_refl _) (fun _ h => by cases h)
  go_loopw [5, 6] (fun s5 s6 wr => ∃ j : Nat, j ≤ s.size ∧ s6 = .int .i64 (j : Int) ∧ wr.ownsRow w.heap.size 5 1 s5 (escR D.data.toList (s.data.toList.take j)).length ((escR D.data.toList (s.data.toList.take j)).map bv) ∧ Below w.heap.size w wr ∧ (∃ g cap, s5 = .slice (some ⟨g, 0, none⟩) (escR D.data.toList (s.data.toList.take j)).length cap)) (fun _ s6 _ => s.size - (intOf s6).toNat)
  case atStart => exact ⟨0, Nat.zero_le _, rfl, hown, hb1, _, _, rfl⟩
  case round =>
    clear hown hgrow hb1
    obtain ⟨j, hj, rfl, hown, hb, g, cap, rfl⟩ := hrel
    have hll : (escR D.data.toList (s.data.toList.take j)).length ≤ 3 * j := by
      have := HL.out (s.data.toList.take j)
      rw [List.length_take] at this
      omega
    have HO := Hid.mk' hown
    have HB := Hid.mk' hb
    clear hown hb
    by_cases hlt : j < s.size
    · have hlt' : (j : Int) < (s.size : Int) := by omega
      obtain ⟨c, hc⟩ : ∃ c : UInt8, s[j]'hlt = c := ⟨_, rfl⟩
      have hcl : s.data.toList[j]? = some c := by rw [← hc]; exact Lib.data_getElem? s j hlt
      have hsn : escR D.data.toList (s.data.toList.take (j + 1)) = escR D.data.toList (s.data.toList.take j) ++ escC D.data.toList c := by
        rw [List.take_add_one, hcl]; exact escR_snoc _ _ _
      have HSn := Hid.mk' hsn
      clear hsn hcl
      generalize escR D.data.toList (s.data.toList.take j) = L at HO HSn hll
      have hc256 : (c.toNat : Int) < 256 := by have := UInt8.toNat_lt c; omega
      cases vr : regB c
      · have he : escC D.data.toList c = [37, D.data.toList.getD (c.toNat / 16) 0, D.data.toList.getD (c.toNat % 16) 0] := by
          unfold escC; rw [vr]; rfl
        have q1 : (c.toNat : Int) / 16 < (D.size : Int) := by omega
        have q2 : (c.toNat : Int) % 16 < (D.size : Int) := by omega
        have p1 : c.toNat / 16 < D.size := by omega
        have p2 : c.toNat % 16 < D.size := by omega
        have p1' : ((c.toNat : Int) / 16).toNat < D.size := by omega
        have p2' : ((c.toNat : Int) % 16).toNat < D.size := by omega
        obtain ⟨x, hx⟩ : ∃ x : UInt8, D[((c.toNat : Int) / 16).toNat]'p1' = x := ⟨_, rfl⟩
        obtain ⟨y, hy⟩ : ∃ y : UInt8, D[((c.toNat : Int) % 16).toNat]'p2' = y := ⟨_, rfl⟩
        have hx' : D[c.toNat / 16]'p1 = x := hx
        have hy' : D[c.toNat % 16]'p2 = y := hy
        rw [← at_getD D _ p1, ← at_getD D _ p2, hx', hy'] at he
        clear hx' hy'
        rw [he] at HSn
        clear he
        have hand := and15 c
        have q0 : (0 : Int) ≤ (c.toNat : Int) % 16 := by omega
        have q0' : (0 : Int) ≤ (c.toNat : Int) / 16 := by omega
        go_wp2_with (go_at_call 12; refine (reg_any c _).mono ?_; rintro e w1 ⟨rfl, hw1⟩; rw [hw1, vr]; clear hw1 w1)
        go_region_held3 (fun w' => True) (first | trivial)
          ((refine step_append_lies _ (by rfl) _ _ _ (by rfl) w.heap.size 5 i0 _ 1 1 Tryd.underlying35 hi hz0 hz1 hz2 rfl (by omega) (.slice (some ⟨g, 0, none⟩) L.length cap) L.length (L.map bv) (by rfl) ((HO.out.alloc _).drew)
             ⟨wr.heap.size, 0, none⟩ 3 3 [bv 37, bv x, bv y] (by rfl) (by rfl) (World.news_of_block (cs := #[bv 37, bv x, bv y]) (t := 5) (fr := (0, 0)) (heap_alloc_new wr _)) (by simp [Value.oneCell', bv])
             (by omega) (by unfold maxLen; omega) (by omega) (by have := HB.out.size; simp; omega) (wr.heap.size + 1) (by simp) ?_; intro gg cap2 w2 hown2 hgrow2 hat2 hlt2))
        all_goals
          have HO2 := Hid.mk' hown2
          have HB2 := Hid.mk' ((((HB.out.alloc (by have := HB.out.size; omega) _)).drew).grown hgrow2 (by have := HB.out.size; simp; omega) (fun g hg => (HO.out.lt g hg).1))
          clear hown2 hgrow2 hat2 hlt2
          go_wp2
          go_roundw
          case rel => exact ⟨j + 1, by omega, by go_num, by rw [HSn.out]; simpa using HO2.out, HB2.out, gg, cap2, by rw [HSn.out]; simp⟩
          case measure => simp [intOf]; omega
      · have he : escC D.data.toList c = [c] := by unfold escC; rw [if_pos vr]
        rw [he] at HSn
        clear he
        go_wp2_with (first
          | (go_at_call 12; refine (reg_any c _).mono ?_; rintro e w1 ⟨rfl, hw1⟩; rw [hw1, vr]; clear hw1 w1)
          | (at_builtin; refine wpList_append_own _ rfl (.tmp 23) (.tmp 25) 35 rfl w.heap.size 5 i0 (.int .u8 0) 1 1 Tryd.underlying35 hi hz0 hz1 hz2 rfl (by decide) _ _ _ rfl (HO.out.alloc _) ⟨wr.heap.size, 0, none⟩ 1 1 [bv c] rfl rfl (cell_one_new _ _ _) (by simp [Value.oneCell', bv]) (by unfold maxLen; omega) (by omega) (by have := HB.out.size; simp; omega) ?_; intro v1 w2 hown2 hgrow2 _))
        have HO2 := Hid.mk' hown2
        have HB2 := Hid.mk' (((HB.out.alloc (by have := HB.out.size; omega) _)).grown hgrow2 (by have := HB.out.size; simp; omega) (fun g hg => (HO.out.lt g hg).1))
        obtain ⟨g2, c2, hv2⟩ := Joins.ownsRow_form hown2 (by omega)
        subst hv2
        clear hown2 hgrow2
        go_roundw
        case rel => exact ⟨j + 1, by omega, by go_num, by rw [HSn.out]; simpa using HO2.out, HB2.out, g2, c2, by rw [HSn.out]; simp⟩
        case measure => simp [intOf]; omega
    · have hlt' : ¬ (j : Int) < (s.size : Int) := by omega
      have hjj : j = s.size := by omega
      have htk : s.data.toList.take j = s.data.toList := List.take_of_length_le (by rw [← Lib.size_eq]; omega)
      rw [htk] at HO ⊢
      have hcv := conv_own HO.out
      go_wp2
      go_ret
      exact ⟨rfl, HB.out⟩
end Go.Proofs.Qxb6605443aDoor
