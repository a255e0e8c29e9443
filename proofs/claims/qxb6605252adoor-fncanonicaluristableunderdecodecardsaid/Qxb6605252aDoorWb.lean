import Derived.Test.Qxb6605252aDoorWa
import Derived.Test.Qxb6605252aDoorShelf
import Derived.Lib.SmallJoins
import Derived.Deep.Cut
import Derived.Deep.CutRange
namespace Go.Proofs.Qxb6605252aDoor
open Go.RowKit Go.Shelf
set_option linter.unusedVariables false
set_option linter.unnecessarySimpa false
set_option linter.unusedSimpArgs false

theorem info9 : (Tryd.prog.info? 9).map (fun i => (i.zero, i.size, i.bytes)) = some (some (.string ⟨#[]⟩), 1, 16) := by kernel_rfl

theorem str_empty {x : ByteArray} (h : x.data.toList = []) : x.toList.isEmpty = true := by rw [Lib.toList_data, h]; rfl
theorem str_nonempty {x : ByteArray} (h : x.data.toList ≠ []) : x.toList.isEmpty = false := by
  rw [Lib.toList_data]
  cases hq : x.data.toList with
  | nil => exact absurd hq h
  | cons a b => rfl
theorem str_eq {x : ByteArray} {l : List UInt8} (h : x.data.toList = l) : (x.toList == l) = true := by rw [Lib.toList_data, h]; simp
theorem str_ne {x : ByteArray} {l : List UInt8} (h : x.data.toList ≠ l) : (x.toList == l) = false := by rw [Lib.toList_data]; simpa using h

theorem ib_yes (x : UInt8) (h : x.toNat = 45 ∨ x.toNat = 46 ∨ x.toNat = 95 ∨ x.toNat = 126 ∨ x.toNat = 47) : 0 ≤ Lib.indexByte [45, 46, 95, 126, 47] x := by
  have e : x = 45 ∨ x = 46 ∨ x = 95 ∨ x = 126 ∨ x = 47 := by
    rcases h with h | h | h | h | h
    · exact Or.inl (UInt8.toNat_inj.1 h)
    · exact Or.inr (Or.inl (UInt8.toNat_inj.1 h))
    · exact Or.inr (Or.inr (Or.inl (UInt8.toNat_inj.1 h)))
    · exact Or.inr (Or.inr (Or.inr (Or.inl (UInt8.toNat_inj.1 h))))
    · exact Or.inr (Or.inr (Or.inr (Or.inr (UInt8.toNat_inj.1 h))))
  rcases e with rfl | rfl | rfl | rfl | rfl <;> decide
theorem ib_no (x : UInt8) (h1 : x.toNat ≠ 45) (h2 : x.toNat ≠ 46) (h3 : x.toNat ≠ 95) (h4 : x.toNat ≠ 126) (h5 : x.toNat ≠ 47) : Lib.indexByte [45, 46, 95, 126, 47] x = -1 := by
  have g : ∀ k : UInt8, x.toNat ≠ k.toNat → (k == x) = false := fun k hk => by
    rw [beq_eq_false_iff_ne]; rintro rfl; exact hk rfl
  simp [Lib.indexByte, g 45 h1, g 46 h2, g 95 h3, g 126 h4, g 47 h5]
theorem call17_yes (x : UInt8) (w : World) (h : x.toNat = 45 ∨ x.toNat = 46 ∨ x.toNat = 95 ∨ x.toNat = 126 ∨ x.toNat = 47) :
    Calls Tryd.prog 17 #[.string ⟨#[45, 46, 95, 126, 47]⟩, .int .u8 (x.toNat : Int)] w fun e w' => ∃ v : Int, 0 ≤ v ∧ e = .returned (.int .i64 v) ∧ w' = w := by
  refine (Tryd.strings_IndexByte ⟨#[45, 46, 95, 126, 47]⟩ (x.toNat : Int) w).mono fun e w' ⟨h1, h2⟩ => ⟨_, ib_yes x h, ?_, h2⟩
  rw [h1]; simp
theorem call17_no (x : UInt8) (w : World) (h1 : x.toNat ≠ 45) (h2 : x.toNat ≠ 46) (h3 : x.toNat ≠ 95) (h4 : x.toNat ≠ 126) (h5 : x.toNat ≠ 47) :
    Calls Tryd.prog 17 #[.string ⟨#[45, 46, 95, 126, 47]⟩, .int .u8 (x.toNat : Int)] w fun e w' => e = .returned (.int .i64 (-1)) ∧ w' = w := by
  refine (Tryd.strings_IndexByte ⟨#[45, 46, 95, 126, 47]⟩ (x.toNat : Int) w).mono fun e w' ⟨h6, h7⟩ => ⟨?_, h7⟩
  rw [h6]
  have := ib_no x h1 h2 h3 h4 h5
  simp [this]

theorem hex_at (n : Nat) (h : n < 16) : ((⟨#[48, 49, 50, 51, 52, 53, 54, 55, 56, 57, 65, 66, 67, 68, 69, 70]⟩ : ByteArray)[n]'h) = hexD n := by
  have key : ∀ i : Fin 16, ((⟨#[48, 49, 50, 51, 52, 53, 54, 55, 56, 57, 65, 66, 67, 68, 69, 70]⟩ : ByteArray)[i.val]'i.isLt) = hexD i.val := by decide
  exact key ⟨n, h⟩
theorem byteCells_three (l : List UInt8) (x y z : UInt8) : Lib.byteCells (l ++ [x, y, z]) = Lib.byteCells l ++ [.int .u8 (x.toNat : Int)] ++ [.int .u8 (y.toNat : Int)] ++ [.int .u8 (z.toNat : Int)] := by simp [Lib.byteCells]
theorem byteCells_snoc (l : List UInt8) (x : UInt8) : Lib.byteCells (l ++ [x]) = Lib.byteCells l ++ [.int .u8 (x.toNat : Int)] := by simp [Lib.byteCells]

set_option maxHeartbeats 4000000 in
set_option maxRecDepth 100000 in
theorem canon_any (s : ByteArray) (m : Int) (w : World) (hs : s.size ≤ 70000) (hm : w.cell? ⟨0, 0, none⟩ = some (.int .i64 m)) :
    Calls Tryd.prog 11 #[.string s] w fun e w' => e = .returned (.string ⟨(canon s.data.toList).toArray⟩) ∧ Below w.heap.size w w' := by
  obtain ⟨i0, hi, hz0, hz1, hz2⟩ := info_parts info9
  have hsp := Tryd.strings_Split s ⟨#[47]⟩ m w (by omega) hm (by decide)
  have hN := parts_length s
  have hle := parts_le s
  rw [← hN] at hsp
  change Calls Tryd.prog 14 #[.string s, .string ⟨#[47]⟩] w fun e w' => e = .returned (.slice (some ⟨w.heap.size, 0, none⟩) (parts s).length (parts s).length) ∧ w' = w.alloc (.cells ((parts s).map Value.string).toArray 9) at hsp
  obtain ⟨N, hNe⟩ : ∃ N, N = (parts s).length := ⟨_, rfl⟩
  rw [← hNe] at hsp hle
  obtain ⟨w0, hw0⟩ : ∃ w0, w0 = w.alloc (.cells ((parts s).map Value.string).toArray 9) := ⟨_, rfl⟩
  rw [← hw0] at hsp
  have hB0 : Below w.heap.size w w0 := by rw [hw0]; exact (Below.refl _ _).alloc (Nat.le_refl _) _
  have hz0' : w0.heap.size = w.heap.size + 1 := by rw [hw0]; simp
  have hc0 : ∀ (j : Nat) x, (parts s)[j]? = some x → w0.cell? ⟨w.heap.size, j, none⟩ = some (.string x) := fun j x hx => by
    rw [hw0, World.cell?_alloc_at _ _ _ _ rfl]
    simp [hx]
  have HNe := Hid.mk' hNe
  have HB0 := Hid.mk' hB0
  have HC0 := Hid.mk' hc0
  have HZ := Hid.mk' hz0'
  clear hNe hB0 hc0 hN hw0 hz0'
  go_enter Tryd.func11, Tryd.ntmps11
  go_wp2_with (go_at_call 14; refine hsp.mono ?_; rintro e w' ⟨rfl, hw⟩; rw [hw]; clear hw w')
  clear hsp
  go_loopw [3, 13] (fun s3 s13 wr => ∃ k : Nat, k ≤ N ∧ s13 = .int .i64 k ∧ wr.ownsRow w0.heap.size 9 1 s3 (((parts s).take k).foldl stepB []).length ((((parts s).take k).foldl stepB []).map Value.string) ∧ Below w0.heap.size w0 wr) (fun _ s13 _ => N - (intOf s13).toNat)
  case atStart => exact ⟨0, Nat.zero_le _, rfl, World.ownsRow_nil _ _ _ _, Below.refl _ _⟩
  case round =>
    obtain ⟨k, hk, rfl, hown, hb⟩ := hrel
    have hlen := take_fold_len (parts s) k
    by_cases hlt : k < N
    · have hlt' : (k : Int) < (N : Int) := by omega
      obtain ⟨x, hx⟩ : ∃ x, (parts s)[k]? = some x := ⟨_, List.getElem?_eq_getElem (by rw [← HNe.out]; exact hlt)⟩
      have hcell : wr.cell? ⟨w.heap.size, k, none⟩ = some (.string x) := (hb.cell (p := ⟨w.heap.size, k, none⟩) (by rw [HZ.out]; simp)).trans (HC0.out k x hx)
      have hst := take_fold (parts s) k x hx
      generalize ((parts s).take k).foldl stepB [] = st at hown hlen hst
      have Hst := Hid.mk' hst
      have HO := Hid.mk' hown
      have HB := Hid.mk' hb
      clear hst hx hb
      by_cases h1 : x.data.toList = [] ∨ x.data.toList = [46]
      · have e1 : stepB st x = st := if_pos h1
        rw [e1] at Hst
        rcases h1 with h1 | h1
        · have g1 := str_empty h1
          clear h1 hown
          go_wp2
          go_roundw
          case rel => exact ⟨k + 1, by omega, by go_num, by rw [Hst.out]; exact HO.out, HB.out⟩
          case measure => simp [intOf]; omega
        · have g1 := str_nonempty (x := x) (by rw [h1]; simp)
          have g2 := str_eq h1
          clear h1 hown
          go_wp2
          go_roundw
          case rel => exact ⟨k + 1, by omega, by go_num, by rw [Hst.out]; exact HO.out, HB.out⟩
          case measure => simp [intOf]; omega
      · have g1 := str_nonempty (x := x) (fun h => h1 (Or.inl h))
        have g2 := str_ne (x := x) (l := [46]) (fun h => h1 (Or.inr h))
        by_cases h2 : x.data.toList = [46, 46]
        · have e1 : stepB st x = st.dropLast := by unfold stepB; rw [if_neg h1, if_pos h2]
          rw [e1] at Hst
          have g3 := str_eq h2
          clear h1 h2
          rcases Joins.ownsRow_forms hown with ⟨rfl, h0⟩ | ⟨g, cap, rfl⟩
          · have e0 : st = [] := List.length_eq_zero_iff.1 h0
            subst e0
            clear hown h0
            go_wp2
            go_roundw
            case rel => exact ⟨k + 1, by omega, by go_num, by rw [Hst.out]; exact HO.out, HB.out⟩
            case measure => simp [intOf]; omega
          · by_cases h0 : st.length = 0
            · have e0 : st = [] := List.length_eq_zero_iff.1 h0
              subst e0
              clear hown h0
              go_wp2
              go_roundw
              case rel => exact ⟨k + 1, by omega, by go_num, by rw [Hst.out]; exact HO.out, HB.out⟩
              case measure => simp [intOf]; omega
            · obtain ⟨L, hL⟩ : ∃ L, st.length = L + 1 := ⟨st.length - 1, by omega⟩
              have hdl : st.dropLast.length = L := by rw [List.length_dropLast]; omega
              have hcap : L + 1 ≤ cap := by
                rcases hown.2 with ⟨h, _⟩ | ⟨g', cap', cur, h, _, _, hnc, _⟩
                · cases h
                · cases h; omega
              have hpop : wr.ownsRow w0.heap.size 9 1 (.slice (some ⟨g, 0, none⟩) L cap) st.dropLast.length (st.dropLast.map Value.string) := by
                rw [hdl]
                have hsp : st = st.dropLast ++ st.drop L := by
                  have := List.take_append_drop L st
                  rw [List.dropLast_eq_take, hL]
                  simpa using this.symm
                refine ownsRow_pop (last := (st.drop L).map Value.string) (by rw [List.length_map, hdl, Nat.mul_one]) ?_
                rw [← List.map_append, ← hsp]
                rw [hL] at hown
                exact hown
              have HP := Hid.mk' hpop
              rw [hL]
              have hl1 : L ≤ 70001 := by omega
              clear hown h0 hpop hdl hL
              go_wp2
              go_roundw
              case rel => exact ⟨k + 1, by omega, by go_num, by rw [Hst.out]; exact HP.out, HB.out⟩
              case measure => simp [intOf]; omega
        · have e1 : stepB st x = st ++ [x] := by unfold stepB; rw [if_neg h1, if_neg h2]
          rw [e1] at Hst
          have g3 := str_ne h2
          clear h1 h2
          go_wp2_with (at_builtin; refine wpList_append_own _ rfl (.tmp 18) (.tmp 20) 32 rfl w0.heap.size 9 i0 (.string ⟨#[]⟩) 1 16 Tryd.underlying32 hi hz0 hz1 hz2 rfl (by decide) _ _ _ rfl (HO.out.alloc _) ⟨wr.heap.size, 0, none⟩ 1 1 [.string x] rfl rfl (cell_one_new _ _ _) (by simp [Value.oneCell']) (by unfold maxLen; omega) (by omega) (by have := HB.out.size; simp; omega) ?_; intro v1 w1 hown1 hgrow1 _)
          go_roundw
          case rel => exact ⟨k + 1, by omega, by go_num, by rw [Hst.out]; simpa using hown1, (HB.out.alloc (by have := HB.out.size; omega) _).grown hgrow1 (by have := HB.out.size; simp; omega) (fun g hg => (HO.out.lt g hg).1)⟩
          case measure => simp [intOf]; omega
    · obtain rfl : k = N := by omega
      rw [List.take_of_length_le (by rw [← HNe.out]; exact Nat.le_refl _)] at hown
      have hsd := segB_data s
      change wr.ownsRow w0.heap.size 9 1 u3 (segB s).length ((segB s).map Value.string) at hown
      have hB1 : Below w.heap.size w wr := HB0.out.trans (hb.mono (by rw [HZ.out]; omega))
      obtain ⟨J, hJ⟩ : ∃ J : ByteArray, J = ⟨(Lib.join (segs s.data.toList) [47]).toArray⟩ := ⟨_, rfl⟩
      have hJd : 47 :: J.data.toList = if segs s.data.toList = [] then [47] else encS (segs s.data.toList) := by rw [hJ]; exact join_enc _
      have hJs : J.size ≤ 70001 := by
        have h1 := congrArg List.length hJd
        have h2 := segs_len s.data.toList
        have h3 := Lib.size_eq s
        have h4 := Lib.size_eq J
        rw [List.length_cons, ← h4] at h1
        split at h1
        · simp only [List.length_cons, List.length_nil] at h1; omega
        · omega
      have hjoin : Calls Tryd.prog 15 #[u3, .string ⟨#[47]⟩] wr fun e w' => e = .returned (.string J) ∧ Below wr.heap.size wr w' := by
        by_cases hz : (segB s).length = 0
        · have e0 : segB s = [] := List.length_eq_zero_iff.1 hz
          have eJ : J = ⟨#[]⟩ := by rw [hJ, ← hsd, e0]; rfl
          rcases Joins.ownsRow_forms hown with ⟨rfl, _⟩ | ⟨g, cap, rfl⟩
          · exact (Tryd.strings_Join_none none 0 ⟨#[47]⟩ wr).mono fun e w' ⟨h1, h2⟩ => ⟨by rw [h1, eJ], h2 ▸ Below.refl _ _⟩
          · rw [hz]
            exact (Tryd.strings_Join_none _ cap ⟨#[47]⟩ wr).mono fun e w' ⟨h1, h2⟩ => ⟨by rw [h1, eJ], h2 ▸ Below.refl _ _⟩
        · obtain ⟨g, cap, rfl⟩ := Joins.ownsRow_form hown (by omega)
          have hcells : ∀ (j : Nat) x, (segB s)[j]? = some x → wr.cell? ⟨g, 0 + j, none⟩ = some (.string x) := fun j x hx => by
            have hj := (List.getElem?_eq_some_iff.1 hx).1
            rw [Nat.zero_add, hown.cellAt j (by omega), List.getElem?_map, hx]
            rfl
          have hcap : (segB s).length ≤ cap := by
            rcases hown.2 with ⟨h, _⟩ | ⟨g', cap', cur, h, _, _, hnc, _⟩
            · cases h
            · cases h; omega
          have hgl := hown.lt g rfl
          have C := Tryd.strings_Join g 0 cap (segB s) ⟨#[47]⟩ wr hcells hgl.2 (by have h9 := take_fold_len (parts s) (parts s).length; rw [List.take_length, ← HNe.out] at h9; unfold segB; omega) hcap (by
            rw [hsd]
            show (Lib.join (segs s.data.toList) [47]).length ≤ _
            have h4 := Lib.size_eq J
            rw [hJ] at h4 hJs
            have h5 : (⟨(Lib.join (segs s.data.toList) [47]).toArray⟩ : ByteArray).size = (Lib.join (segs s.data.toList) [47]).length := by rw [h4]
            omega)
          rw [hsd] at C
          refine Calls.mono C fun e w' ⟨h1, h2⟩ => ⟨?_, h2⟩
          rw [h1, hJ]
      have hlenB : (segB s).length = (segs s.data.toList).length := by rw [← hsd, List.length_map]
      have HJd := Hid.mk' hJd
      have HB1 := Hid.mk' hB1
      have HlB := Hid.mk' hlenB
      have HO := Hid.mk' hown
      clear hJ hJd hB1 hlenB hb hsd hlen
      have hss : s.size ≤ 9223372036854775807 := by omega
      go_upto_region 14 with (go_at_call 15; refine hjoin.mono ?_; rintro e w3 ⟨rfl, hb3⟩)
      have HB3 := Hid.mk' (HB1.out.trans (hb3.mono HB1.out.size))
      clear hb3 hjoin
      go_cut [45] from 39 to 45 (fun s45 wx => s45 = .bool (decide (segs s.data.toList ≠ []) && endsS s.data.toList) ∧ wx = w3)
      case first =>
        by_cases hz : (segB s).length = 0
        · have e0 : segs s.data.toList = [] := List.length_eq_zero_iff.1 (by rw [← HlB.out]; exact hz)
          have E0 := Hid.mk' e0
          rcases Joins.ownsRow_forms hown with ⟨rfl, _⟩ | ⟨g, cap, rfl⟩
          · clear hown e0
            go_wp2
            go_meet
            exact ⟨by rw [E0.out]; rfl, rfl⟩
          · have hz' : ¬ (0 : Int) < ((segB s).length : Int) := by omega
            clear hown e0 hz
            go_wp2
            go_meet
            exact ⟨by rw [E0.out]; rfl, rfl⟩
        · have e0 : segs s.data.toList ≠ [] := fun h => hz (by rw [HlB.out, h]; rfl)
          have E0 := Hid.mk' e0
          obtain ⟨g, cap, rfl⟩ := Joins.ownsRow_form hown (by omega)
          have hz' : (0 : Int) < ((segB s).length : Int) := by omega
          clear hown e0 hz
          go_wp2_with (go_at_call 16; refine (Tryd.strings_HasSuffix s ⟨#[47]⟩ _ hss).mono ?_; rintro e w' ⟨rfl, hw⟩; rw [hw]; clear hw w')
          go_meet
          exact ⟨by rw [show decide (segs s.data.toList ≠ []) = true from decide_eq_true E0.out, Bool.true_and, ← suffix_ends], rfl⟩
      case rest =>
      obtain ⟨rfl, rfl⟩ := hcut
      go_upto_if 45 with fail
      go_cut [6] from 45 to 47 (fun s6 wx => ∃ P : ByteArray, s6 = .string P ∧ P.data.toList = path s.data.toList ∧ wx = wc)
      case first =>
        cases hbb : (decide (segs s.data.toList ≠ []) && endsS s.data.toList)
        · have HBB := Hid.mk' hbb
          clear hbb
          go_wp2
          go_meet
          refine ⟨_, rfl, ?_, rfl⟩
          show [47] ++ J.data.toList = _
          have h1 := HJd.out
          unfold path
          by_cases e0 : segs s.data.toList = []
          · rw [if_pos e0] at h1 ⊢
            exact h1
          · rw [if_neg e0] at h1 ⊢
            have h2 := HBB.out
            rw [decide_eq_true e0, Bool.true_and] at h2
            rw [h2]
            simpa using h1
        · have HBB := Hid.mk' hbb
          clear hbb
          go_wp2
          go_meet
          refine ⟨_, rfl, ?_, rfl⟩
          show [47] ++ J.data.toList ++ [47] = _
          have h1 := HJd.out
          have h2 := HBB.out
          rw [Bool.and_eq_true] at h2
          have e0 := of_decide_eq_true h2.1
          unfold path
          rw [if_neg e0] at h1 ⊢
          rw [if_pos h2.2, ← h1]
          rfl
      case rest =>
      obtain ⟨P, rfl, hPd, rfl⟩ := hcut
      have hPs : P.size ≤ 70002 := by
        rw [Lib.size_eq, hPd]
        have := path_len s.data.toList
        have h3 := Lib.size_eq s
        omega
      have HPd := Hid.mk' hPd
      clear hPd
      go_wp2
      go_loopw [8] (fun s8 wx => ∃ i : Nat, i ≤ P.size ∧ s8 = .int .i64 i ∧ Lib.IsBuilder 38 5 wc.heap.size wc.heap.size (Lib.byteCells (escL (P.data.toList.take i))) wx ∧ Below wc.heap.size wc wx) (fun s8 _ => P.size - (intOf s8).toNat)
      case atStart => exact ⟨0, Nat.zero_le _, rfl, Lib.fresh_isBuilder 38 5 wc, (Below.refl _ _).alloc (Nat.le_refl _) _⟩
      case round =>
        obtain ⟨i, hi, rfl, hbd, hbl⟩ := hrel
        have HBd := Hid.mk' hbd
        have HBl := Hid.mk' hbl
        clear hbd hbl
        by_cases hlt : i < P.size
        · have hlt' : (i : Int) < (P.size : Int) := by omega
          obtain ⟨x, hx⟩ : ∃ x : UInt8, P[i]'hlt = x := ⟨_, rfl⟩
          have hxl : P.data.toList[i]? = some x := by rw [← hx]; exact Lib.data_getElem? P i hlt
          have hx256 : (x.toNat : Int) < 256 := by have := UInt8.toNat_lt x; omega
          have hsn : escL (P.data.toList.take (i + 1)) = escL (P.data.toList.take i) ++ esc x := by
            rw [List.take_add_one, hxl]; exact escL_snoc _ _
          have hel := escL_len (P.data.toList.take i)
          have hel2 : (Lib.byteCells (escL (P.data.toList.take i))).length ≤ 300000 := by
            rw [Lib.byteCells_length]; rw [List.length_take] at hel; omega
          have HSn := Hid.mk' hsn
          have HEl := Hid.mk' hel2
          clear hsn hxl hel hel2
          cases hk : keepB x
          · have hx3 : ¬ (UnR x.toNat ∨ x.toNat = 47) := fun h => by have := (keep_iff x).2 h; rw [hk] at this; cases this
            have he : esc x = [37, hexD (x.toNat / 16), hexD (x.toNat % 16)] := by unfold esc; rw [hk]; rfl
            have HE := Hid.mk' he
            have hn : (x.toNat < 65 ∨ 90 < x.toNat) ∧ (x.toNat < 97 ∨ 122 < x.toNat) ∧ (x.toNat < 48 ∨ 57 < x.toNat) ∧ x.toNat ≠ 45 ∧ x.toNat ≠ 46 ∧ x.toNat ≠ 95 ∧ x.toNat ≠ 126 ∧ x.toNat ≠ 47 := by unfold UnR at hx3; omega
            clear he hk hx3
            obtain ⟨n1, n2, n3, n4, n5, n6, n7, n8⟩ := hn
            have C17 := fun w => call17_no x w n4 n5 n6 n7 n8
            rcases (show (x.toNat : Int) < 48 ∨ (57 < (x.toNat : Int) ∧ (x.toNat : Int) < 65) ∨ (90 < (x.toNat : Int) ∧ (x.toNat : Int) < 97) ∨ 122 < (x.toNat : Int) by omega) with g | ⟨g, g'⟩ | ⟨g, g'⟩ | g
            all_goals
              clear n1 n2 n3 n4 n5 n6 n7 n8
            all_goals
              go_wp2_with (go_at_call 17; refine (C17 _).mono ?_; rintro e w' ⟨rfl, hw⟩; rw [hw]; clear hw w')
              refine (Tryd.Builder_WriteByte _ _ _ _ _ HBd.out (by have := HEl.out; omega) (by have := HBl.out.size; omega)).mono ?_
              rintro e w4 ⟨rfl, hbd4, hbl4⟩
              have HBd4 := Hid.mk' hbd4
              have HBl4 := Hid.mk' (HBl.out.trans hbl4)
              clear hbd4 hbl4
              go_wp2_with fail
              rw [hex_at _ (by omega)]
              refine (Tryd.Builder_WriteByte _ _ _ _ _ (Or.inr HBd4.out) (by have := HEl.out; simp; omega) (by have := HBl4.out.size; omega)).mono ?_
              rintro e w5 ⟨rfl, hbd5, hbl5⟩
              have HBd5 := Hid.mk' hbd5
              have HBl5 := Hid.mk' (HBl4.out.trans hbl5)
              clear hbd5 hbl5
              go_wp2_with fail
              rw [hex_at _ (by omega)]
              refine (Tryd.Builder_WriteByte _ _ _ _ _ (Or.inr HBd5.out) (by have := HEl.out; simp; omega) (by have := HBl5.out.size; omega)).mono ?_
              rintro e w6 ⟨rfl, hbd6, hbl6⟩
              have HBd6 := Hid.mk' hbd6
              have HBl6 := Hid.mk' (HBl5.out.trans hbl6)
              clear hbd6 hbl6
              go_wp2
              go_roundw
              case rel => exact ⟨i + 1, by omega, by go_num, by rw [HSn.out, HE.out, byteCells_three]; exact Or.inr HBd6.out, HBl6.out⟩
              case measure => simp [intOf]; omega
          · have hx3 := (keep_iff x).1 hk
            have he : esc x = [x] := by unfold esc; rw [if_pos hk]
            have HE := Hid.mk' he
            rcases (show (65 ≤ x.toNat ∧ x.toNat ≤ 90) ∨ (97 ≤ x.toNat ∧ x.toNat ≤ 122) ∨ (48 ≤ x.toNat ∧ x.toNat ≤ 57) ∨ (x.toNat = 45 ∨ x.toNat = 46 ∨ x.toNat = 95 ∨ x.toNat = 126 ∨ x.toNat = 47) by unfold UnR at hx3; omega) with ⟨g, g'⟩ | ⟨g, g'⟩ | ⟨g, g'⟩ | g
            · have j : (65 : Int) ≤ (x.toNat : Int) := by omega
              have j' : (x.toNat : Int) ≤ 90 := by omega
              clear he hk hx3 g g'
              go_wp2_with (go_at_call 18; refine (Tryd.Builder_WriteByte _ _ _ _ _ HBd.out (by have := HEl.out; omega) (by have := HBl.out.size; omega)).mono ?_; rintro e w4 ⟨rfl, hbd4, hbl4⟩)
              go_roundw
              case rel => exact ⟨i + 1, by omega, by go_num, by rw [HSn.out, HE.out, byteCells_snoc]; exact Or.inr hbd4, HBl.out.trans hbl4⟩
              case measure => simp [intOf]; omega
            · have j : (97 : Int) ≤ (x.toNat : Int) := by omega
              have j' : (x.toNat : Int) ≤ 122 := by omega
              clear he hk hx3 g g'
              go_wp2_with (go_at_call 18; refine (Tryd.Builder_WriteByte _ _ _ _ _ HBd.out (by have := HEl.out; omega) (by have := HBl.out.size; omega)).mono ?_; rintro e w4 ⟨rfl, hbd4, hbl4⟩)
              go_roundw
              case rel => exact ⟨i + 1, by omega, by go_num, by rw [HSn.out, HE.out, byteCells_snoc]; exact Or.inr hbd4, HBl.out.trans hbl4⟩
              case measure => simp [intOf]; omega
            · have j : (48 : Int) ≤ (x.toNat : Int) := by omega
              have j' : (x.toNat : Int) ≤ 57 := by omega
              clear he hk hx3 g g'
              go_wp2_with (go_at_call 18; refine (Tryd.Builder_WriteByte _ _ _ _ _ HBd.out (by have := HEl.out; omega) (by have := HBl.out.size; omega)).mono ?_; rintro e w4 ⟨rfl, hbd4, hbl4⟩)
              go_roundw
              case rel => exact ⟨i + 1, by omega, by go_num, by rw [HSn.out, HE.out, byteCells_snoc]; exact Or.inr hbd4, HBl.out.trans hbl4⟩
              case measure => simp [intOf]; omega
            · have C17 := fun w => call17_yes x w g
              have HC17 := Hid.mk' C17
              clear he hk hx3 C17
              rcases (show (x.toNat : Int) < 48 ∨ (90 < (x.toNat : Int) ∧ (x.toNat : Int) < 97) ∨ 122 < (x.toNat : Int) by omega) with j | ⟨j, j'⟩ | j
              all_goals
                clear g
                go_wp2_with (first | (go_at_call 17; refine (HC17.out _).mono ?_; rintro e w' ⟨v17, hv17, rfl, hw⟩; rw [hw]; clear hw w') | (go_at_call 18; refine (Tryd.Builder_WriteByte _ _ _ _ _ HBd.out (by have := HEl.out; omega) (by have := HBl.out.size; omega)).mono ?_; rintro e w4 ⟨rfl, hbd4, hbl4⟩))
                go_roundw
                case rel => exact ⟨i + 1, by omega, by go_num, by rw [HSn.out, HE.out, byteCells_snoc]; exact Or.inr hbd4, HBl.out.trans hbl4⟩
                case measure => simp [intOf]; omega
        · obtain rfl : i = P.size := by omega
          have hall : P.data.toList.take P.size = P.data.toList := List.take_of_length_le (by rw [← Lib.size_eq]; exact Nat.le_refl _)
          rw [hall] at HBd
          go_wp2_with (go_at_call 19; refine (Tryd.Builder_String_any _ _ _ _ HBd.out (by have := HBl.out.size; omega)).mono ?_; rintro e w4 ⟨rfl, hbl4⟩)
          go_ret
          refine ⟨by rw [HPd.out]; rfl, ?_⟩
          have h6 : Below wc.heap.size wc w4 := HBl.out.trans hbl4
          exact HB3.out.trans (h6.mono HB3.out.size)
end Go.Proofs.Qxb6605252aDoor
