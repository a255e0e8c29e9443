import Derived.Test.Qxb6605252aDoorWc
import Derived.Lib.AppendStr
import Derived.Deep.Cut
import Derived.Deep.CutRange
namespace Go.Proofs.Qxb6605252aDoor
open Go.RowKit
set_option linter.unusedVariables false
set_option linter.unnecessarySimpa false
set_option linter.unusedSimpArgs false

theorem info3 : (Tryd.prog.info? 3).map (fun i => (i.zero, i.size, i.bytes)) = some (some (.int .i64 0), 1, 8) := by kernel_rfl
/-- an int as a cell holds it. -/
def iv (x : Nat) : Value := .int .i64 (x : Int)
theorem ne46 {x : UInt8} (h : x ≠ 46) : ((x.toNat : Int) == 46) = false := by
  rw [beq_eq_false_iff_ne]
  intro e
  exact h (UInt8.toNat_inj.1 (by show x.toNat = 46; omega))
theorem take_one {l : List UInt8} {i : Nat} {x : UInt8} (h : l[i]? = some x) : (l.drop i).take 1 = [x] := by
  obtain ⟨hi, hx⟩ := List.getElem?_eq_some_iff.1 h
  rw [List.drop_eq_getElem_cons hi, hx]; rfl
theorem take_two {l : List UInt8} {i : Nat} {x y : UInt8} (h : l[i]? = some x) (h2 : l[i + 1]? = some y) : (l.drop i).take 2 = [x, y] := by
  obtain ⟨hi, hx⟩ := List.getElem?_eq_some_iff.1 h
  obtain ⟨hj, hy⟩ := List.getElem?_eq_some_iff.1 h2
  rw [List.drop_eq_getElem_cons hi, hx, List.drop_eq_getElem_cons hj, hy]; rfl
/-- rows of different element types lie in different blocks. -/
theorem own_ne {w : World} {B e e' : Nat} {v v' : Value} {n n' : Nat} {xs xs' : List Value} (h : w.ownsRow B e 1 v n xs) (h' : w.ownsRow B e' 1 v' n' xs') (hne : e ≠ e') : v.ownBlock = none ∨ v.ownBlock ≠ v'.ownBlock := by
  rcases h.2 with ⟨rfl, _⟩ | ⟨g, cap, cur, rfl, _, hg, _⟩
  · exact Or.inl rfl
  · right
    rcases h'.2 with ⟨rfl, _⟩ | ⟨g', cap', cur', rfl, _, hg', _⟩
    · intro e; cases e
    · intro e
      simp [Value.ownBlock] at e
      subst e
      rw [hg] at hg'
      simp at hg'
      exact hne hg'.2
theorem own_take {w : World} {B e g n cap m : Nat} {xs : List Value} (h : w.ownsRow B e 1 (.slice (some ⟨g, 0, none⟩) n cap) n xs) (hm : m ≤ n) : w.ownsRow B e 1 (.slice (some ⟨g, 0, none⟩) m cap) m (xs.take m) := by
  rcases h.2 with ⟨h0, _⟩ | ⟨g', cap', cur, hv, hb, hg, hnc, hcm, hcs, htake⟩
  · cases h0
  · cases hv
    refine ⟨by rw [List.length_take, h.1]; omega, .inr ⟨g, cap, cur, rfl, hb, hg, by omega, hcm, hcs, ?_⟩⟩
    rw [← htake, List.take_take]
    congr 1
    omega
theorem own_cap {w : World} {B e g n cap : Nat} {xs : List Value} (h : w.ownsRow B e 1 (.slice (some ⟨g, 0, none⟩) n cap) n xs) : n ≤ cap := by
  rcases h.2 with ⟨h0, _⟩ | ⟨g', cap', cur, hv, hb, hg, hnc, hcm, hcs, htake⟩
  · cases h0
  · cases hv; exact hnc
theorem enc_ge : ∀ st : List (List UInt8), st.length ≤ (encS st).length
  | [] => by simp [encS]
  | x :: r => by
    have := enc_ge r
    rw [encS_cons]
    simp only [List.length_cons, List.length_append]
    omega
theorem push_out {w : World} {B : Nat} {v : Value} {st : List (List UInt8)} {s : ByteArray} {l : List UInt8} {ss k : Nat}
    (h : w.ownsRow B 5 1 v ((encS st).length + 1 + (s.extract ss k).size) ((encS st).map bv ++ [bv 47] ++ Lib.strCells (s.extract ss k))) (hd : s.data.toList = l) (h1 : ss ≤ k) (h2 : k ≤ s.size) :
    w.ownsRow B 5 1 v (encS (st ++ [(l.drop ss).take (k - ss)])).length ((encS (st ++ [(l.drop ss).take (k - ss)])).map bv) := by
  have e1 : (s.extract ss k).data.toList = (l.drop ss).take (k - ss) := by
    rw [← hd, ByteArray.data_extract, Array.toList_extract]
  have e2 : (s.extract ss k).size = ((l.drop ss).take (k - ss)).length := by rw [Lib.size_eq, e1]
  have e3 : (encS (st ++ [(l.drop ss).take (k - ss)])).map bv = (encS st).map bv ++ [bv 47] ++ Lib.strCells (s.extract ss k) := by
    have e5 : Lib.strCells (s.extract ss k) = ((l.drop ss).take (k - ss)).map bv := by rw [Lib.strCells, e1]; rfl
    rw [encS_snoc, e5, List.map_append, List.map_cons, List.append_assoc]
    rfl
  have e4 : (encS (st ++ [(l.drop ss).take (k - ss)])).length = (encS st).length + 1 + (s.extract ss k).size := by
    rw [encS_snoc, e2, List.length_append, List.length_cons]; omega
  rw [e3, e4]
  exact h
theorem push_st {w : World} {B : Nat} {v : Value} {st : List (List UInt8)} {x : List UInt8} (h : w.ownsRow B 3 1 v (st.length + 1) ((offs 0 st).map iv ++ [iv (encS st).length])) :
    w.ownsRow B 3 1 v (st ++ [x]).length ((offs 0 (st ++ [x])).map iv) := by
  rw [offs_snoc, List.map_append, List.length_append]
  simpa using h
theorem pop_out {w : World} {B : Nat} {v : Value} {st : List (List UInt8)} {z : List UInt8} (h : w.ownsRow B 5 1 v (encS st).length (((encS (st ++ [z])).map bv).take (encS st).length)) : w.ownsRow B 5 1 v (encS st).length ((encS st).map bv) := by
  rw [encS_snoc, List.map_append, List.take_left' (by simp)] at h
  exact h
theorem pop_st {w : World} {B : Nat} {v : Value} {st : List (List UInt8)} {z : List UInt8} (h : w.ownsRow B 3 1 v st.length (((offs 0 (st ++ [z])).map iv).take st.length)) : w.ownsRow B 3 1 v st.length ((offs 0 st).map iv) := by
  rw [offs_snoc, List.map_append, List.take_left' (by simp [offs_length])] at h
  exact h

/-- 'string(b)' of a row that the call owns. -/
theorem conv_own {w : World} {B g cap : Nat} {l : List UInt8} (h : w.ownsRow B 5 1 (.slice (some ⟨g, 0, none⟩) l.length cap) l.length (l.map bv)) :
    (convert 26 9 (.slice (some ⟨g, 0, none⟩) l.length cap)).run Tryd.prog w = .ok (.string ⟨l.toArray⟩) w :=
  run_convert_bytes_back (P := Tryd.prog) w 26 9 5 ⟨g, 0, none⟩ cap l Tryd.underlying26 Tryd.underlying5 Tryd.underlying9 (fun i hil => by
    have := h.cellAt i (by omega)
    rw [List.getElem?_map, List.getElem?_eq_getElem hil] at this
    have hadd : (⟨g, 0, none⟩ : Addr).add i = ⟨g, i, none⟩ := by unfold Addr.add; split <;> simp_all
    rw [hadd]
    simpa [bv] using this)

theorem conv_snoc {w : World} {B g cap : Nat} {l : List UInt8} (h : w.ownsRow B 5 1 (.slice (some ⟨g, 0, none⟩) (l.length + 1) cap) (l.length + 1) (l.map bv ++ [bv 47])) :
    (convert 26 9 (.slice (some ⟨g, 0, none⟩) (l.length + 1) cap)).run Tryd.prog w = .ok (.string ⟨(l ++ [47]).toArray⟩) w := by
  have e : (l ++ [47]).length = l.length + 1 := by simp
  have := conv_own (l := l ++ [47]) (w := w) (B := B) (g := g) (cap := cap) (by rw [e, List.map_append]; exact h)
  rw [e] at this
  exact this

set_option maxHeartbeats 8000000 in
set_option maxRecDepth 100000 in
theorem norm_any (s : ByteArray) (l : List UInt8) (w : World) (hd : s.data.toList = l) (hs : s.size ≤ 65536) :
    Calls Tryd.prog 8 #[.string s] w fun e w' => e = .returned (.string ⟨(path l).toArray⟩) ∧ Below w.heap.size w w' := by
  obtain ⟨i5, hi5, hz5, hy5, hb5⟩ := info_parts info5
  obtain ⟨i3, hi3, hz3, hy3, hb3⟩ := info_parts info3
  have hl : s.size = l.length := by rw [Lib.size_eq, hd]
  have HD := Hid.mk' hd
  have HSd := Hid.mk' hd
  have HL := Hid.mk' hl
  clear hd hl
  go_enter Tryd.func8, Tryd.ntmps8
  go_wp2
  go_loopw [3, 4, 5, 6] (fun vo vs s5 s6 wr => ∃ (st : List (List UInt8)) (ss k : Nat), s5 = .int .i64 ss ∧ s6 = .int .i64 k ∧ wr.ownsRow w.heap.size 5 1 vo (encS st).length ((encS st).map bv) ∧ wr.ownsRow w.heap.size 3 1 vs st.length ((offs 0 st).map iv) ∧ Below w.heap.size w wr ∧ Nrm l st ss k) (fun _ _ _ s6 _ => s.size + 1 - (intOf s6).toNat)
  case atStart => exact ⟨[], 0, 0, rfl, rfl, World.ownsRow_nil _ _ _ _, World.ownsRow_nil _ _ _ _, Below.refl _ _, Nrm.zero l⟩
  case round =>
    obtain ⟨st, ss, k, rfl, rfl, hso, hst0, hb, hn⟩ := hrel
    have HSo := Hid.mk' hso
    have HSt := Hid.mk' hst0
    have HB := Hid.mk' hb
    have HN := Hid.mk' hn
    have hssk := hn.le
    have hkn : k ≤ s.size + 1 := by rw [HL.out]; exact hn.kn
    have hfew := hn.few
    have hfew2 := enc_ge st
    clear hso hst0 hb hn
    by_cases hle : k ≤ s.size
    · have hle' : (k : Int) ≤ (s.size : Int) := by omega
      by_cases hbd : l[k]? = some 47 ∨ k = l.length
      · have hbd2 : (∃ h : k < s.size, s[k]'h = 47) ∨ k = s.size := by
          rcases hbd with h | h
          · have hk : k < s.size := by rw [HL.out]; exact (List.getElem?_eq_some_iff.1 h).1
            left
            refine ⟨hk, ?_⟩
            have := Lib.data_getElem? s k hk
            rw [HD.out, h] at this
            exact (Option.some.inj this).symm
          · right; rw [HL.out]; exact h
        have HC := Hid.mk' (HN.out.cut hbd)
        clear hbd
        go_upto_region 7 with fail
        go_cut [23] from 14 to 23 (fun s23 wx => s23 = .bool false ∧ wx = wr)
        case first =>
          rcases hbd2 with ⟨hlt, hc⟩ | hke
          · have hlt' : (k : Int) < (s.size : Int) := by omega
            go_wp2
            go_meet
            exact ⟨rfl, rfl⟩
          · have hlt' : ¬ (k : Int) < (s.size : Int) := by omega
            clear hke
            go_wp2
            go_meet
            exact ⟨rfl, rfl⟩
        case rest =>
        obtain ⟨rfl, rfl⟩ := hcut
        clear hbd2
        have hLs : ((l.drop ss).take (k - ss)).length = k - ss := by rw [List.length_take, List.length_drop, ← HL.out]; omega
        have hLe := Hid.mk' hLs
        clear hLs
        have hx0 : ∀ h : ss < s.size, l[ss]? = some (s[ss]'h) := fun h => by rw [← HD.out]; exact Lib.data_getElem? s ss h
        have hx1 : ∀ h : ss + 1 < s.size, l[ss + 1]? = some (s[ss + 1]'h) := fun h => by rw [← HD.out]; exact Lib.data_getElem? s (ss + 1) h
        have Hx0 := Hid.mk' hx0
        have Hx1 := Hid.mk' hx1
        clear hx0 hx1
        obtain ⟨sg, hsg⟩ : ∃ sg, sg = (l.drop ss).take (k - ss) := ⟨_, rfl⟩
        rw [← hsg] at HC hLe
        have Hsg := Hid.mk' hsg
        clear hsg
        obtain ⟨SK, hSK⟩ : ∃ b : Bool, b = decide (sg = [] ∨ sg = [46]) := ⟨_, rfl⟩
        obtain ⟨PP, hPP⟩ : ∃ b : Bool, b = decide (sg = [46, 46]) := ⟨_, rfl⟩
        have HSK := Hid.mk' hSK
        have HPP := Hid.mk' hPP
        clear hSK hPP
        go_upto_region 9 with fail
        go_cut [38] from 27 to 38 (fun s38 wx => s38 = .bool SK ∧ wx = wc)
        case first =>
          by_cases L0 : k = ss
          · have hd0 : ((k : Int) - (ss : Int) == 0) = true := beq_iff_eq.2 (by omega)
            have hE : sg = [] := List.length_eq_zero_iff.1 (by rw [hLe.out]; omega)
            have HE := Hid.mk' hE
            clear L0 hE
            go_wp2
            go_meet
            exact ⟨by rw [HSK.out, HE.out]; rfl, rfl⟩
          have hd0 : ((k : Int) - (ss : Int) == 0) = false := beq_eq_false_iff_ne.2 (by omega)
          by_cases L1 : k = ss + 1
          · have hd1 : ((k : Int) - (ss : Int) == 1) = true := beq_iff_eq.2 (by omega)
            have hssn : ss < s.size := by omega
            have hssn' : (ss : Int) < (s.size : Int) := by omega
            obtain ⟨x, hx⟩ : ∃ x : UInt8, s[ss]'hssn = x := ⟨_, rfl⟩
            have hE : sg = [x] := by rw [Hsg.out, L1, show ss + 1 - ss = 1 by omega]; exact take_one (by rw [Hx0.out hssn, hx])
            have HE := Hid.mk' hE
            clear L1 hE
            by_cases x46 : x = 46
            · have e46 : ((x.toNat : Int) == 46) = true := by rw [x46]; rfl
              have X46 := Hid.mk' x46
              clear x46
              go_wp2
              go_meet
              exact ⟨by rw [HSK.out, HE.out, X46.out]; rfl, rfl⟩
            · have e46 := ne46 x46
              have X46 := Hid.mk' x46
              clear x46
              go_wp2
              go_meet
              exact ⟨congrArg Value.bool (HSK.out.trans (decide_eq_false (by rw [HE.out]; simpa using X46.out))).symm, rfl⟩
          · have hd1 : ((k : Int) - (ss : Int) == 1) = false := beq_eq_false_iff_ne.2 (by omega)
            have hE : ¬ (sg = [] ∨ sg = [46]) := by rintro (h | h) <;> (have h9 := hLe.out; rw [h] at h9; simp at h9; omega)
            have HE := Hid.mk' hE
            clear L1 hE L0
            go_wp2
            go_meet
            exact ⟨congrArg Value.bool (HSK.out.trans (decide_eq_false HE.out)).symm, rfl⟩
        case rest =>
        obtain ⟨rfl, rfl⟩ := hcut
        cases SK
        case true =>
          rw [stepS_skip (of_decide_eq_true HSK.out.symm)] at HC
          go_wp2
          go_roundw
          case rel => exact ⟨st, k + 1, k + 1, by go_num, by go_num, HSo.out, HSt.out, HB.out, HC.out⟩
          case measure => simp [intOf]; omega
        have HSk := Hid.mk' (of_decide_eq_false HSK.out.symm)
        go_upto_region 10 with fail
        go_cut [53] from 39 to 53 (fun s53 wx => s53 = .bool PP ∧ wx = wc)
        case first =>
          by_cases L2 : k = ss + 2
          · have hd2 : ((k : Int) - (ss : Int) == 2) = true := beq_iff_eq.2 (by omega)
            have hssn : ss < s.size := by omega
            have hssn' : (ss : Int) < (s.size : Int) := by omega
            have hs1 : ss + 1 < s.size := by omega
            have hs1' : (ss : Int) + 1 < (s.size : Int) := by omega
            obtain ⟨x, hx⟩ : ∃ x : UInt8, s[ss]'hssn = x := ⟨_, rfl⟩
            obtain ⟨y, hy⟩ : ∃ y : UInt8, s[ss + 1]'hs1 = y := ⟨_, rfl⟩
            have hE : sg = [x, y] := by rw [Hsg.out, L2, show ss + 2 - ss = 2 by omega]; exact take_two (by rw [Hx0.out hssn, hx]) (by rw [Hx1.out hs1, hy])
            have HE := Hid.mk' hE
            clear L2 hE
            by_cases x46 : x = 46
            · have e46 : ((x.toNat : Int) == 46) = true := by rw [x46]; rfl
              have X46 := Hid.mk' x46
              clear x46
              by_cases y46 : y = 46
              · have f46 : ((y.toNat : Int) == 46) = true := by rw [y46]; rfl
                have Y46 := Hid.mk' y46
                clear y46
                go_wp2
                go_meet
                exact ⟨by rw [HPP.out, HE.out, X46.out, Y46.out]; rfl, rfl⟩
              · have f46 := ne46 y46
                have Y46 := Hid.mk' y46
                clear y46
                go_wp2
                go_meet
                exact ⟨congrArg Value.bool (HPP.out.trans (decide_eq_false (by rw [HE.out]; simp; intro _; exact Y46.out))).symm, rfl⟩
            · have e46 := ne46 x46
              have X46 := Hid.mk' x46
              clear x46
              go_wp2
              go_meet
              exact ⟨congrArg Value.bool (HPP.out.trans (decide_eq_false (by rw [HE.out]; simp; intro h; exact absurd h X46.out))).symm, rfl⟩
          · have hd2 : ((k : Int) - (ss : Int) == 2) = false := beq_eq_false_iff_ne.2 (by omega)
            have hE : ¬ (sg = [46, 46]) := by intro h; have h9 := hLe.out; rw [h] at h9; simp at h9; omega
            have HE := Hid.mk' hE
            clear L2 hE
            go_wp2
            go_meet
            exact ⟨congrArg Value.bool (HPP.out.trans (decide_eq_false HE.out)).symm, rfl⟩
        case rest =>
        obtain ⟨rfl, rfl⟩ := hcut
        cases PP
        case true =>
          rw [stepS_pop (of_decide_eq_true HPP.out.symm)] at HC
          by_cases hst : st.length = 0
          · have e0 : st = [] := List.length_eq_zero_iff.1 hst
            subst e0
            rcases Joins.ownsRow_forms HSt.out with ⟨rfl, _⟩ | ⟨g, cap, rfl⟩
            all_goals
              clear hst
              go_wp2
              go_roundw
              case rel => exact ⟨[], k + 1, k + 1, by go_num, by go_num, HSo.out, HSt.out, HB.out, HC.out⟩
              case measure => simp [intOf]; omega
          · obtain ⟨st', z, rfl⟩ : ∃ st' z, st = st' ++ [z] := by
              rcases List.eq_nil_or_concat st with h | ⟨a, b, h⟩
              · rw [h] at hst; exact absurd rfl hst
              · exact ⟨a, b, by rw [h, List.concat_eq_append]⟩
            have hdl : (st' ++ [z]).dropLast = st' := by simp
            rw [hdl] at HC
            have hlen2 : (st' ++ [z]).length = st'.length + 1 := by simp
            have henc : (encS (st' ++ [z])).length = (encS st').length + (z.length + 1) := by rw [encS_snoc, List.length_append]; simp
            obtain ⟨gs, cs, hvs⟩ := Joins.ownsRow_form HSt.out (by omega)
            obtain ⟨go, co, hvo⟩ := Joins.ownsRow_form HSo.out (by omega)
            subst hvs hvo
            have hcell : wc.cell? ⟨gs, st'.length, none⟩ = some (.int .i64 ((encS st').length : Int)) := by
              have h9 := HSt.out.cellAt st'.length (by omega)
              rw [offs_snoc, List.map_append, List.getElem?_append_right (by simp [offs_length])] at h9
              simpa [offs_length, iv] using h9
            have HQo := Hid.mk' (own_take HSo.out (m := (encS st').length) (by omega))
            have HQs := Hid.mk' (own_take HSt.out (m := st'.length) (by omega))
            have hcs := own_cap HSt.out
            have hco := own_cap HSo.out
            have hel : (encS st').length ≤ 70000 := by omega
            have hel2 : ((encS st').length : Int) ≤ ((encS (st' ++ [z])).length : Int) := by omega
            have hsl : st'.length ≤ 70000 := by have := enc_ge st'; omega
            rw [hlen2] at hcs ⊢
            clear hst hdl henc hlen2
            go_wp2
            go_roundw
            case rel => exact ⟨st', k + 1, k + 1, by go_num, by go_num, pop_out HQo.out, pop_st HQs.out, HB.out, HC.out⟩
            case measure => simp [intOf]; omega
        case false =>
          rw [stepS_push (fun h => HSk.out (Or.inl h)) (fun h => HSk.out (Or.inr h)) (of_decide_eq_false HPP.out.symm)] at HC
          rcases Joins.ownsRow_forms HSo.out with ⟨rfl, hz⟩ | ⟨go, co, rfl⟩
          · obtain rfl : st = [] := List.length_eq_zero_iff.1 (by omega)
            clear hz
            have hssk' : (ss : Int) ≤ (k : Int) := by omega
            go_wp2_with (at_builtin; refine wpList_append_own _ rfl (.tmp 70) (.tmp 73) 31 rfl w.heap.size 3 i3 (.int .i64 0) 1 8 Tryd.underlying31 hi3 hz3 hy3 hb3 rfl (by decide) u4 _ _ rfl (HSt.out.alloc _) ⟨wc.heap.size, 0, none⟩ 1 1 [iv (encS []).length] rfl rfl (cell_one_new _ _ _) (by simp [Value.oneCell', iv]) (by unfold maxLen; omega) (by omega) (by have := HB.out.size; simp; omega) ?_; intro v1 w1 hown1 hgrow1 _; have HO1 := Hid.mk' hown1; have HT1 := Hid.mk' ((HSo.out.alloc _).kept hgrow1 (own_ne HSo.out HSt.out (by decide))); have HB1 := Hid.mk' ((HB.out.alloc (by have := HB.out.size; omega) _).grown hgrow1 (by have := HB.out.size; simp; omega) (fun g hg => (HSt.out.lt g hg).1)); clear hown1 hgrow1; go_wp2_with (at_builtin; refine wpList_append_own _ rfl (.tmp 75) (.tmp 76) 26 rfl w.heap.size 5 i5 (.int .u8 0) 1 1 Tryd.underlying26 hi5 hz5 hy5 hb5 rfl (by decide) (.slice none 0 0) _ _ rfl (HT1.out.alloc _) ⟨w1.heap.size, 0, none⟩ 1 1 [bv 47] rfl rfl (cell_one_new _ _ _) (by simp [Value.oneCell', bv]) (by unfold maxLen; omega) (by omega) (by have := HB1.out.size; simp; omega) ?_; intro v2 w2 hown2 hgrow2 _; have HO2 := Hid.mk' ((HO1.out.alloc _).kept hgrow2 (own_ne HO1.out HT1.out (by decide))); have HT2 := Hid.mk' hown2; have HB2 := Hid.mk' ((HB1.out.alloc (by have := HB1.out.size; omega) _).grown hgrow2 (by have := HB1.out.size; simp; omega) (fun g hg => (HT1.out.lt g hg).1)); clear hown2 hgrow2; go_wp2_with (at_builtin; refine Lib.wpList_append_own_string _ rfl (.tmp 78) (.tmp 82) 26 9 rfl w.heap.size 5 i5 Tryd.underlying26 Tryd.underlying9 hi5 hz5 hy5 hb5 v2 _ _ rfl HT2.out (s.extract ss k) rfl (by unfold maxLen; rw [ByteArray.size_extract]; omega) (by rw [ByteArray.size_extract]; omega) (by have := HB2.out.size; omega) ?_; intro v3 w3 hown3 hgrow3 _; have HO3 := Hid.mk' (HO2.out.kept hgrow3 (own_ne HO2.out HT2.out (by decide))); have HT3 := Hid.mk' hown3; have HB3 := Hid.mk' (HB2.out.grown hgrow3 (by have := HB2.out.size; omega) (fun g hg => (HT2.out.lt g hg).1)); clear hown3 hgrow3)))
            go_roundw
            case rel => exact ⟨[] ++ [sg], k + 1, k + 1, by go_num, by go_num, by rw [Hsg.out]; exact push_out HT3.out HSd.out (by omega) (by omega), push_st HO3.out, HB3.out, HC.out⟩
            case measure => simp [intOf]; omega
          · skip
            have hssk' : (ss : Int) ≤ (k : Int) := by omega
            go_wp2_with (at_builtin; refine wpList_append_own _ rfl (.tmp 70) (.tmp 73) 31 rfl w.heap.size 3 i3 (.int .i64 0) 1 8 Tryd.underlying31 hi3 hz3 hy3 hb3 rfl (by decide) u4 _ _ rfl (HSt.out.alloc _) ⟨wc.heap.size, 0, none⟩ 1 1 [iv (encS st).length] rfl rfl (cell_one_new _ _ _) (by simp [Value.oneCell', iv]) (by unfold maxLen; omega) (by omega) (by have := HB.out.size; simp; omega) ?_; intro v1 w1 hown1 hgrow1 _; have HO1 := Hid.mk' hown1; have HT1 := Hid.mk' ((HSo.out.alloc _).kept hgrow1 (own_ne HSo.out HSt.out (by decide))); have HB1 := Hid.mk' ((HB.out.alloc (by have := HB.out.size; omega) _).grown hgrow1 (by have := HB.out.size; simp; omega) (fun g hg => (HSt.out.lt g hg).1)); clear hown1 hgrow1; go_wp2_with (at_builtin; refine wpList_append_own _ rfl (.tmp 75) (.tmp 76) 26 rfl w.heap.size 5 i5 (.int .u8 0) 1 1 Tryd.underlying26 hi5 hz5 hy5 hb5 rfl (by decide) (.slice (some ⟨go, 0, none⟩) (encS st).length co) _ _ rfl (HT1.out.alloc _) ⟨w1.heap.size, 0, none⟩ 1 1 [bv 47] rfl rfl (cell_one_new _ _ _) (by simp [Value.oneCell', bv]) (by unfold maxLen; omega) (by omega) (by have := HB1.out.size; simp; omega) ?_; intro v2 w2 hown2 hgrow2 _; have HO2 := Hid.mk' ((HO1.out.alloc _).kept hgrow2 (own_ne HO1.out HT1.out (by decide))); have HT2 := Hid.mk' hown2; have HB2 := Hid.mk' ((HB1.out.alloc (by have := HB1.out.size; omega) _).grown hgrow2 (by have := HB1.out.size; simp; omega) (fun g hg => (HT1.out.lt g hg).1)); clear hown2 hgrow2; go_wp2_with (at_builtin; refine Lib.wpList_append_own_string _ rfl (.tmp 78) (.tmp 82) 26 9 rfl w.heap.size 5 i5 Tryd.underlying26 Tryd.underlying9 hi5 hz5 hy5 hb5 v2 _ _ rfl HT2.out (s.extract ss k) rfl (by unfold maxLen; rw [ByteArray.size_extract]; omega) (by rw [ByteArray.size_extract]; omega) (by have := HB2.out.size; omega) ?_; intro v3 w3 hown3 hgrow3 _; have HO3 := Hid.mk' (HO2.out.kept hgrow3 (own_ne HO2.out HT2.out (by decide))); have HT3 := Hid.mk' hown3; have HB3 := Hid.mk' (HB2.out.grown hgrow3 (by have := HB2.out.size; omega) (fun g hg => (HT2.out.lt g hg).1)); clear hown3 hgrow3)))
            go_roundw
            case rel => exact ⟨st ++ [sg], k + 1, k + 1, by go_num, by go_num, by rw [Hsg.out]; exact push_out HT3.out HSd.out (by omega) (by omega), push_st HO3.out, HB3.out, HC.out⟩
            case measure => simp [intOf]; omega
      · have hlt : k < s.size := by
          have h1 : k ≠ l.length := fun h => hbd (Or.inr h)
          rw [← HL.out] at h1
          omega
        have hlt' : (k : Int) < (s.size : Int) := by omega
        obtain ⟨c, hc⟩ : ∃ c : UInt8, s[k]'hlt = c := ⟨_, rfl⟩
        have hcl : l[k]? = some c := by rw [← HD.out, ← hc]; exact Lib.data_getElem? s k hlt
        have h47 : c ≠ 47 := fun h => hbd (Or.inl (by rw [hcl, h]))
        have c47 : ((c.toNat : Int) != 47) = true := by
          rw [bne_iff_ne]; intro e; exact h47 (UInt8.toNat_inj.1 (by show c.toNat = 47; omega))
        have H47 := Hid.mk' h47
        have Hcl := Hid.mk' hcl
        clear h47 hcl hbd
        go_wp2
        go_roundw
        case rel => exact ⟨st, ss, k + 1, by go_num, by go_num, HSo.out, HSt.out, HB.out, HN.out.skip Hcl.out H47.out⟩
        case measure => simp [intOf]; omega
    · have hle' : ¬ (k : Int) ≤ (s.size : Int) := by omega
      have hke : k = l.length + 1 := by rw [← HL.out]; omega
      have hsg := HN.out.fin hke
      have HSG := Hid.mk' hsg
      clear hsg hke
      by_cases hst : st.length = 0
      · have e0 : st = [] := List.length_eq_zero_iff.1 hst
        have hp : path l = [47] := by unfold path; rw [if_pos (by rw [HSG.out, e0])]
        have HP := Hid.mk' hp
        rcases Joins.ownsRow_forms HSt.out with ⟨rfl, _⟩ | ⟨g, cap, rfl⟩
        · clear hst hp e0
          go_wp2
          go_ret
          exact ⟨by rw [HP.out]; rfl, HB.out⟩
        · have hst' : ((st.length : Int) == 0) = true := beq_iff_eq.2 (by omega)
          clear hst hp e0
          go_wp2
          go_ret
          exact ⟨by rw [HP.out]; rfl, HB.out⟩
      · have hne : st ≠ [] := fun h => hst (by rw [h]; rfl)
        have hl0 : 0 < s.size := by
          rw [HL.out]
          cases hl : l with
          | nil => exact absurd (by rw [← HSG.out, hl]; rfl) hne
          | cons a b => simp
        have hl0' : (0 : Int) < (s.size : Int) := by omega
        have hp : path l = encS st ++ (if endsS l = true then [47] else []) := by unfold path; rw [if_neg (by rw [HSG.out]; exact hne), HSG.out]
        have HP := Hid.mk' hp
        obtain ⟨gs, cs, rfl⟩ := Joins.ownsRow_form HSt.out (by omega)
        obtain ⟨go, co, rfl⟩ := Joins.ownsRow_form HSo.out (by have := enc_ge st; omega)
        have hst' : ((st.length : Int) == 0) = false := beq_eq_false_iff_ne.2 (by omega)
        have hln : s.size - 1 < s.size := by omega
        obtain ⟨x, hx⟩ : ∃ x : UInt8, s[s.size - 1]'hln = x := ⟨_, rfl⟩
        have hend : endsS l = (x == 47) := by
          unfold endsS
          rw [List.getLast?_eq_getElem?, ← HL.out, ← HD.out, Lib.data_getElem? s (s.size - 1) hln, hx]
          rfl
        have HEnd := Hid.mk' hend
        clear hst hne hp hend
        by_cases h47 : x = 47
        · have c47 : ((x.toNat : Int) == 47) = true := by rw [h47]; rfl
          have H47 := Hid.mk' h47
          clear h47
          go_wp2_with (at_builtin; refine wpList_append_own _ rfl (.tmp 95) (.tmp 96) 26 rfl w.heap.size 5 i5 (.int .u8 0) 1 1 Tryd.underlying26 hi5 hz5 hy5 hb5 rfl (by decide) (.slice (some ⟨go, 0, none⟩) (encS st).length co) _ _ rfl (HSo.out.alloc _) ⟨wr.heap.size, 0, none⟩ 1 1 [bv 47] rfl rfl (cell_one_new _ _ _) (by simp [Value.oneCell', bv]) (by unfold maxLen; omega) (by omega) (by have := HB.out.size; simp; omega) ?_; intro v1 w1 hown1 hgrow1 _; obtain ⟨g1, c1, hv1⟩ := Joins.ownsRow_form hown1 (by omega); rw [hv1] at hown1 ⊢; have hcv := conv_snoc hown1)
          go_ret
          exact ⟨by rw [HP.out, HEnd.out, H47.out]; rfl, (HB.out.alloc (by have := HB.out.size; omega) _).grown hgrow1 (by have := HB.out.size; simp; omega) (fun g hg => (HSo.out.lt g hg).1)⟩
        · have c47 : ((x.toNat : Int) == 47) = false := by
            rw [beq_eq_false_iff_ne]; intro e; exact h47 (UInt8.toNat_inj.1 (by show x.toNat = 47; omega))
          have H47 := Hid.mk' h47
          clear h47
          have hcv := conv_own HSo.out
          go_wp2
          go_ret
          exact ⟨by rw [HP.out, HEnd.out, show (x == 47) = false from by simpa using H47.out]; simp, HB.out⟩
end Go.Proofs.Qxb6605252aDoor
