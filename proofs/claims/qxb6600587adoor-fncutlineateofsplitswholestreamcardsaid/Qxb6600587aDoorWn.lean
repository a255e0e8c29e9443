import Derived.Test.Qxb6600587aDoorWm
namespace Go.Proofs.Qxb6600587aDoor
open Go.RowKit Go.Shelf
set_option linter.unusedVariables false

set_option maxHeartbeats 400000 in
theorem bytes10_yes (a : Option Addr) (n c : Nat) (w : World) (h : n ≤ 1048576) :
    Calls Tryd.prog 10 #[.slice a n c] w fun e w' => e = .returned (.bool true) ∧ w' = w := by
  have h' : ¬ (1048576 : Int) < (n : Int) := by omega
  go_enter Tryd.func10, Tryd.ntmps10
  go_wp2
  go_ret
  exact ⟨rfl, rfl⟩
set_option maxHeartbeats 400000 in
theorem bytes10_no (a : Option Addr) (n c : Nat) (w : World) (h : 1048576 < n) :
    Calls Tryd.prog 10 #[.slice a n c] w fun e w' => e = .returned (.bool false) ∧ w' = w := by
  have h' : (1048576 : Int) < (n : Int) := by omega
  go_enter Tryd.func10, Tryd.ntmps10
  go_wp2
  go_ret
  exact ⟨rfl, rfl⟩

set_option maxHeartbeats 400000 in
theorem law2_big (a : Option Addr) (n c : Nat) (w : World) (h : 65536 < n) :
    Calls Tryd.prog 4 #[.slice a n c] w fun e w' => e = .returned (.bool true) ∧ w' = w := by
  by_cases h2 : n ≤ 1048576
  · have h' : (65536 : Int) < (n : Int) := by omega
    go_enter Tryd.func4, Tryd.ntmps4
    go_wp2_with (go_at_call 10; refine (bytes10_yes _ _ _ _ h2).mono ?_; rintro e w' ⟨rfl, rfl⟩)
    go_ret
    exact ⟨rfl, rfl⟩
  · go_enter Tryd.func4, Tryd.ntmps4
    go_wp2_with (go_at_call 10; refine (bytes10_no _ _ _ _ (by omega)).mono ?_; rintro e w' ⟨rfl, rfl⟩)
    go_ret
    exact ⟨rfl, rfl⟩

theorem Sl.empty (w : World) (a : Option Addr) (c : Nat) : Sl w a 0 c [] := ⟨rfl, by omega, by omega, fun h => absurd rfl h⟩
theorem Sl.drop {w : World} {b off n c : Nat} {l : List UInt8} (h : Sl w (some ⟨b, off, none⟩) n c l) (p : Nat) (hp : p ≤ n) : Sl w (some ⟨b, off + p, none⟩) (n - p) (c - p) (l.drop p) := by
  have h1 := h.small
  have h2 := h.cap
  refine ⟨by rw [List.length_drop, ← h.len], by omega, by omega, fun hn => ?_⟩
  obtain ⟨b', off', e, hb, hc⟩ := h.at_ (by omega)
  simp only [Option.some.injEq, Addr.mk.injEq, and_true] at e
  obtain ⟨rfl, rfl⟩ := e
  refine ⟨b, off + p, rfl, hb, fun i y hy => ?_⟩
  rw [List.getElem?_drop] at hy
  rw [Nat.add_assoc]
  exact hc _ _ hy
theorem cut_nil : cutOf [] true = none := rfl

set_option maxHeartbeats 1000000 in
theorem law2_zero (a : Option Addr) (c : Nat) (w : World) (hL : Libs w) (hnil : a = none → c = 0) :
    Calls Tryd.prog 4 #[.slice a 0 c] w fun e w' => e = .returned (.bool true) ∧ Below w.heap.size w w' := by
  have hq := eqnil
  go_enter Tryd.func4, Tryd.ntmps4
  go_wp2_with (go_at_call 10; refine (bytes10_yes _ _ _ _ (by omega)).mono ?_; rintro e w' ⟨rfl, hw⟩; rw [hw]; clear hw w')
  refine (clone_any a 0 c [] _ (Sl.empty _ _ _) hnil).mono ?_
  rintro e w1 ⟨a', rfl, hs1, hb1⟩
  go_wp2_with fail
  refine (split_any a' 0 0 [] w1 hs1).mono ?_
  rintro e w2 ⟨vs, ve, rfl, hT, hb2⟩
  have hvs : vs = .slice none 0 0 ∨ ∃ g c, vs = .slice (some ⟨g, 0, none⟩) 0 c := by
    rcases hT.s.2 with ⟨h, _⟩ | ⟨g, cap, cur, h, _⟩
    · exact Or.inl h
    · exact Or.inr ⟨g, cap, h⟩
  have hb12 : Below w.heap.size w w2 := hb1.trans (hb2.mono hb1.size)
  have HB := Hid.mk' hb12
  have HT := Hid.mk' hT
  clear hT hb2 hb1 hs1 hb12
  rcases hvs with rfl | ⟨g, cg, rfl⟩
  all_goals
    go_wp2
    go_loop [5, 6] (fun s5 s6 => s5 = .int .i64 0 ∧ s6 = .int .i64 0) (fun _ _ => 0)
    case atStart => exact ⟨rfl, rfl⟩
    case round =>
      obtain ⟨rfl, rfl⟩ := hrel
      go_wp2_with fail
      have h8 := zz_any a' 0 0 [] true w2 (Sl.empty _ _ _) (hL.below HB.out)
      rw [cut_nil] at h8
      refine h8.mono ?_
      clear h8
      rintro e w3 ⟨rfl, hb3⟩
      simp only [cutV]
      go_wp2
      go_ret
      exact ⟨rfl, HB.out.trans (hb3.mono HB.out.size)⟩

/-- the law's loop: at pos, behind idx lines. -/
structure At (l : List UInt8) (pos idx : Nat) : Prop where
  le : pos ≤ l.length
  few : idx ≤ pos
  segs : ∃ pre, pre.length = idx ∧ seg 0 l = pre ++ seg pos (l.drop pos)
theorem At.zero (l : List UInt8) : At l 0 0 := ⟨Nat.zero_le _, Nat.le_refl _, [], rfl, by simp⟩
theorem At.next {l : List UInt8} {pos idx m k : Nat} (h : At l pos idx) (hc : cutOf (l.drop pos) true = some (m, k)) :
    At l (pos + m) (idx + 1) ∧ (seg 0 l)[idx]? = some (pos, pos + k) ∧ pos + m ≤ l.length ∧ 1 ≤ m ∧ k ≤ m := by
  have hp := cut_pos hc
  have h1 := h.le
  have h0 := h.few
  have hl : (l.drop pos).length = l.length - pos := List.length_drop
  obtain ⟨pre, h2, h3⟩ := h.segs
  rw [seg_some hc, List.drop_drop] at h3
  refine ⟨⟨by omega, by omega, pre ++ [(pos, pos + k)], by simp [h2], by rw [h3]; simp⟩, ?_, by omega, hp.1, hp.2.2⟩
  rw [h3, List.getElem?_append_right (by omega), h2]
  simp
theorem At.last {l : List UInt8} {idx : Nat} (h : At l l.length idx) : (seg 0 l).length = idx := by
  obtain ⟨pre, h2, h3⟩ := h.segs
  rw [h3, List.drop_length, seg_nil, List.append_nil, h2]
theorem seg_pos (l : List UInt8) (h : 0 < l.length) : 0 < (seg 0 l).length := by
  obtain ⟨m, k, hc⟩ := cut_some l h
  rw [seg_some hc]
  simp

/-- a slice of ints that is not empty, as the walk wants it. -/
theorem row_form {B : Nat} {w : World} {v : Value} {S : List Nat} (h : w.ownsRow B 3 1 v S.length (S.map iv)) (hp : 0 < S.length) :
    ∃ g cap, v = .slice (some ⟨g, 0, none⟩) S.length cap ∧ g < w.heap.size ∧ ∀ (j x : Nat), S[j]? = some x → w.cell? ⟨g, j, none⟩ = some (.int .i64 (x : Int)) := by
  rcases h.2 with ⟨_, h0⟩ | ⟨g, cap, cur, rfl, hb, hg, _⟩
  · omega
  · refine ⟨g, cap, rfl, (Array.getElem?_eq_some_iff.1 hg).1, fun j x hx => ?_⟩
    have hj := (List.getElem?_eq_some_iff.1 hx).1
    rw [h.cellAt j (by omega), List.getElem?_map, hx]
    rfl

set_option maxHeartbeats 4000000 in
set_option maxRecDepth 100000 in
theorem law2_pos (a : Option Addr) (n c : Nat) (l : List UInt8) (w : World) (hn0 : 0 < n) (hs : Sl w a n c l) (hL : Libs w) (hnil : a = none → c = 0) :
    Calls Tryd.prog 4 #[.slice a n c] w fun e w' => e = .returned (.bool true) ∧ Below w.heap.size w w' := by
  have hq := eqnil
  have hn := hs.small
  have hn' : ¬ (65536 : Int) < (n : Int) := by omega
  go_enter Tryd.func4, Tryd.ntmps4
  go_wp2_with (go_at_call 10; refine (bytes10_yes _ _ _ _ (by omega)).mono ?_; rintro e w' ⟨rfl, hw⟩; rw [hw]; clear hw w')
  refine (clone_any a n c l _ hs hnil).mono ?_
  rintro e w1 ⟨a', rfl, hs1, hb1⟩
  go_wp2_with fail
  refine (split_any a' n n l w1 hs1).mono ?_
  rintro e w2 ⟨vs, ve, rfl, hT, hb2⟩
  have hlen := hs.len
  have hs2 := hs1.below hb2
  obtain ⟨b, off, rfl, hx, hc⟩ := hs2.at_ (by omega)
  obtain ⟨gs, cs, rfl, hgs, hcs⟩ := row_form hT.s (by rw [List.length_map]; exact seg_pos l (by omega))
  obtain ⟨ge, ce, rfl, hge, hce⟩ := row_form hT.e (by rw [List.length_map]; exact seg_pos l (by omega))
  obtain ⟨N, hN⟩ : ∃ N, N = (seg 0 l).length := ⟨_, rfl⟩
  simp only [List.length_map, ← hN]
  have HN := Hid.mk' hN
  have HS := Hid.mk' hs2
  have HC := Hid.mk' hc
  have HCs := Hid.mk' hcs
  have HCe := Hid.mk' hce
  have HL := Hid.mk' hlen
  have HB2 : Hid (Below w.heap.size w w2) := hb1.trans (hb2.mono hb1.size)
  have hL2 := hL.below HB2.out
  clear hN hs2 hc hcs hce hlen hb1 hb2 hs1 hT hL hs hnil
  go_wp2
  go_loopw [5, 6] (fun s5 s6 wr => ∃ pos idx : Nat, At l pos idx ∧ s5 = .int .i64 pos ∧ s6 = .int .i64 idx ∧ Below w2.heap.size w2 wr) (fun s5 _ _ => n - (intOf s5).toNat)
  case atStart => exact ⟨0, 0, At.zero l, rfl, rfl, Below.refl _ _⟩
  case round =>
    obtain ⟨pos, idx, hat, rfl, rfl, hb⟩ := hrel
    have HAt := Hid.mk' hat
    have HB := Hid.mk' hb
    clear hat hb
    by_cases hlt : pos < n
    · have hlt' : (pos : Int) < (n : Int) := by omega
      obtain ⟨m, k, hc⟩ := cut_some (l.drop pos) (by rw [List.length_drop, ← HL.out]; omega)
      obtain ⟨hat', hidx, hm1, hm2, hkm⟩ := HAt.out.next hc
      have HAt' := Hid.mk' hat'
      have HC1 := Hid.mk' hc
      have hidN : idx < N := by rw [HN.out]; exact (List.getElem?_eq_some_iff.1 hidx).1
      have hidN' : (idx : Int) < (N : Int) := by omega
      have hidp : (idx : Int) ≤ (pos : Int) := by have := HAt.out.few; omega
      have hpm : pos + m ≤ n := by rw [HL.out]; exact hm1
      have hpm' : (pos : Int) + (m : Int) ≤ (n : Int) := by omega
      have cS : ∀ wx, Below w2.heap.size w2 wx → wx.cell? ⟨gs, idx, none⟩ = some (.int .i64 (pos : Int)) := fun wx h => (h.cell (p := ⟨gs, idx, none⟩) hgs).trans (HCs.out idx pos (by rw [List.getElem?_map, hidx]; rfl))
      have cE : ∀ wx, Below w2.heap.size w2 wx → wx.cell? ⟨ge, idx, none⟩ = some (.int .i64 ((pos : Int) + (k : Int))) := fun wx h => (h.cell (p := ⟨ge, idx, none⟩) hge).trans ((HCe.out idx (pos + k) (by rw [List.getElem?_map, hidx]; rfl)).trans (by simp))
      have HcS := Hid.mk' cS
      have HcE := Hid.mk' cE
      clear hat' hc hidx cS cE hm1
      go_wp2_with fail
      have h8 := zz_any (some ⟨b, off + pos, none⟩) (n - pos) (n - pos) (l.drop pos) true wr ((HS.out.below HB.out).drop pos (by omega)) (hL2.below HB.out)
      rw [HC1.out] at h8
      refine h8.mono ?_
      clear h8
      rintro e w3 ⟨rfl, hb3⟩
      simp only [cutV]
      have HB3 : Hid (Below w2.heap.size w2 w3) := HB.out.trans (hb3.mono HB.out.size)
      have c1 := HcS.out w3 HB3.out
      have c2 := HcE.out w3 HB3.out
      clear hb3
      have hm0 : (0 : Int) < (m : Int) := by omega
      go_wp2
      go_quiet (fail)
      go_wp2
      go_loopw [9] (fun s9 wx => ∃ j : Nat, j ≤ k ∧ s9 = .int .i64 j ∧ Below w2.heap.size w2 wx) (fun s9 _ => k - (intOf s9).toNat)
      case atStart => exact ⟨0, Nat.zero_le _, rfl, below_drewN HB3.out _⟩
      case round =>
        obtain ⟨j, hj, rfl, hbx⟩ := hrel
        by_cases hjk : j < k
        · have hjk' : (j : Int) < (k : Int) := by omega
          obtain ⟨y, hy⟩ : ∃ y : UInt8, l[pos + j]? = some y := ⟨_, List.getElem?_eq_getElem (by rw [← HL.out]; omega)⟩
          have d1 : ∀ wx, Below w2.heap.size w2 wx → wx.cell? ⟨b, off + (pos + j), none⟩ = some (.int .u8 (y.toNat : Int)) := fun wx h => (h.cell (p := ⟨b, off + (pos + j), none⟩) hx).trans (HC.out _ _ hy)
          clear hy
          have d2 := d1 wr hbx
          have d3 : wr.cell? ⟨b, off + pos + j, none⟩ = some (.int .u8 (y.toNat : Int)) := by rw [Nat.add_assoc]; exact d2
          clear d1
          have hjn : (pos : Int) + (j : Int) < (n : Int) := by omega
          go_wp2
          go_quiet (fail)
          go_wp2
          go_roundw
          case rel => exact ⟨j + 1, by omega, by go_num, below_drewN hbx _⟩
          case measure => simp [intOf]; omega
        · have hjk' : ¬ (j : Int) < (k : Int) := by omega
          go_wp2
          go_roundw
          case rel => exact ⟨pos + m, idx + 1, HAt'.out, by go_num, by go_num, hbx⟩
          case measure => simp [intOf]; omega
    · have hlt' : ¬ (pos : Int) < (n : Int) := by omega
      obtain rfl : pos = n := by have := HAt.out.le; have := HL.out; omega
      have hNi : N = idx := by rw [HN.out]; exact At.last (by rw [← HL.out]; exact HAt.out)
      subst hNi
      go_wp2_with fail
      have h8 := zz_any (some ⟨b, off, none⟩) 0 0 [] true wr (Sl.empty _ _ _) (hL2.below HB.out)
      rw [cut_nil] at h8
      refine h8.mono ?_
      clear h8
      rintro e w3 ⟨rfl, hb3⟩
      simp only [cutV]
      go_wp2
      go_ret
      exact ⟨rfl, HB2.out.trans ((HB.out.trans (hb3.mono HB.out.size)).mono HB2.out.size)⟩
end Go.Proofs.Qxb6600587aDoor
