import Derived.Test.Qxb6605443aDoorWa
import Derived.Test.Qxb6605443aDoorWg
import Derived.Test.Qxb6605443aDoorPlain2
import Derived.Test.Qxb6605443aDoorSb
import Derived.Deep.LoopGhost
import Derived.Lib.Strings
import Derived.Lib.OthersKept
import Derived.WalkMore
import Derived.ScopeJumps
namespace Go.Proofs.Qxb6605443aDoor
open Go.RowKit
set_option linter.unusedVariables false
set_option linter.unusedSimpArgs false
set_option linter.unnecessarySimpa false

/-- the letters of "cookie". -/
abbrev Let (c : UInt8) : Prop := c = 99 ∨ c = 111 ∨ c = 107 ∨ c = 105 ∨ c = 101
theorem Let.rng {c : UInt8} (h : Let c) : 97 ≤ c.toNat ∧ c.toNat ≤ 122 := by
  rcases h with rfl | rfl | rfl | rfl | rfl <;> decide
theorem ck_at (k : Nat) (hk : k < 6) : ∃ (c : UInt8), (⟨#[99, 111, 111, 107, 105, 101]⟩ : ByteArray)[k]'hk = c ∧ ckL.drop k = c :: ckL.drop (k + 1) ∧ Let c := by
  match k, hk with
  | 0, _ => exact ⟨99, rfl, rfl, by decide⟩
  | 1, _ => exact ⟨111, rfl, rfl, by decide⟩
  | 2, _ => exact ⟨111, rfl, rfl, by decide⟩
  | 3, _ => exact ⟨107, rfl, rfl, by decide⟩
  | 4, _ => exact ⟨105, rfl, rfl, by decide⟩
  | 5, _ => exact ⟨101, rfl, rfl, by decide⟩
  | k + 6, h => omega
theorem or_let (x c : UInt8) (h : Let c) : decide (128 ≤ bits BinOp.or IntKind.u8 (x.toNat : Int) (c.toNat : Int)) = decide (128 ≤ x.toNat) := by
  have key : ∀ i : Fin 256, ∀ c ∈ ([99, 111, 107, 105, 101] : List Nat), decide (128 ≤ bits BinOp.or IntKind.u8 (i.val : Int) (c : Int)) = decide (128 ≤ i.val) := by decide +kernel
  refine key ⟨x.toNat, UInt8.toNat_lt x⟩ c.toNat ?_
  rcases h with rfl | rfl | rfl | rfl | rfl <;> decide
theorem mt_low {c : UInt8} {x : Nat} (h : Let c) (hx : x < 128) : mt c x = (x == c.toNat || x + 32 == c.toNat) := by
  unfold mt
  have h1 : (x == 8490) = false := beq_eq_false_iff_ne.2 (by omega)
  rw [decide_eq_true hx, h1]
  simp

structure FT (B o cap N : Nat) (w : World) : Prop where
  n1 : 1 < N
  nB : B < N
  a : ∀ p ∈ ([(99, 67), (111, 79), (107, 8490), (105, 73), (101, 69), (67, 99), (79, 111), (75, 107), (73, 105), (69, 101)] : List (Nat × Nat)), w.cell? ⟨0, p.1, none⟩ = some (.int .u16 (p.2 : Int))
  s : w.cell? ⟨1, 0, none⟩ = some (.slice (some ⟨B, o, none⟩) 94 cap)
  c : ∀ p ∈ ([(94, 966), (142, 7296), (166, 7838), (178, 8491), (172, 8163), (176, 8490), (174, 8486), (177, 75)] : List (Nat × Nat)), w.cell? ⟨B, o + p.1, none⟩ = some (.int .u16 (p.2 : Int))
theorem FT.below {B o cap N : Nat} {w w' : World} (h : FT B o cap N w) (hb : Below N w w') : FT B o cap N w' :=
  ⟨h.n1, h.nB, fun p hp => (hb.cell (p := ⟨0, p.1, none⟩) (by have := h.n1; show 0 < N; omega)).trans (h.a p hp), (hb.cell (p := ⟨1, 0, none⟩) h.n1).trans h.s, fun p hp => (hb.cell (p := ⟨B, o + p.1, none⟩) h.nB).trans (h.c p hp)⟩
theorem sf {B o cap N : Nat} {w : World} (h : FT B o cap N w) (k v : Nat) (hkv : (k, v) ∈ ([(99, 67), (111, 79), (107, 8490), (105, 73), (101, 69), (67, 99), (79, 111), (75, 107), (73, 105), (69, 101)] : List (Nat × Nat))) :
    Calls Tryd.prog 24 #[.int .i32 (k : Int)] w fun e w' => e = .returned (.int .i32 (v : Int)) ∧ w' = w := by
  have hc := h.a (k, v) hkv
  simp only [List.mem_cons, Prod.mk.injEq, List.not_mem_nil, or_false] at hkv
  rcases hkv with ⟨rfl, rfl⟩ | ⟨rfl, rfl⟩ | ⟨rfl, rfl⟩ | ⟨rfl, rfl⟩ | ⟨rfl, rfl⟩ | ⟨rfl, rfl⟩ | ⟨rfl, rfl⟩ | ⟨rfl, rfl⟩ | ⟨rfl, rfl⟩ | ⟨rfl, rfl⟩
  · exact fold_99 w hc
  · exact fold_111 w hc
  · exact fold_107 w hc
  · exact fold_105 w hc
  · exact fold_101 w hc
  · exact fold_67 w hc
  · exact fold_79 w hc
  · exact fold_75 w hc
  · exact fold_73 w hc
  · exact fold_69 w hc
theorem sfk {B o cap N : Nat} {w : World} (h : FT B o cap N w) :
    Calls Tryd.prog 24 #[.int .i32 8490] w fun e w' => e = .returned (.int .i32 75) ∧ w' = w :=
  fold_kelvin B o cap w h.s (h.c (94, 966) (by decide)) (h.c (142, 7296) (by decide)) (h.c (166, 7838) (by decide)) (h.c (178, 8491) (by decide)) (h.c (172, 8163) (by decide)) (h.c (176, 8490) (by decide)) (h.c (174, 8486) (by decide)) (h.c (177, 75) (by decide))
theorem let_pair {c : UInt8} (h : Let c) (h107 : c ≠ 107) : (c.toNat, c.toNat - 32) ∈ ([(99, 67), (111, 79), (107, 8490), (105, 73), (101, 69), (67, 99), (79, 111), (75, 107), (73, 105), (69, 101)] : List (Nat × Nat)) ∧ (c.toNat - 32, c.toNat) ∈ ([(99, 67), (111, 79), (107, 8490), (105, 73), (101, 69), (67, 99), (79, 111), (75, 107), (73, 105), (69, 101)] : List (Nat × Nat)) := by
  rcases h with rfl | rfl | rfl | rfl | rfl
  · decide
  · decide
  · exact absurd rfl h107
  · decide
  · decide
theorem mt_high {c : UInt8} {x : Nat} (h : Let c) (hx : 128 ≤ x) : mt c x = (c == 107 && x == 8490) := by
  unfold mt
  have h1 : (x == c.toNat) = false := beq_eq_false_iff_ne.2 (by have := h.rng; omega)
  rw [h1, decide_eq_false (by omega)]
  rfl
theorem ext_list (s : ByteArray) (a b : Nat) : (s.extract a b).data.toList = (s.data.toList.drop a).take (b - a) := by
  simp [ByteArray.data_extract, Array.toList_extract, List.extract_eq_take_drop]
theorem ck_drop (i : Nat) (h : i < 6) : ((⟨#[99, 111, 111, 107, 105, 101]⟩ : ByteArray).extract i 6).data.toList = ckL.drop i := by
  rw [ext_list]
  match i, h with
  | 0, _ => rfl
  | 1, _ => rfl
  | 2, _ => rfl
  | 3, _ => rfl
  | 4, _ => rfl
  | 5, _ => rfl
  | i + 6, h => omega
theorem ck_let (i : Nat) : ∀ c ∈ ckL.drop i, Let c := fun c hc => by
  have h : c ∈ ckL := List.mem_of_mem_drop hc
  have hall : ∀ c ∈ ckL, Let c := by decide
  exact hall c h

theorem jump_ret {l : Nat} {J : Act → World → Prop} {Q : Exit → Act → World → Prop} {a : Act} {w : World} : Exit.jump l J Q .ret a w = Q .ret a w := rfl

/-- what jumps into the rune phase. -/
def JJ (s : ByteArray) (w : World) : Act → World → Prop := fun a' w' => w' = w ∧ ∃ (i : Nat) (v4 v6 v7 v8 v14 v15 v16 v17 v18 v19 v20 v21 v22 v23 v24 v25 v26 v27 v28 v29 v30 v31 v32 v33 v34 v35 v36 v37 v38 v39 v40 v41 v42 v43 v44 v45 v46 v47 v48 v49 v50 v51 v52 v53 v54 : Value), a' = { tmps := #[.string s, .string ⟨#[99, 111, 111, 107, 105, 101]⟩, undef, undef, v4, .int .i64 (i : Int), v6, v7, v8, undef, undef, undef, undef, undef, v14, v15, v16, v17, v18, v19, v20, v21, v22, v23, v24, v25, v26, v27, v28, v29, v30, v31, v32, v33, v34, v35, v36, v37, v38, v39, v40, v41, v42, v43, v44, v45, v46, v47, v48, v49, v50, v51, v52, v53, v54, undef, undef, undef, undef, undef, undef, undef, undef, undef, undef, undef, undef, undef, undef, undef, undef, undef, undef, undef, undef, undef, undef, undef, undef, undef, undef, undef, undef, undef, undef, undef, undef, undef, undef, undef, undef, undef, undef, undef, undef, undef, undef, undef, undef, undef, undef, undef, undef, undef, undef, undef, undef, undef, undef, undef, undef, undef, undef, undef, undef, undef, undef, undef, undef, undef, undef, undef, undef], defers := [] } ∧ i < 6 ∧ i < s.size ∧ fold2 (s.extract i s.size) (ckL.drop i) 0 = foldc s

set_option maxHeartbeats 2000000 in
set_option maxRecDepth 100000 in
theorem fold_walk (s : ByteArray) (w : World) (hs : s.size ≤ 2000000)
    (B o cap : Nat) (hFT : FT B o cap w.heap.size w) :
    Calls Tryd.prog 19 #[.string s, .string ⟨#[99, 111, 111, 107, 105, 101]⟩] w fun e w' => e = .returned (.bool (foldc s)) ∧ Below w.heap.size w w' := by
  go_enter Tryd.func19, Tryd.ntmps19
  go_wp2
  refine wp_scope_jumps 0 (JJ s w) (fun a' _ => 0) rfl ?_ ?_
  · go_wp2
    go_loop [5] (fun s5 => ∃ k : Nat, k ≤ s.size ∧ k ≤ 6 ∧ s5 = .int .i64 k ∧ fold1 s (ckL.drop k) k = foldc s) (fun s5 => s.size - (intOf s5).toNat)
    case atStart => exact ⟨0, Nat.zero_le _, Nat.zero_le _, rfl, rfl⟩
    case round =>
      obtain ⟨k, hk, hk6, rfl, hf⟩ := hrel
      have HF := Hid.mk' hf
      clear hf
      by_cases hlt : k < 6 ∧ k < s.size
      · obtain ⟨h6, hks⟩ := hlt
        have hm : (k : Int) < min (s.size : Int) 6 := by omega
        have hks' : (k : Int) < (s.size : Int) := by omega
        have h6' : (k : Int) < 6 := by omega
        obtain ⟨c, hT, hd, hL⟩ := ck_at k h6
        obtain ⟨x, hx⟩ : ∃ x : UInt8, s[k]'hks = x := ⟨_, rfl⟩
        have hf := HF.out
        rw [hd, fold1, dif_pos hks, hx] at hf
        obtain ⟨q, hq⟩ : ∃ q, bits BinOp.or IntKind.u8 (x.toNat : Int) (c.toNat : Int) = q := ⟨_, rfl⟩
        have hor := or_let x c hL
        rw [hq] at hor
        have hcr := hL.rng
        by_cases h128 : 128 ≤ x.toNat
        · rw [if_pos h128, ← hd] at hf
          have hq1 : 128 ≤ q := by rw [decide_eq_true h128] at hor; exact of_decide_eq_true hor
          have HG := Hid.mk' hf
          clear hf hor hcr hL hd
          go_wp2
          go_step3
          exact ⟨rfl, rfl, k, _, _, _, _, _, _, _, _, _, _, _, _, _, _, _, _, _, _, _, _, _, _, _, _, _, _, _, _, _, _, _, _, _, _, _, _, _, _, _, _, _, _, _, _, _, rfl, h6, hks, HG.out⟩
        · rw [if_neg h128, mt_low hL (by omega)] at hf
          have hq1 : ¬ 128 ≤ q := by rw [decide_eq_false h128] at hor; exact of_decide_eq_false hor
          have hx128 : (x.toNat : Int) < 128 := by omega
          by_cases e1 : x = c
          · have b1 : ((c.toNat : Int) == (x.toNat : Int)) = true := by rw [e1]; simp
            have hg : fold1 s (ckL.drop (k + 1)) (k + 1) = foldc s := by rw [← hf, e1]; simp
            have HG := Hid.mk' hg
            clear hg hf hor hcr hL hd e1
            go_wp2
            go_round
            case rel => exact ⟨k + 1, by omega, by omega, by go_num, HG.out⟩
            case measure => simp [intOf]; omega
          · have hne : c.toNat ≠ x.toNat := fun h => e1 (UInt8.toNat_inj.1 h.symm)
            have b1 : ((c.toNat : Int) == (x.toNat : Int)) = false := beq_eq_false_iff_ne.2 (by omega)
            by_cases e2 : x.toNat + 32 = c.toNat
            · have b2 : ¬ (c.toNat : Int) < (x.toNat : Int) := by omega
              have b3 : (65 : Int) ≤ (x.toNat : Int) := by omega
              have b4 : (x.toNat : Int) ≤ 90 := by omega
              have b5 : ((c.toNat : Int) == (x.toNat : Int) + 97 - 65) = true := beq_iff_eq.2 (by omega)
              have hg : fold1 s (ckL.drop (k + 1)) (k + 1) = foldc s := by rw [← hf, e2]; simp
              have HG := Hid.mk' hg
              clear hg hf hor hcr hL hd e1 e2 hne
              go_wp2
              go_round
              case rel => exact ⟨k + 1, by omega, by omega, by go_num, HG.out⟩
              case measure => simp [intOf]; omega
            · have hg : false = foldc s := by
                rw [← hf]
                have z1 : (x.toNat == c.toNat) = false := beq_eq_false_iff_ne.2 (fun h => hne h.symm)
                have z2 : (x.toNat + 32 == c.toNat) = false := beq_eq_false_iff_ne.2 e2
                rw [z1, z2]; rfl
              have HG := Hid.mk' hg
              by_cases e3 : x.toNat < c.toNat
              · have b2 : ¬ (c.toNat : Int) < (x.toNat : Int) := by omega
                have b5 : ((c.toNat : Int) == (x.toNat : Int) + 97 - 65) = false := beq_eq_false_iff_ne.2 (by omega)
                rcases (show (x.toNat : Int) < 65 ∨ (65 ≤ (x.toNat : Int) ∧ (x.toNat : Int) ≤ 90) ∨ 90 < (x.toNat : Int) by omega) with g | ⟨g, g'⟩ | g
                all_goals
                  clear hg hf hor hcr hL hd e1 e2 e3 hne
                  go_wp2
                  rw [jump_ret]
                  go_ret
                  exact ⟨by rw [← HG.out]; rfl, Below.refl _ _⟩
              · have b2 : (c.toNat : Int) < (x.toNat : Int) := by omega
                have b3 : (65 : Int) ≤ (c.toNat : Int) := by omega
                have b4 : ¬ (c.toNat : Int) ≤ 90 := by omega
                clear hg hf hor hcr hL hd e1 e2 e3 hne
                go_wp2
                rw [jump_ret]
                go_ret
                exact ⟨by rw [← HG.out]; rfl, Below.refl _ _⟩
      · have hm : ¬ (k : Int) < min (s.size : Int) 6 := by omega
        have hg : ((s.size : Int) == 6) = foldc s := by
          rw [← HF.out]
          rcases (show k = 6 ∨ (k < 6 ∧ k = s.size) by omega) with h | ⟨h, h'⟩
          · have e : ckL.drop k = [] := by rw [h]; rfl
            rw [e, fold1, h, Bool.eq_iff_iff]
            simp
            omega
          · obtain ⟨c, _, hd, _⟩ := ck_at k h
            rw [hd, fold1, dif_neg (by omega)]
            exact beq_eq_false_iff_ne.2 (by omega)
        have HG := Hid.mk' hg
        clear hg
        go_wp2
        rw [jump_ret]
        go_ret
        exact ⟨by rw [← HG.out]; simp, Below.refl _ _⟩
  · rintro a w2 ⟨rfl, i, v4, v6, v7, v8, v14, v15, v16, v17, v18, v19, v20, v21, v22, v23, v24, v25, v26, v27, v28, v29, v30, v31, v32, v33, v34, v35, v36, v37, v38, v39, v40, v41, v42, v43, v44, v45, v46, v47, v48, v49, v50, v51, v52, v53, v54, rfl, h6, his, hf⟩
    have hi6 : (i : Int) ≤ 6 := by omega
    have his' : (i : Int) ≤ (s.size : Int) := by omega
    obtain ⟨S, hS⟩ : ∃ S, s.extract i s.size = S := ⟨_, rfl⟩
    obtain ⟨T0, hT0⟩ : ∃ T0, (⟨#[99, 111, 111, 107, 105, 101]⟩ : ByteArray).extract i 6 = T0 := ⟨_, rfl⟩
    have hTl : T0.data.toList = ckL.drop i := by rw [← hT0]; exact ck_drop i h6
    have hTz : T0.size ≤ 6 := by rw [Lib.size_eq, hTl, List.length_drop]; show 6 - i ≤ 6; omega
    have hSz : S.size ≤ 2000000 := by rw [← hS, ByteArray.size_extract]; omega
    rw [hS] at hf
    have HF := Hid.mk' hf
    have HT := Hid.mk' hTl
    have HFT := Hid.mk' hFT
    have HTz := Hid.mk' hTz
    clear hf hTl hFT hTz
    go_wp2
    go_loopg [1] T0.size (fun g s1 wx => ∃ (tl : List UInt8) (T : ByteArray) (pos : Nat), tl.length = g ∧ T.data.toList = tl ∧ s1 = .string T ∧ (∀ c ∈ tl, Let c) ∧ fold2 S tl pos = foldc s ∧ wx.heap[w2.heap.size]? = some (.stringIter S pos) ∧ Below w2.heap.size w2 wx ∧ g ≤ 6)
    case atStart => exact ⟨ckL.drop i, T0, 0, by rw [Lib.size_eq, HT.out], HT.out, rfl, ck_let i, HF.out, World.iter_heap w2 S 0, (Below.refl _ _).alloc (Nat.le_refl _) _, HTz.out⟩
    case round =>
      obtain ⟨tl, T, pos, hg, hTl, rfl, hlet, hfo, hit, hb, hg6⟩ := hrel
      have HB := Hid.mk' hb
      have HFo := Hid.mk' hfo
      have hTs : T.size = gk := by rw [Lib.size_eq, hTl]; exact hg
      clear hb hfo
      by_cases hpos : pos < S.size
      · have hnx := fun ty => Lib.run_next_any_at (P := Tryd.prog) wr w2.heap.size S pos ty hit hpos
        obtain ⟨x, hx⟩ : ∃ x, (Utf8.decode S pos).1 = x := ⟨_, rfl⟩
        obtain ⟨wd, hwd⟩ : ∃ wd, (Utf8.decode S pos).2 = wd := ⟨_, rfl⟩
        have hxle := decode_le S pos
        rw [hx, hwd] at hnx
        rw [hx] at hxle
        have hit2 := Lib.iterAt_heap wr w2.heap.size S pos (pos + wd) hit
        have hb2 := Lib.below_iterAt HB.out (Nat.le_refl _) S (pos + wd)
        generalize wr.iterAt w2.heap.size S (pos + wd) = wi at hnx hit2 hb2
        have HI2 := Hid.mk' hit2
        have HB2 := Hid.mk' hb2
        have hFTi := HFT.out.below hb2
        have HFTi := Hid.mk' hFTi
        clear hit hit2 hb2 hFTi
        cases tl with
        | nil =>
          have e0 : ((T.size : Int) == 0) = true := beq_iff_eq.2 (by rw [Lib.size_eq, hTl]; rfl)
          have hg2 : false = foldc s := by rw [← HFo.out, fold2, decide_eq_false (by omega)]
          have HG := Hid.mk' hg2
          clear hg2 hTl hlet hx hwd hTs hg hg6
          go_wp2
          rw [jump_ret]
          go_ret
          exact ⟨by rw [← HG.out]; rfl, HB2.out⟩
        | cons c tl =>
          have hL : Let c := hlet c (List.mem_cons_self ..)
          have hcr := hL.rng
          have hTs1 : T.size = tl.length + 1 := by rw [Lib.size_eq, hTl]; rfl
          have e0 : ((T.size : Int) == 0) = false := beq_eq_false_iff_ne.2 (by omega)
          have hc23 := fun w => Tryd.utf8_DecodeRuneInString_ascii T c w (by rw [hTl]; rfl) (by omega)
          obtain ⟨T1, hT1⟩ : ∃ T1, T.extract 1 T.size = T1 := ⟨_, rfl⟩
          have hT1l : T1.data.toList = tl := by
            rw [← hT1, ext_list, hTl, List.take_of_length_le (by rw [List.length_drop, List.length_cons]; omega)]; rfl
          have hfo := HFo.out
          rw [fold2, decide_eq_true hpos, hx, hwd, Bool.true_and] at hfo
          have hrel : mt c x = true → ∃ (tl' : List UInt8) (T : ByteArray) (pos : Nat), tl'.length = tl.length ∧ T.data.toList = tl' ∧ Value.string T1 = .string T ∧ (∀ c ∈ tl', Let c) ∧ fold2 S tl' pos = foldc s ∧ wi.heap[w2.heap.size]? = some (.stringIter S pos) ∧ Below w2.heap.size w2 wi ∧ tl.length ≤ 6 := fun h =>
            ⟨tl, T1, pos + wd, rfl, hT1l, rfl, fun c hc => hlet c (List.mem_cons_of_mem _ hc), by rw [← hfo, h]; rfl, HI2.out, HB2.out, by rw [List.length_cons] at hg; omega⟩
          have hno : mt c x = false → false = foldc s := fun h => by rw [← hfo, h]; rfl
          have hgk : tl.length < gk := by rw [List.length_cons] at hg; omega
          have b0 : (1 : Int) ≤ (T.size : Int) := by omega
          have C23 := Hid.mk' hc23
          have HR := Hid.mk' hrel
          have HNo := Hid.mk' hno
          have HTs := Hid.mk' hTs1
          have HX := Hid.mk' hx
          clear hTl hlet hc23 hT1l hfo hrel hno hTs hTs1 hx hwd hg hg6
          by_cases e1 : x = c.toNat
          · have b1 : ((c.toNat : Int) == (x : Int)) = true := by rw [e1]; simp
            have hm : mt c x = true := by unfold mt; rw [e1]; simp
            have HM := Hid.mk' (HR.out hm)
            clear hm e1
            go_wp2_with (go_at_call 23; refine (C23.out _).mono ?_; rintro e w1 ⟨rfl, hw1⟩; rw [hw1]; clear hw1 w1)
            go_roundg tl.length
            case measure => exact hgk
            case rel => exact HM.out
          · have b1 : ((c.toNat : Int) == (x : Int)) = false := beq_eq_false_iff_ne.2 (by omega)
            by_cases h128 : x < 128
            · have hm := mt_low hL h128
              have z1 : (x == c.toNat) = false := beq_eq_false_iff_ne.2 e1
              rw [z1, Bool.false_or] at hm
              by_cases e2 : x + 32 = c.toNat
              · have b2 : ¬ (c.toNat : Int) < (x : Int) := by omega
                have b3 : (65 : Int) ≤ (x : Int) := by omega
                have b4 : (x : Int) ≤ 90 := by omega
                have b5 : ((c.toNat : Int) == (x : Int) + 97 - 65) = true := beq_iff_eq.2 (by omega)
                have b6 : (c.toNat : Int) < 128 := by omega
                have HM := Hid.mk' (HR.out (by rw [hm, e2]; simp))
                clear hm e1 e2 z1 h128
                go_wp2_with (go_at_call 23; refine (C23.out _).mono ?_; rintro e w1 ⟨rfl, hw1⟩; rw [hw1]; clear hw1 w1)
                go_roundg tl.length
                case measure => exact hgk
                case rel => exact HM.out
              · have HG := Hid.mk' (HNo.out (by rw [hm]; exact beq_eq_false_iff_ne.2 e2))
                by_cases e3 : x < c.toNat
                · have b2 : ¬ (c.toNat : Int) < (x : Int) := by omega
                  have b5 : ((c.toNat : Int) == (x : Int) + 97 - 65) = false := beq_eq_false_iff_ne.2 (by omega)
                  have b6 : (c.toNat : Int) < 128 := by omega
                  rcases (show (x : Int) < 65 ∨ (65 ≤ (x : Int) ∧ (x : Int) ≤ 90) ∨ 90 < (x : Int) by omega) with g | ⟨g, g'⟩ | g
                  all_goals
                    clear hm e1 e2 z1 h128 e3
                    go_wp2_with (go_at_call 23; refine (C23.out _).mono ?_; rintro e w1 ⟨rfl, hw1⟩; rw [hw1]; clear hw1 w1)
                    rw [jump_ret]
                    go_ret
                    exact ⟨by rw [← HG.out]; rfl, HB2.out⟩
                · have b2 : (c.toNat : Int) < (x : Int) := by omega
                  have b3 : (65 : Int) ≤ (c.toNat : Int) := by omega
                  have b4 : ¬ (c.toNat : Int) ≤ 90 := by omega
                  have b6 : (x : Int) < 128 := by omega
                  clear hm e1 e2 z1 h128 e3
                  go_wp2_with (go_at_call 23; refine (C23.out _).mono ?_; rintro e w1 ⟨rfl, hw1⟩; rw [hw1]; clear hw1 w1)
                  rw [jump_ret]
                  go_ret
                  exact ⟨by rw [← HG.out]; rfl, HB2.out⟩
            · have hx128 : (128 : Int) ≤ (x : Int) := by omega
              have b2 : (c.toNat : Int) < (x : Int) := by omega
              have b6 : ¬ (x : Int) < 128 := by omega
              have hm := mt_high hL (show 128 ≤ x by omega)
              have c24a := fold_107 wi (HFTi.out.a (107, 8490) (by decide))
              have c24b := fold_75 wi (HFTi.out.a (75, 107) (by decide))
              have c24c := sfk HFTi.out
              by_cases h107 : c = 107
              · have K : (c.toNat : Int) = 107 := by rw [h107]; rfl
                have hm' : mt c x = (x == 8490) := by rw [hm, h107]; rfl
                rw [K] at C23 b1 b2
                have CA := Hid.mk' c24a
                have CB := Hid.mk' c24b
                have CC := Hid.mk' c24c
                clear hm c24a c24b c24c
                by_cases hk : 8490 < x
                · have hk' : (8490 : Int) < (x : Int) := by omega
                  have hk2 : (75 : Int) < (x : Int) := by omega
                  have HG := Hid.mk' (HNo.out (by rw [hm']; exact beq_eq_false_iff_ne.2 (by omega)))
                  clear hm' h107 K e1 h128 hk
                  go_wp2_with (first | (go_at_call 23; refine (C23.out _).mono ?_; rintro e w1 ⟨rfl, hw1⟩; rw [hw1]; clear hw1 w1) | (go_at_call 24; refine CA.out.mono ?_; rintro e w1 ⟨rfl, hw1⟩; rw [hw1]; clear hw1 w1))
                  go_loopg [13] 2 (fun g s13 wx => wx = wi ∧ ((g = 2 ∧ s13 = .int .i32 8490) ∨ (g = 1 ∧ s13 = .int .i32 75) ∨ (g = 0 ∧ s13 = .int .i32 107)))
                  case atStart => exact ⟨rfl, Or.inl ⟨rfl, rfl⟩⟩
                  case round =>
                    obtain ⟨rfl, ⟨rfl, rfl⟩ | ⟨rfl, rfl⟩ | ⟨rfl, rfl⟩⟩ := hrel
                    · go_wp2_with (go_at_call 24; refine CC.out.mono ?_; rintro e w1 ⟨rfl, hw1⟩; rw [hw1]; clear hw1 w1)
                      go_roundg 1
                      case measure => omega
                      case rel => exact ⟨rfl, Or.inr (Or.inl ⟨rfl, rfl⟩)⟩
                    · go_wp2_with (go_at_call 24; refine CB.out.mono ?_; rintro e w1 ⟨rfl, hw1⟩; rw [hw1]; clear hw1 w1)
                      go_roundg 0
                      case measure => omega
                      case rel => exact ⟨rfl, Or.inr (Or.inr ⟨rfl, rfl⟩)⟩
                    · go_wp2
                      rw [jump_ret]
                      go_ret
                      exact ⟨by rw [← HG.out]; rfl, HB2.out⟩
                · have hk' : ¬ (8490 : Int) < (x : Int) := by omega
                  by_cases hkx : x = 8490
                  · have b7 : ((8490 : Int) == (x : Int)) = true := by rw [hkx]; rfl
                    have HM := Hid.mk' (HR.out (by rw [hm', hkx]; rfl))
                    clear hm' h107 K e1 h128 hk hkx
                    go_wp2_with (first | (go_at_call 23; refine (C23.out _).mono ?_; rintro e w1 ⟨rfl, hw1⟩; rw [hw1]; clear hw1 w1) | (go_at_call 24; refine CA.out.mono ?_; rintro e w1 ⟨rfl, hw1⟩; rw [hw1]; clear hw1 w1))
                    go_loopg [13] 0 (fun g s13 wx => wx = wi ∧ s13 = .int .i32 8490)
                    case atStart => exact ⟨rfl, rfl⟩
                    case round =>
                      obtain ⟨rfl, rfl⟩ := hrel
                      go_wp2
                      go_roundg tl.length
                      case measure => exact hgk
                      case rel => exact HM.out
                  · have b7 : ((8490 : Int) == (x : Int)) = false := beq_eq_false_iff_ne.2 (by omega)
                    have HG := Hid.mk' (HNo.out (by rw [hm']; exact beq_eq_false_iff_ne.2 hkx))
                    clear hm' h107 K e1 h128 hk hkx
                    go_wp2_with (first | (go_at_call 23; refine (C23.out _).mono ?_; rintro e w1 ⟨rfl, hw1⟩; rw [hw1]; clear hw1 w1) | (go_at_call 24; refine CA.out.mono ?_; rintro e w1 ⟨rfl, hw1⟩; rw [hw1]; clear hw1 w1))
                    go_loopg [13] 0 (fun g s13 wx => wx = wi ∧ s13 = .int .i32 8490)
                    case atStart => exact ⟨rfl, rfl⟩
                    case round =>
                      obtain ⟨rfl, rfl⟩ := hrel
                      go_wp2
                      rw [jump_ret]
                      go_ret
                      exact ⟨by rw [← HG.out]; rfl, HB2.out⟩
              · obtain ⟨p1, p2⟩ := let_pair hL h107
                have c24d := sf HFTi.out _ _ p1
                have c24e := sf HFTi.out _ _ p2
                obtain ⟨d, hd⟩ : ∃ d, d = c.toNat - 32 := ⟨_, rfl⟩
                rw [← hd] at c24d c24e
                have hz : (c == 107) = false := beq_eq_false_iff_ne.2 h107
                have HG := Hid.mk' (HNo.out (by rw [hm, hz]; rfl))
                have d1 : (d : Int) ≠ (c.toNat : Int) := by omega
                have d1' : ((d : Int) != (c.toNat : Int)) = true := by simp; omega
                have d2 : (d : Int) < (x : Int) := by omega
                have CD := Hid.mk' c24d
                have CE := Hid.mk' c24e
                clear hm c24a c24b c24c c24d c24e p1 p2 hd hz h107 h128 e1 d1
                go_wp2_with (first | (go_at_call 23; refine (C23.out _).mono ?_; rintro e w1 ⟨rfl, hw1⟩; rw [hw1]; clear hw1 w1) | (go_at_call 24; refine CD.out.mono ?_; rintro e w1 ⟨rfl, hw1⟩; rw [hw1]; clear hw1 w1))
                go_loopg [13] 1 (fun g s13 wx => wx = wi ∧ ((g = 1 ∧ s13 = .int .i32 (d : Int)) ∨ (g = 0 ∧ s13 = .int .i32 (c.toNat : Int))))
                case atStart => exact ⟨rfl, Or.inl ⟨rfl, rfl⟩⟩
                case round =>
                  obtain ⟨rfl, ⟨rfl, rfl⟩ | ⟨rfl, rfl⟩⟩ := hrel
                  · go_wp2_with (go_at_call 24; refine CE.out.mono ?_; rintro e w1 ⟨rfl, hw1⟩; rw [hw1]; clear hw1 w1)
                    go_roundg 0
                    case measure => omega
                    case rel => exact ⟨rfl, Or.inr ⟨rfl, rfl⟩⟩
                  · go_wp2
                    rw [jump_ret]
                    go_ret
                    exact ⟨by rw [← HG.out]; rfl, HB2.out⟩
      · have hnx := fun ty => Lib.run_next_end_at (P := Tryd.prog) wr w2.heap.size S pos ty hit hpos
        have hg2 : ((T.size : Int) == 0) = foldc s := by
          rw [← HFo.out]
          cases tl with
          | nil => rw [fold2, decide_eq_true (by omega)]; exact beq_iff_eq.2 (by rw [Lib.size_eq, hTl]; rfl)
          | cons c tl =>
            rw [fold2, decide_eq_false hpos, Bool.false_and]
            exact beq_eq_false_iff_ne.2 (by rw [Lib.size_eq, hTl, List.length_cons]; omega)
        have HG := Hid.mk' hg2
        clear hit hg2 hTl hlet hTs
        go_wp2
        rw [jump_ret]
        go_ret
        exact ⟨by rw [← HG.out]; simp, HB.out⟩
end Go.Proofs.Qxb6605443aDoor
