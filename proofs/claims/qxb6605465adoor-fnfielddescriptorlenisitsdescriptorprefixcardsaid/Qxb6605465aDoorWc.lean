import Derived.Test.Qxb6605465aDoorWb
namespace Go.Proofs.Qxb6605465aDoor
open Go.RowKit
set_option linter.unusedVariables false
set_option linter.unusedSimpArgs false
set_option linter.unnecessarySimpa false

theorem splitOn_len : ∀ (l x : List UInt8), x ∈ splitOn l → x.length ≤ l.length
  | [], x, h => by simp [splitOn] at h; simp [h]
  | c :: r, x, h => by
    have ih := splitOn_len r
    unfold splitOn at h
    split at h
    · rcases List.mem_cons.1 h with e | h
      · simp [e]
      · have := ih x h; simp; omega
    · cases hs : splitOn r with
      | nil => exact absurd hs (splitOn_ne r)
      | cons a b =>
        rw [hs] at h ih
        rcases List.mem_cons.1 h with e | h
        · have := ih a (List.mem_cons_self ..)
          rw [e]; simp; omega
        · have := ih x (List.mem_cons_of_mem _ h); simp; omega
theorem part_mem {s x : ByteArray} {k : Nat} (h : (parts s)[k]? = some x) : x.data.toList ∈ splitOn s.data.toList := by
  rw [← parts_data]
  exact List.mem_map.2 ⟨x, List.mem_of_getElem? h, rfl⟩
theorem all_take {s x : ByteArray} {k : Nat} (h : (parts s)[k]? = some x) : ((parts s).take (k + 1)).all (fun y => unq y.data.toList) = (((parts s).take k).all (fun y => unq y.data.toList) && unq x.data.toList) := by
  rw [List.take_add_one, h]
  simp
theorem vcls_parts (s : ByteArray) : vcls s.data.toList = (parts s).all (fun y => unq y.data.toList) := by
  unfold vcls
  rw [← parts_data, List.all_map]; rfl

set_option maxHeartbeats 2000000 in
set_option maxRecDepth 100000 in
theorem vcls_any (s : ByteArray) (m : Int) (w : World) (hs : s.size < 4294967281) (hm : w.cell? ⟨0, 0, none⟩ = some (.int .i64 m)) :
    Calls Tryd.prog 15 #[.string s] w fun e w' => e = .returned (.bool (vcls s.data.toList)) ∧ Below w.heap.size w w' := by
  rw [vcls_parts]
  have hsp := Tryd.strings_Split s ⟨#[47]⟩ m w (by omega) hm (by decide)
  have hN := parts_length s
  have hle := parts_le s
  rw [← hN] at hsp
  change Calls Tryd.prog 17 #[.string s, .string ⟨#[47]⟩] w fun e w' => e = .returned (.slice (some ⟨w.heap.size, 0, none⟩) (parts s).length (parts s).length) ∧ w' = w.alloc (.cells ((parts s).map Value.string).toArray 9) at hsp
  obtain ⟨N, hNe⟩ : ∃ N, N = (parts s).length := ⟨_, rfl⟩
  rw [← hNe] at hsp hle
  obtain ⟨w0, hw0⟩ : ∃ w0, w0 = w.alloc (.cells ((parts s).map Value.string).toArray 9) := ⟨_, rfl⟩
  rw [← hw0] at hsp
  have hB0 : Below w.heap.size w w0 := by rw [hw0]; exact (Below.refl _ _).alloc (Nat.le_refl _) _
  have hz0' : w0.heap.size = w.heap.size + 1 := by rw [hw0]; simp
  have hc0 : ∀ (j : Nat) x, (parts s)[j]? = some x → w0.cell? ⟨w.heap.size, j, none⟩ = some (.string x) := fun j x hx => by
    rw [hw0, World.cell?_alloc_at _ _ _ _ rfl]
    simp [hx]
  have HNe := Hid.mk' hNe
  have HB0 := Hid.mk' hB0
  have HC0 := Hid.mk' hc0
  have HZ := Hid.mk' hz0'
  clear hNe hB0 hc0 hN hw0 hz0'
  go_enter Tryd.func15, Tryd.ntmps15
  go_wp2_with (go_at_call 17; refine hsp.mono ?_; rintro e w' ⟨rfl, hw⟩; rw [hw]; clear hw w')
  clear hsp
  go_loopw [8] (fun s8 wr => ∃ k : Nat, k ≤ N ∧ s8 = .int .i64 k ∧ ((parts s).take k).all (fun y => unq y.data.toList) = true ∧ Below w0.heap.size w0 wr) (fun s8 _ => N - (intOf s8).toNat)
  case atStart => exact ⟨0, Nat.zero_le _, rfl, rfl, Below.refl _ _⟩
  case round =>
    obtain ⟨k, hk, rfl, hall, hb⟩ := hrel
    have HAll := Hid.mk' hall
    have HB := Hid.mk' hb
    clear hall
    by_cases hlt : k < N
    · have hlt' : (k : Int) < (N : Int) := by omega
      obtain ⟨x, hx⟩ : ∃ x, (parts s)[k]? = some x := ⟨_, List.getElem?_eq_getElem (by rw [← HNe.out]; exact hlt)⟩
      have hcell : wr.cell? ⟨w.heap.size, k, none⟩ = some (.string x) := (hb.cell (p := ⟨w.heap.size, k, none⟩) (by rw [HZ.out]; simp)).trans (HC0.out k x hx)
      have hxs : x.size < 4294967281 := by
        have := splitOn_len _ _ (part_mem hx)
        rw [← Lib.size_eq, ← Lib.size_eq] at this
        omega
      have hq := unq_any x wr hxs
      have hat := all_take hx
      have HXk := Hid.mk' hx
      rw [HAll.out] at hat
      have HAt := Hid.mk' hat
      clear hat hx hb
      cases hv : unq x.data.toList
      · rw [hv] at hq
        have hf : (parts s).all (fun y => unq y.data.toList) = false := by
          rw [List.all_eq_false]
          exact ⟨x, List.mem_of_getElem? HXk.out, by simp [hv]⟩
        have HF := Hid.mk' hf
        have HQ := Hid.mk' hq
        clear hf hq
        go_wp2_with (go_at_call 18; refine HQ.out.mono ?_; rintro e w2 ⟨rfl, hb2⟩)
        go_ret
        exact ⟨by rw [HF.out]; rfl, HB0.out.trans ((HB.out.trans (hb2.mono HB.out.size)).mono (by rw [HZ.out]; omega))⟩
      · rw [hv] at hq HAt
        have HQ := Hid.mk' hq
        clear hq
        go_wp2_with (go_at_call 18; refine HQ.out.mono ?_; rintro e w2 ⟨rfl, hb2⟩)
        go_roundw
        case rel => exact ⟨k + 1, by omega, by go_num, HAt.out, HB.out.trans (hb2.mono HB.out.size)⟩
        case measure => simp [intOf]; omega
    · have hlt' : ¬ (k : Int) < (N : Int) := by omega
      have hf : (parts s).all (fun y => unq y.data.toList) = true := by
        have := HAll.out
        rw [List.take_of_length_le (by rw [← HNe.out]; omega)] at this
        exact this
      have HF := Hid.mk' hf
      clear hf hb
      go_wp2
      go_ret
      exact ⟨by rw [HF.out]; rfl, HB0.out.trans (HB.out.mono (by rw [HZ.out]; omega))⟩

theorem nb {x : UInt8} (n : Nat) (hn : n < 256) (h : x ≠ n.toUInt8) : ((x.toNat : Int) == (n : Int)) = false := by
  rw [beq_eq_false_iff_ne]
  intro e
  refine h (UInt8.toNat_inj.1 ?_)
  have h2 : n.toUInt8.toNat = n % 256 := by simp
  omega
theorem yb {x : UInt8} (n : Nat) (hn : n < 256) (h : x = n.toUInt8) : ((x.toNat : Int) == (n : Int)) = true := by
  rw [h]
  have h2 : n.toUInt8.toNat = n := by simp; omega
  rw [h2]; simp

theorem base_iff (c : UInt8) : baseB c = true ↔ c = 66 ∨ c = 67 ∨ c = 68 ∨ c = 70 ∨ c = 73 ∨ c = 74 ∨ c = 83 ∨ c = 90 := by
  simp [baseB, baseL]

set_option maxHeartbeats 1000000 in
theorem base_yes (n : Nat) (w : World) (h : n = 66 ∨ n = 67 ∨ n = 68 ∨ n = 70 ∨ n = 73 ∨ n = 74 ∨ n = 83 ∨ n = 90) :
    Calls Tryd.prog 13 #[.int .u8 (n : Int)] w fun e w' => e = .returned (.bool true) ∧ w' = w := by
  rcases h with rfl | rfl | rfl | rfl | rfl | rfl | rfl | rfl
  all_goals
    go_enter Tryd.func13, Tryd.ntmps13
    go_wp2
    go_ret
    exact ⟨rfl, rfl⟩
set_option maxHeartbeats 1000000 in
theorem base_any (c : UInt8) (w : World) :
    Calls Tryd.prog 13 #[.int .u8 (c.toNat : Int)] w fun e w' => e = .returned (.bool (baseB c)) ∧ w' = w := by
  cases hb : baseB c
  · have hn : ¬ (c = 66 ∨ c = 67 ∨ c = 68 ∨ c = 70 ∨ c = 73 ∨ c = 74 ∨ c = 83 ∨ c = 90) := fun h => by rw [(base_iff c).2 h] at hb; cases hb
    simp only [not_or] at hn
    obtain ⟨n1, n2, n3, n4, n5, n6, n7, n8⟩ := hn
    have e1 : ((c.toNat : Int) == 66) = false := nb 66 (by decide) n1
    have e2 : ((c.toNat : Int) == 67) = false := nb 67 (by decide) n2
    have e3 : ((c.toNat : Int) == 68) = false := nb 68 (by decide) n3
    have e4 : ((c.toNat : Int) == 70) = false := nb 70 (by decide) n4
    have e5 : ((c.toNat : Int) == 73) = false := nb 73 (by decide) n5
    have e6 : ((c.toNat : Int) == 74) = false := nb 74 (by decide) n6
    have e7 : ((c.toNat : Int) == 83) = false := nb 83 (by decide) n7
    have e8 : ((c.toNat : Int) == 90) = false := nb 90 (by decide) n8
    clear n1 n2 n3 n4 n5 n6 n7 n8 hb
    go_enter Tryd.func13, Tryd.ntmps13
    go_wp2
    go_ret
    exact ⟨rfl, rfl⟩
  · refine base_yes c.toNat w ?_
    rcases (base_iff c).1 hb with h | h | h | h | h | h | h | h <;> simp [h]

set_option maxHeartbeats 2000000 in
set_option maxRecDepth 100000 in
theorem cls_any (s : ByteArray) (w : World) (hs : s.size ≤ 2000000) :
    Calls Tryd.prog 11 #[.string s] w fun e w' => e = .returned (.bool (cls 0 s.data.toList)) ∧ w' = w := by
  have hat : ∀ i (h : i < s.size), s.data.toList.drop i = s[i]'h :: s.data.toList.drop (i + 1) := fun i h => by
    have h1 := Lib.data_getElem? s i h
    obtain ⟨hi, hx⟩ := List.getElem?_eq_some_iff.1 h1
    rw [List.drop_eq_getElem_cons hi, hx]
  have hnil : ∀ i, s.size ≤ i → s.data.toList.drop i = [] := fun i h => by
    rw [List.drop_eq_nil_iff, ← Lib.size_eq]; exact h
  have HA := Hid.mk' hat
  have HN := Hid.mk' hnil
  clear hat hnil
  go_enter Tryd.func11, Tryd.ntmps11
  go_wp2
  go_loop [3, 4] (fun s3 s4 => ∃ (n k : Nat), n ≤ k ∧ k ≤ s.size ∧ s3 = .int .i64 n ∧ s4 = .int .i64 k ∧ cls n (s.data.toList.drop k) = cls 0 s.data.toList) (fun _ s4 => s.size - (intOf s4).toNat)
  case atStart => exact ⟨0, 0, Nat.le_refl _, Nat.zero_le _, rfl, rfl, rfl⟩
  case round =>
    obtain ⟨n, k, hnk, hk, rfl, rfl, hw⟩ := hrel
    have HW := Hid.mk' hw
    clear hw
    by_cases hlt : k < s.size
    · have hlt' : (k : Int) < (s.size : Int) := by omega
      obtain ⟨c, hc⟩ : ∃ c : UInt8, s[k]'hlt = c := ⟨_, rfl⟩
      have hd := HA.out k hlt
      rw [hc] at hd
      have hgo : cls n (c :: s.data.toList.drop (k + 1)) = cls 0 s.data.toList := by rw [← hd]; exact HW.out
      clear hd
      by_cases c1 : c = 46 ∨ c = 59 ∨ c = 91
      · rw [cls, if_pos c1] at hgo
        have HG := Hid.mk' hgo
        rcases c1 with c1 | c1 | c1
        · have e1 : ((c.toNat : Int) == 46) = true := yb 46 (by decide) c1
          clear c1 hgo
          go_wp2
          go_ret
          exact ⟨by rw [← HG.out]; rfl, rfl⟩
        · have e1 : ((c.toNat : Int) == 46) = false := nb 46 (by decide) (by rw [c1]; decide)
          have e2 : ((c.toNat : Int) == 59) = true := yb 59 (by decide) c1
          clear c1 hgo
          go_wp2
          go_ret
          exact ⟨by rw [← HG.out]; rfl, rfl⟩
        · have e1 : ((c.toNat : Int) == 46) = false := nb 46 (by decide) (by rw [c1]; decide)
          have e2 : ((c.toNat : Int) == 59) = false := nb 59 (by decide) (by rw [c1]; decide)
          have e3 : ((c.toNat : Int) == 91) = true := yb 91 (by decide) c1
          clear c1 hgo
          go_wp2
          go_ret
          exact ⟨by rw [← HG.out]; rfl, rfl⟩
      · rw [cls, if_neg c1] at hgo
        simp only [not_or] at c1
        have e1 : ((c.toNat : Int) == 46) = false := nb 46 (by decide) c1.1
        have e2 : ((c.toNat : Int) == 59) = false := nb 59 (by decide) c1.2.1
        have e3 : ((c.toNat : Int) == 91) = false := nb 91 (by decide) c1.2.2
        clear c1
        by_cases c2 : c = 47
        · have e4 : ((c.toNat : Int) == 47) = true := yb 47 (by decide) c2
          rw [if_pos c2] at hgo
          by_cases hn0 : n = 0
          · have e5 : ((n : Int) == 0) = true := by rw [hn0]; rfl
            rw [if_pos hn0] at hgo
            have HG := Hid.mk' hgo
            clear hn0 hgo c2
            go_wp2
            go_ret
            exact ⟨by rw [← HG.out]; rfl, rfl⟩
          · have e5 : ((n : Int) == 0) = false := beq_eq_false_iff_ne.2 (by omega)
            rw [if_neg hn0] at hgo
            have HG := Hid.mk' hgo
            clear hn0 hgo c2
            go_wp2
            go_round
            case rel => exact ⟨0, k + 1, by omega, by omega, rfl, by go_num, HG.out⟩
            case measure => simp [intOf]; omega
        · have e4 : ((c.toNat : Int) == 47) = false := nb 47 (by decide) c2
          rw [if_neg c2] at hgo
          have HG := Hid.mk' hgo
          clear hgo c2
          go_wp2
          go_round
          case rel => exact ⟨n + 1, k + 1, by omega, by omega, by go_num, by go_num, HG.out⟩
          case measure => simp [intOf]; omega
    · have hlt' : ¬ (k : Int) < (s.size : Int) := by omega
      have hgo := HW.out
      rw [HN.out k (by omega), cls] at hgo
      have HG := Hid.mk' hgo
      clear hgo
      go_wp2
      go_ret
      exact ⟨by rw [← HG.out]; rfl, rfl⟩
end Go.Proofs.Qxb6605465aDoor
