import Derived.Test.Qxb6600587aDoorWj
namespace Go.Proofs.Qxb6600587aDoor
open Go.RowKit Go.Shelf
set_option linter.unusedVariables false

theorem wait_no (a : Option Addr) (n c : Nat) (l : List UInt8) (eof : Bool) (hlen : n = l.length) (hw : (eof = true → l.length ≠ 0) ∧ (eof = false → ¬ NoC l)) :
    ∀ (a' : Option Addr) (w2 : World), Sl w2 a' n n l → Calls Tryd.prog 9 #[.slice a' n n, .bool eof] w2 fun e w' => e = .returned (.bool false) ∧ w' = w2 := fun a' w2 h2 => by
  cases eof
  · exact wait_more a' n n l false w2 h2 ⟨fun h => (by cases h), fun h => absurd h (hw.2 rfl)⟩
  · have hz : n ≠ 0 := by rw [hlen]; exact hw.1 rfl
    refine (wait_eof a' n n w2).mono fun e w' ⟨h1, h2⟩ => ⟨?_, h2⟩
    rw [h1]
    exact ret_bool (beq_eq_false_iff_ne.2 (by omega))

set_option maxHeartbeats 1000000 in
theorem law1_lf (a : Option Addr) (n c k : Nat) (l : List UInt8) (eof : Bool) (w : World) (hs : Sl w a n c l) (hL : Libs w) (hnil : a = none → c = 0) (hcut : cutOf l eof = some (k + 1, k)) (hno : NoB l k)
    (h1 : l[k]? = some 10) :
    Calls Tryd.prog 3 #[.slice a n c, .bool eof] w fun e w' => e = .returned (.bool true) ∧ Below w.heap.size w w' := by
  have hn := hs.small
  have hn' : ¬ (65536 : Int) < (n : Int) := by omega
  have hw := some_wait hcut
  have hlen := hs.len
  have HC : Hid (cutOf l eof = some (k + 1, k)) := hcut
  have HN : Hid (NoB l k) := hno
  have hq := eqnil
  clear hcut hno
  have hkn : k < n := by rw [hlen]; exact (List.getElem?_eq_some_iff.1 h1).1
  have hkn' : (k : Int) < (n : Int) := by omega
  have H9 : Hid (∀ (a' : Option Addr) (w2 : World), Sl w2 a' n n l → Calls Tryd.prog 9 #[.slice a' n n, .bool eof] w2 fun e w' => e = .returned (.bool false) ∧ w' = w2) := wait_no a n c l eof hlen hw
  clear hw
  have HL : Hid (n = l.length) := hlen
  clear hlen
  go_enter Tryd.func3, Tryd.ntmps3
  go_wp2_with (go_at_call 6; refine (bytes6_yes _ _ _ _ _ (by omega)).mono ?_; rintro e w' ⟨rfl, hw⟩; rw [hw]; clear hw w')
  refine (clone_any a n c l _ hs hnil).mono ?_
  rintro e w1 ⟨a', rfl, hs1, hb1⟩
  go_wp2_with fail
  have h8 := zz_any a' n n l eof w1 hs1 (hL.below hb1)
  rw [HC.out] at h8
  refine h8.mono ?_
  clear h8
  rintro e w2 ⟨rfl, hb2⟩
  simp only [cutV]
  go_wp2_with fail
  refine (H9.out a' w2 (hs1.below hb2)).mono ?_
  rintro e w3 ⟨rfl, rfl⟩
  have hs2 := hs1.below hb2
  have HB : Hid (Below w.heap.size w w3) := hb1.trans (hb2.mono hb1.size)
  clear hs1 hb1 hb2 hL hs H9 hnil
  obtain ⟨b, off, rfl, hx, hc⟩ := hs2.at_ (by omega)
  have HCe : Hid (∀ i y, l[i]? = some y → w3.cell? ⟨b, off + i, none⟩ = some (.int .u8 (y.toNat : Int))) := hc
  clear hc hs2
  have c1 : w3.cell? ⟨b, off + k, none⟩ = some (.int .u8 10) := HCe.out k 10 h1
  clear h1
  go_wp2
  go_loop [10] (fun s10 => ∃ j : Nat, j ≤ k ∧ s10 = .int .i64 j) (fun s10 => k - (intOf s10).toNat)
  case atStart => exact ⟨0, Nat.zero_le _, rfl⟩
  case round =>
    obtain ⟨j, hj, rfl⟩ := hrel
    by_cases hlt : j < k
    · have hlt' : (j : Int) < (k : Int) := by omega
      obtain ⟨x, hxl⟩ : ∃ x : UInt8, l[j]? = some x := ⟨_, List.getElem?_eq_getElem (by rw [← HL.out]; omega)⟩
      have hcell := HCe.out j x hxl
      have hxB := HN.out j x hlt hxl
      have e13 := ne13 (x := x) (fun e => by rw [e] at hxB; simp [isB] at hxB)
      have e10 := ne10 (x := x) (fun e => by rw [e] at hxB; simp [isB] at hxB)
      have hjn : (j : Int) < (n : Int) := by omega
      clear hxB hxl
      go_wp2
      go_round
      case rel => exact ⟨j + 1, by omega, by go_num⟩
      case measure => simp [intOf]; omega
    · have hlt' : ¬ (j : Int) < (k : Int) := by omega
      obtain rfl : j = k := by omega
      go_wp2
      go_ret
      exact ⟨rfl, HB.out⟩

set_option maxHeartbeats 1000000 in
theorem law1_crlf (a : Option Addr) (n c k : Nat) (l : List UInt8) (eof : Bool) (w : World) (hs : Sl w a n c l) (hL : Libs w) (hnil : a = none → c = 0) (hcut : cutOf l eof = some (k + 2, k)) (hno : NoB l k)
    (h1 : l[k]? = some 13) (h2 : l[k + 1]? = some 10) :
    Calls Tryd.prog 3 #[.slice a n c, .bool eof] w fun e w' => e = .returned (.bool true) ∧ Below w.heap.size w w' := by
  have hn := hs.small
  have hn' : ¬ (65536 : Int) < (n : Int) := by omega
  have hw := some_wait hcut
  have hlen := hs.len
  have HC : Hid (cutOf l eof = some (k + 2, k)) := hcut
  have HN : Hid (NoB l k) := hno
  have hq := eqnil
  clear hcut hno
  have hkn : k < n := by rw [hlen]; exact (List.getElem?_eq_some_iff.1 h1).1
  have hkn' : (k : Int) < (n : Int) := by omega
  have hk2 : k + 1 < n := by rw [hlen]; exact (List.getElem?_eq_some_iff.1 h2).1
  have hk2' : (k : Int) + 1 < (n : Int) := by omega
  have H9 : Hid (∀ (a' : Option Addr) (w2 : World), Sl w2 a' n n l → Calls Tryd.prog 9 #[.slice a' n n, .bool eof] w2 fun e w' => e = .returned (.bool false) ∧ w' = w2) := wait_no a n c l eof hlen hw
  clear hw
  have HL : Hid (n = l.length) := hlen
  clear hlen
  go_enter Tryd.func3, Tryd.ntmps3
  go_wp2_with (go_at_call 6; refine (bytes6_yes _ _ _ _ _ (by omega)).mono ?_; rintro e w' ⟨rfl, hw⟩; rw [hw]; clear hw w')
  refine (clone_any a n c l _ hs hnil).mono ?_
  rintro e w1 ⟨a', rfl, hs1, hb1⟩
  go_wp2_with fail
  have h8 := zz_any a' n n l eof w1 hs1 (hL.below hb1)
  rw [HC.out] at h8
  refine h8.mono ?_
  clear h8
  rintro e w2 ⟨rfl, hb2⟩
  simp only [cutV]
  go_wp2_with fail
  refine (H9.out a' w2 (hs1.below hb2)).mono ?_
  rintro e w3 ⟨rfl, rfl⟩
  have hs2 := hs1.below hb2
  have HB : Hid (Below w.heap.size w w3) := hb1.trans (hb2.mono hb1.size)
  clear hs1 hb1 hb2 hL hs H9 hnil
  obtain ⟨b, off, rfl, hx, hc⟩ := hs2.at_ (by omega)
  have HCe : Hid (∀ i y, l[i]? = some y → w3.cell? ⟨b, off + i, none⟩ = some (.int .u8 (y.toNat : Int))) := hc
  clear hc hs2
  have c1 : w3.cell? ⟨b, off + k, none⟩ = some (.int .u8 13) := HCe.out k 13 h1
  have c2 : w3.cell? ⟨b, off + (k + 1), none⟩ = some (.int .u8 10) := HCe.out (k + 1) 10 h2
  clear h1 h2
  go_wp2
  go_loop [10] (fun s10 => ∃ j : Nat, j ≤ k ∧ s10 = .int .i64 j) (fun s10 => k - (intOf s10).toNat)
  case atStart => exact ⟨0, Nat.zero_le _, rfl⟩
  case round =>
    obtain ⟨j, hj, rfl⟩ := hrel
    by_cases hlt : j < k
    · have hlt' : (j : Int) < (k : Int) := by omega
      obtain ⟨x, hxl⟩ : ∃ x : UInt8, l[j]? = some x := ⟨_, List.getElem?_eq_getElem (by rw [← HL.out]; omega)⟩
      have hcell := HCe.out j x hxl
      have hxB := HN.out j x hlt hxl
      have e13 := ne13 (x := x) (fun e => by rw [e] at hxB; simp [isB] at hxB)
      have e10 := ne10 (x := x) (fun e => by rw [e] at hxB; simp [isB] at hxB)
      have hjn : (j : Int) < (n : Int) := by omega
      clear hxB hxl
      go_wp2
      go_round
      case rel => exact ⟨j + 1, by omega, by go_num⟩
      case measure => simp [intOf]; omega
    · have hlt' : ¬ (j : Int) < (k : Int) := by omega
      obtain rfl : j = k := by omega
      go_wp2
      go_ret
      exact ⟨rfl, HB.out⟩

set_option maxHeartbeats 1000000 in
theorem law1_cr (a : Option Addr) (n c k : Nat) (l : List UInt8) (eof : Bool) (w : World) (hs : Sl w a n c l) (hL : Libs w) (hnil : a = none → c = 0) (hcut : cutOf l eof = some (k + 1, k)) (hno : NoB l k)
    (h1 : l[k]? = some 13) (y : UInt8) (h2 : l[k + 1]? = some y) (hy : y ≠ 10) :
    Calls Tryd.prog 3 #[.slice a n c, .bool eof] w fun e w' => e = .returned (.bool true) ∧ Below w.heap.size w w' := by
  have hn := hs.small
  have hn' : ¬ (65536 : Int) < (n : Int) := by omega
  have hw := some_wait hcut
  have hlen := hs.len
  have HC : Hid (cutOf l eof = some (k + 1, k)) := hcut
  have HN : Hid (NoB l k) := hno
  have hq := eqnil
  clear hcut hno
  have hkn : k < n := by rw [hlen]; exact (List.getElem?_eq_some_iff.1 h1).1
  have hkn' : (k : Int) < (n : Int) := by omega
  have hk2 : k + 1 < n := by rw [hlen]; exact (List.getElem?_eq_some_iff.1 h2).1
  have hk2' : (k : Int) + 1 < (n : Int) := by omega
  have H9 : Hid (∀ (a' : Option Addr) (w2 : World), Sl w2 a' n n l → Calls Tryd.prog 9 #[.slice a' n n, .bool eof] w2 fun e w' => e = .returned (.bool false) ∧ w' = w2) := wait_no a n c l eof hlen hw
  clear hw
  have HL : Hid (n = l.length) := hlen
  clear hlen
  go_enter Tryd.func3, Tryd.ntmps3
  go_wp2_with (go_at_call 6; refine (bytes6_yes _ _ _ _ _ (by omega)).mono ?_; rintro e w' ⟨rfl, hw⟩; rw [hw]; clear hw w')
  refine (clone_any a n c l _ hs hnil).mono ?_
  rintro e w1 ⟨a', rfl, hs1, hb1⟩
  go_wp2_with fail
  have h8 := zz_any a' n n l eof w1 hs1 (hL.below hb1)
  rw [HC.out] at h8
  refine h8.mono ?_
  clear h8
  rintro e w2 ⟨rfl, hb2⟩
  simp only [cutV]
  go_wp2_with fail
  refine (H9.out a' w2 (hs1.below hb2)).mono ?_
  rintro e w3 ⟨rfl, rfl⟩
  have hs2 := hs1.below hb2
  have HB : Hid (Below w.heap.size w w3) := hb1.trans (hb2.mono hb1.size)
  clear hs1 hb1 hb2 hL hs H9 hnil
  obtain ⟨b, off, rfl, hx, hc⟩ := hs2.at_ (by omega)
  have HCe : Hid (∀ i y, l[i]? = some y → w3.cell? ⟨b, off + i, none⟩ = some (.int .u8 (y.toNat : Int))) := hc
  clear hc hs2
  have c1 : w3.cell? ⟨b, off + k, none⟩ = some (.int .u8 13) := HCe.out k 13 h1
  have c2 : w3.cell? ⟨b, off + (k + 1), none⟩ = some (.int .u8 (y.toNat : Int)) := HCe.out (k + 1) y h2
  have y10 : ((y.toNat : Int) != 10) = true := by simpa using ne10 hy
  clear h1 h2 hy
  go_wp2
  go_loop [10] (fun s10 => ∃ j : Nat, j ≤ k ∧ s10 = .int .i64 j) (fun s10 => k - (intOf s10).toNat)
  case atStart => exact ⟨0, Nat.zero_le _, rfl⟩
  case round =>
    obtain ⟨j, hj, rfl⟩ := hrel
    by_cases hlt : j < k
    · have hlt' : (j : Int) < (k : Int) := by omega
      obtain ⟨x, hxl⟩ : ∃ x : UInt8, l[j]? = some x := ⟨_, List.getElem?_eq_getElem (by rw [← HL.out]; omega)⟩
      have hcell := HCe.out j x hxl
      have hxB := HN.out j x hlt hxl
      have e13 := ne13 (x := x) (fun e => by rw [e] at hxB; simp [isB] at hxB)
      have e10 := ne10 (x := x) (fun e => by rw [e] at hxB; simp [isB] at hxB)
      have hjn : (j : Int) < (n : Int) := by omega
      clear hxB hxl
      go_wp2
      go_round
      case rel => exact ⟨j + 1, by omega, by go_num⟩
      case measure => simp [intOf]; omega
    · have hlt' : ¬ (j : Int) < (k : Int) := by omega
      obtain rfl : j = k := by omega
      go_wp2
      go_ret
      exact ⟨rfl, HB.out⟩

set_option maxHeartbeats 1000000 in
theorem law1_cr_end (a : Option Addr) (n c k : Nat) (l : List UInt8) (w : World) (hs : Sl w a n c l) (hL : Libs w) (hnil : a = none → c = 0) (hcut : cutOf l true = some (k + 1, k)) (hno : NoB l k)
    (h1 : l[k]? = some 13) (h2 : k + 1 = l.length) :
    Calls Tryd.prog 3 #[.slice a n c, .bool true] w fun e w' => e = .returned (.bool true) ∧ Below w.heap.size w w' := by
  have hn := hs.small
  have hn' : ¬ (65536 : Int) < (n : Int) := by omega
  have hw := some_wait hcut
  have hlen := hs.len
  have HC : Hid (cutOf l true = some (k + 1, k)) := hcut
  have HN : Hid (NoB l k) := hno
  have hq := eqnil
  clear hcut hno
  have hkn : k < n := by rw [hlen]; exact (List.getElem?_eq_some_iff.1 h1).1
  have hkn' : (k : Int) < (n : Int) := by omega
  have hk2 : n = k + 1 := by omega
  have hk2' : ¬ (k : Int) + 1 < (n : Int) := by omega
  clear hk2 h2
  have H9 : Hid (∀ (a' : Option Addr) (w2 : World), Sl w2 a' n n l → Calls Tryd.prog 9 #[.slice a' n n, .bool true] w2 fun e w' => e = .returned (.bool false) ∧ w' = w2) := wait_no a n c l true hlen hw
  clear hw
  have HL : Hid (n = l.length) := hlen
  clear hlen
  go_enter Tryd.func3, Tryd.ntmps3
  go_wp2_with (go_at_call 6; refine (bytes6_yes _ _ _ _ _ (by omega)).mono ?_; rintro e w' ⟨rfl, hw⟩; rw [hw]; clear hw w')
  refine (clone_any a n c l _ hs hnil).mono ?_
  rintro e w1 ⟨a', rfl, hs1, hb1⟩
  go_wp2_with fail
  have h8 := zz_any a' n n l true w1 hs1 (hL.below hb1)
  rw [HC.out] at h8
  refine h8.mono ?_
  clear h8
  rintro e w2 ⟨rfl, hb2⟩
  simp only [cutV]
  go_wp2_with fail
  refine (H9.out a' w2 (hs1.below hb2)).mono ?_
  rintro e w3 ⟨rfl, rfl⟩
  have hs2 := hs1.below hb2
  have HB : Hid (Below w.heap.size w w3) := hb1.trans (hb2.mono hb1.size)
  clear hs1 hb1 hb2 hL hs H9 hnil
  obtain ⟨b, off, rfl, hx, hc⟩ := hs2.at_ (by omega)
  have HCe : Hid (∀ i y, l[i]? = some y → w3.cell? ⟨b, off + i, none⟩ = some (.int .u8 (y.toNat : Int))) := hc
  clear hc hs2
  have c1 : w3.cell? ⟨b, off + k, none⟩ = some (.int .u8 13) := HCe.out k 13 h1
  clear h1
  go_wp2
  go_loop [10] (fun s10 => ∃ j : Nat, j ≤ k ∧ s10 = .int .i64 j) (fun s10 => k - (intOf s10).toNat)
  case atStart => exact ⟨0, Nat.zero_le _, rfl⟩
  case round =>
    obtain ⟨j, hj, rfl⟩ := hrel
    by_cases hlt : j < k
    · have hlt' : (j : Int) < (k : Int) := by omega
      obtain ⟨x, hxl⟩ : ∃ x : UInt8, l[j]? = some x := ⟨_, List.getElem?_eq_getElem (by rw [← HL.out]; omega)⟩
      have hcell := HCe.out j x hxl
      have hxB := HN.out j x hlt hxl
      have e13 := ne13 (x := x) (fun e => by rw [e] at hxB; simp [isB] at hxB)
      have e10 := ne10 (x := x) (fun e => by rw [e] at hxB; simp [isB] at hxB)
      have hjn : (j : Int) < (n : Int) := by omega
      clear hxB hxl
      go_wp2
      go_round
      case rel => exact ⟨j + 1, by omega, by go_num⟩
      case measure => simp [intOf]; omega
    · have hlt' : ¬ (j : Int) < (k : Int) := by omega
      obtain rfl : j = k := by omega
      go_wp2
      go_ret
      exact ⟨rfl, HB.out⟩

set_option maxHeartbeats 1000000 in
theorem law1_all (a : Option Addr) (n c : Nat) (l : List UInt8) (w : World) (hs : Sl w a n c l) (hL : Libs w) (hnil : a = none → c = 0) (hcut : cutOf l true = some (n, n)) (hno : NoB l n)
    (h0 : 0 < l.length) :
    Calls Tryd.prog 3 #[.slice a n c, .bool true] w fun e w' => e = .returned (.bool true) ∧ Below w.heap.size w w' := by
  have hn := hs.small
  have hn' : ¬ (65536 : Int) < (n : Int) := by omega
  have hw := some_wait hcut
  have hlen := hs.len
  have HC : Hid (cutOf l true = some (n, n)) := hcut
  have HN : Hid (NoB l n) := hno
  have hq := eqnil
  clear hcut hno
  have hk0 : (0 : Int) < (n : Int) := by omega
  clear h0
  have H9 : Hid (∀ (a' : Option Addr) (w2 : World), Sl w2 a' n n l → Calls Tryd.prog 9 #[.slice a' n n, .bool true] w2 fun e w' => e = .returned (.bool false) ∧ w' = w2) := wait_no a n c l true hlen hw
  clear hw
  have HL : Hid (n = l.length) := hlen
  clear hlen
  go_enter Tryd.func3, Tryd.ntmps3
  go_wp2_with (go_at_call 6; refine (bytes6_yes _ _ _ _ _ (by omega)).mono ?_; rintro e w' ⟨rfl, hw⟩; rw [hw]; clear hw w')
  refine (clone_any a n c l _ hs hnil).mono ?_
  rintro e w1 ⟨a', rfl, hs1, hb1⟩
  go_wp2_with fail
  have h8 := zz_any a' n n l true w1 hs1 (hL.below hb1)
  rw [HC.out] at h8
  refine h8.mono ?_
  clear h8
  rintro e w2 ⟨rfl, hb2⟩
  simp only [cutV]
  go_wp2_with fail
  refine (H9.out a' w2 (hs1.below hb2)).mono ?_
  rintro e w3 ⟨rfl, rfl⟩
  have hs2 := hs1.below hb2
  have HB : Hid (Below w.heap.size w w3) := hb1.trans (hb2.mono hb1.size)
  clear hs1 hb1 hb2 hL hs H9 hnil
  obtain ⟨b, off, rfl, hx, hc⟩ := hs2.at_ (by omega)
  have HCe : Hid (∀ i y, l[i]? = some y → w3.cell? ⟨b, off + i, none⟩ = some (.int .u8 (y.toNat : Int))) := hc
  clear hc hs2
  skip
  go_wp2
  go_loop [10] (fun s10 => ∃ j : Nat, j ≤ n ∧ s10 = .int .i64 j) (fun s10 => n - (intOf s10).toNat)
  case atStart => exact ⟨0, Nat.zero_le _, rfl⟩
  case round =>
    obtain ⟨j, hj, rfl⟩ := hrel
    by_cases hlt : j < n
    · have hlt' : (j : Int) < (n : Int) := by omega
      obtain ⟨x, hxl⟩ : ∃ x : UInt8, l[j]? = some x := ⟨_, List.getElem?_eq_getElem (by rw [← HL.out]; omega)⟩
      have hcell := HCe.out j x hxl
      have hxB := HN.out j x hlt hxl
      have e13 := ne13 (x := x) (fun e => by rw [e] at hxB; simp [isB] at hxB)
      have e10 := ne10 (x := x) (fun e => by rw [e] at hxB; simp [isB] at hxB)
      clear hxB hxl
      go_wp2
      go_round
      case rel => exact ⟨j + 1, by omega, by go_num⟩
      case measure => simp [intOf]; omega
    · have hlt' : ¬ (j : Int) < (n : Int) := by omega
      have hjn : j = n := by omega
      subst hjn
      go_wp2
      go_ret
      exact ⟨rfl, HB.out⟩

end Go.Proofs.Qxb6600587aDoor
