import Derived.Test.Qxb6605443aDoorFr
import Derived.Test.Qxb6605443aDoorWl
import Derived.Deep.SlicePairs
namespace Go.Proofs.Qxb6605443aDoor
open Go.ChangeShapes Go.WideShapes Go.ChangeAt Go.RowKit Go.Lib
set_option linter.unusedVariables false
set_option linter.unusedSimpArgs false

theorem cells30 : Tryd.prog.cellsOf 30 = 2 := by kernel_rfl
theorem cells9 : Tryd.prog.cellsOf 9 = 1 := by kernel_rfl

/-- the headers' argument, opened. -/
theorem hdr_of {H : Type} {enc : TypeId × Value → H} {W : World} {a0 : Option Addr} {len cap : Nat} {d : DataW H} {p : List MemPlace}
    (h0 : DataW.Trod enc Tryd.prog W 0 (fun _ => true) true 22 (Value.slice a0 len cap) d p) :
    ∃ (hs : List (ByteArray × ByteArray)), len = hs.length ∧ InForm a0 cap hs ∧ Hdr W.heap.size W a0 hs := by
  obtain ⟨fuel, hf⟩ := h0
  rcases Deep.open_slice Tryd.underlying22 hf with ⟨hcs, _⟩ | ⟨a, len', cap', m, n, D, Pl, hcs, _, hl, _, hm, _, hx⟩
  · simp [Value.cells] at hcs
    obtain ⟨rfl, rfl, rfl⟩ := hcs
    exact ⟨[], rfl, Or.inl ⟨rfl, rfl, rfl⟩, ⟨fun i h hh => by simp at hh⟩⟩
  · simp [Value.cells] at hcs
    obtain ⟨rfl, rfl, rfl⟩ := hcs
    simp only [if_true] at hm
    subst hm
    rw [cells30] at hx
    have each : ∀ i, i < m → ∃ q : ByteArray × ByteArray, W.cell? (a.add (i * 2)) = some (.string q.1) ∧ W.cell? ((a.add (i * 2)).add 1) = some (.string q.2) := fun i hi => by
      obtain ⟨cs', h1, h2⟩ := hx i hi
      obtain ⟨_, hlen, hcell⟩ := World.cells?_some h1
      obtain ⟨xs, k, _, _, _, hxl, hf⟩ := DataW.trod_array Tryd.underlying30 h2
      match cs', hlen with
      | [v0, v1], _ =>
        have g0 := hf 0 (by omega)
        have g1 := hf 1 (by omega)
        rw [cells9, List.getElem?_eq_getElem (by omega)] at g0 g1
        simp only [Nat.zero_mul, List.drop_zero, Nat.one_mul, List.take_succ_cons, List.take_zero, List.drop_succ_cons] at g0 g1
        obtain ⟨s0, e0, _⟩ := DataW.trod_string Tryd.underlying9 g0
        obtain ⟨s1, e1, _⟩ := DataW.trod_string Tryd.underlying9 g1
        simp at e0 e1
        subst e0 e1
        have c0 := hcell 0 (by omega)
        have c1 := hcell 1 (by omega)
        refine ⟨(s0, s1), ?_, ?_⟩
        · simpa [Addr.add] using c0
        · simpa using c1
    by_cases h0 : len = 0
    · subst h0
      exact ⟨[], rfl, Or.inr (Or.inr ⟨rfl, a, rfl⟩), ⟨fun i h hh => by simp at hh⟩⟩
    · obtain ⟨q, hq⟩ := Deep.choose_lt each
      obtain ⟨b, off, spot⟩ := a
      have hsp : spot = none := by
        have := World.cell?_spot (hq 0 (by omega)).1
        simpa [Addr.add] using this
      subst hsp
      refine ⟨(List.range len).map q, by simp, Or.inr (Or.inl ⟨b, off, rfl⟩), ⟨fun i h hh => ?_⟩⟩
      have hil : i < len := by
        have := (List.getElem?_eq_some_iff.1 hh).1
        simpa using this
      have hqi := hq i (by omega)
      rw [List.getElem?_map, List.getElem?_range hil] at hh
      obtain rfl := Option.some.inj hh
      rw [add_eq, add_eq] at hqi
      exact ⟨b, off, rfl, pos_of_cell hqi.1, hqi.1, hqi.2⟩
/-- the cookie row's list of laid variables. -/
def laidC : List (String × DataW Unit) := Rows.fnCookieFirstWinsRow.laid
theorem plainC : (laidC.all fun x => x.2.handleName?.isNone) = true := by kernel_rfl
def nmFold : String := (laidC.map (·.1)).getD 1 ""
def nmOrb : String := (laidC.map (·.1)).getD 2 ""
theorem gFold : Tryd.prog.globalNamed nmFold = some 0 := by kernel_rfl
theorem gOrb : Tryd.prog.globalNamed nmOrb = some 1 := by kernel_rfl
theorem yFold : (Tryd.prog.globals[0]?).map (·.type) = some 52 := by kernel_rfl
theorem yOrb : (Tryd.prog.globals[1]?).map (·.type) = some 53 := by kernel_rfl
theorem cells51 : Tryd.prog.cellsOf 51 = 1 := by kernel_rfl
theorem cells52 : Tryd.prog.cellsOf 52 = 128 := by kernel_rfl
theorem cells55 : Tryd.prog.cellsOf 55 = 2 := by kernel_rfl
def foldTab : List Int := [0, 1, 2, 3, 4, 5, 6, 7, 8, 9, 10, 11, 12, 13, 14, 15, 16, 17, 18, 19, 20, 21, 22, 23, 24, 25, 26, 27, 28, 29, 30, 31, 32, 33, 34, 35, 36, 37, 38, 39, 40, 41, 42, 43, 44, 45, 46, 47, 48, 49, 50, 51, 52, 53, 54, 55, 56, 57, 58, 59, 60, 61, 62, 63, 64, 97, 98, 99, 100, 101, 102, 103, 104, 105, 106, 107, 108, 109, 110, 111, 112, 113, 114, 115, 116, 117, 118, 119, 120, 121, 122, 91, 92, 93, 94, 95, 96, 65, 66, 67, 68, 69, 70, 71, 72, 73, 74, 8490, 76, 77, 78, 79, 80, 81, 82, 383, 84, 85, 86, 87, 88, 89, 90, 123, 124, 125, 126, 127]
theorem foldEq : (Rows.laid_unicode_asciiFold : DataW Unit) = Lib.tabData .u16 foldTab := by kernel_rfl
def orbTab : List (Nat × Nat) := [(75, 107), (83, 115), (107, 8490), (115, 383), (181, 924), (197, 229), (223, 7838), (229, 8491), (304, 304), (305, 305), (383, 83), (452, 453), (453, 454), (454, 452), (455, 456), (456, 457), (457, 455), (458, 459), (459, 460), (460, 458), (497, 498), (498, 499), (499, 497), (837, 921), (912, 8147), (914, 946), (917, 949), (920, 952), (921, 953), (922, 954), (924, 956), (928, 960), (929, 961), (931, 962), (934, 966), (937, 969), (944, 8163), (946, 976), (949, 1013), (952, 977), (953, 8126), (954, 1008), (956, 181), (960, 982), (961, 1009), (962, 963), (963, 931), (966, 981), (969, 8486), (976, 914), (977, 1012), (981, 934), (982, 928), (1008, 922), (1009, 929), (1012, 920), (1013, 917), (1042, 1074), (1044, 1076), (1054, 1086), (1057, 1089), (1058, 1090), (1066, 1098), (1074, 7296), (1076, 7297), (1086, 7298), (1089, 7299), (1090, 7300), (1098, 7302), (1122, 1123), (1123, 7303), (7296, 1042), (7297, 1044), (7298, 1054), (7299, 1057), (7300, 7301), (7301, 1058), (7302, 1066), (7303, 1122), (7304, 42570), (7776, 7777), (7777, 7835), (7835, 7776), (7838, 223), (8126, 837), (8147, 912), (8163, 944), (8486, 937), (8490, 75), (8491, 197), (42570, 42571), (42571, 7304), (64261, 64262), (64262, 64261)]
theorem orb_len : orbTab.length = 94 := by kernel_rfl
theorem orbEq : (Rows.laid_unicode_caseOrbit : DataW Unit) = .slice (orbTab.map fun p => .agg [.lit (.int .u16 (p.1 : Int)), .lit (.int .u16 (p.2 : Int))]) [] := by kernel_rfl
theorem fold_cells {W : World} (h : laidMetH Tryd.prog laidC W) : ∀ c, c < 128 → W.cell? ⟨0, c, none⟩ = some (.int .u16 (foldTab.getD c 0)) := by
  rw [MakeChecks.laidMetH_plain _ _ _ plainC] at h
  have h1 : VarReads Tryd.prog W nmFold Rows.laid_unicode_asciiFold := Lib.laidMet.reads h (List.mem_cons_of_mem _ (List.mem_cons_self ..))
  rw [foldEq] at h1
  intro c hc
  obtain ⟨g, t, cs, fuel, p, hg, hty, hvar, hd⟩ := h1
  obtain rfl := Option.some.inj (gFold.symm.trans hg)
  obtain rfl := Option.some.inj (yFold.symm.trans hty)
  have hcs := Lib.cells_of_tab Tryd.underlying52 Tryd.underlying51 cells51 cells52 hd
  have := World.var?_cell hg hvar c
  rw [this, ← Array.getElem?_toList, hcs]
  have hl : foldTab.length = 128 := by kernel_rfl
  rw [List.getElem?_map, List.getD_eq_getElem?_getD, List.getElem?_eq_getElem (by omega)]
  rfl
theorem orb_cells {W : World} (h : laidMetH Tryd.prog laidC W) : ∃ B o cap, W.cell? ⟨1, 0, none⟩ = some (.slice (some ⟨B, o, none⟩) 94 cap) ∧
    ∀ i (x : Nat × Nat), orbTab[i]? = some x → W.cell? ⟨B, o + i * 2, none⟩ = some (.int .u16 (x.1 : Int)) ∧ W.cell? ⟨B, o + i * 2 + 1, none⟩ = some (.int .u16 (x.2 : Int)) := by
  rw [MakeChecks.laidMetH_plain _ _ _ plainC] at h
  have h1 : VarReads Tryd.prog W nmOrb Rows.laid_unicode_caseOrbit := Lib.laidMet.reads h (List.mem_cons_of_mem _ (List.mem_cons_of_mem _ (List.mem_cons_self ..)))
  rw [orbEq] at h1
  obtain ⟨g, t, cs, fuel, p, hg, hty, hvar, hd⟩ := h1
  obtain rfl := Option.some.inj (gOrb.symm.trans hg)
  obtain rfl := Option.some.inj (yOrb.symm.trans hty)
  rcases Deep.open_slice Tryd.underlying53 hd with ⟨_, hx⟩ | ⟨a, len, cap, m, n, D, Pl, hcs, _, hl, _, hm, hx, hel⟩
  · simp at hx
  · simp only [Prod.mk.injEq, DataW.slice.injEq] at hx
    obtain ⟨⟨hx1, _⟩, _⟩ := hx
    have hlen : len = 94 := by
      have := congrArg List.length hx1
      simp only [List.length_map, List.length_range] at this
      rw [orb_len] at this; omega
    subst hlen
    have hm94 : 94 ≤ m := by rw [hm]; split <;> omega
    have hD : ∀ i x, orbTab[i]? = some x → D i = .agg ([(x.1 : Int), (x.2 : Int)].map fun z => .lit (.int .u16 z)) := fun i x hi => by
      have e := congrArg (·[i]?) hx1
      have hil : i < 94 := by
        have := (List.getElem?_eq_some_iff.1 hi).1
        have hl94 := orb_len
        omega
      simp only [List.getElem?_map, hi, List.getElem?_range hil, Option.map_some] at e
      exact (Option.some.inj e).symm
    rw [cells55] at hel
    have two : ∀ i x, orbTab[i]? = some x → W.cell? (a.add (i * 2)) = some (.int .u16 (x.1 : Int)) ∧ W.cell? ((a.add (i * 2)).add 1) = some (.int .u16 (x.2 : Int)) := fun i x hi => by
      have hil : i < 94 := by
        have := (List.getElem?_eq_some_iff.1 hi).1
        have hl94 := orb_len
        omega
      obtain ⟨cs', h1, h2⟩ := hel i (by omega)
      rw [hD i x hi] at h2
      have hcs := ints_of_struct Tryd.underlying55 (fun j f hj => by
        match j, hj with
        | 0, hj => simp at hj; subst hj; exact ⟨Tryd.underlying51, rfl, cells51⟩
        | 1, hj => simp at hj; subst hj; exact ⟨Tryd.underlying51, rfl, cells51⟩
        | j + 2, hj => simp at hj) (by rw [cells55]; rfl) h2
      obtain ⟨_, _, hcell⟩ := World.cells?_some h1
      have c0 := hcell 0 (by omega)
      have c1 := hcell 1 (by omega)
      rw [hcs] at c0 c1
      exact ⟨by simpa [Addr.add] using c0, by simpa using c1⟩
    obtain ⟨B, o, spot⟩ := a
    have hsp : spot = none := by
      have := World.cell?_spot (two 0 _ rfl).1
      simpa [Addr.add] using this
    subst hsp
    refine ⟨B, o, cap, ?_, fun i x hi => ?_⟩
    · have := World.var?_cell hg hvar 0
      rw [Array.eq_one_of_toList hcs] at this
      simpa using this
    · have := two i x hi
      rw [add_eq, add_eq] at this
      exact this
theorem env_of {W : World} (hsh : W.ShapedOpen Tryd.prog) (h : laidMetH Tryd.prog laidC W) : ∃ B o cp m, CkEnv B o cp m W := by
  obtain ⟨m, hm⟩ := max_of hsh
  obtain ⟨B, o, cp, hs, hc⟩ := orb_cells h
  have hf := fold_cells h
  have h5 := pos_of_cell hm
  refine ⟨B, o, cp, m, ⟨by omega, pos_of_cell (hc 0 _ rfl).1, fun p hp => ?_, hs, fun p hp => ?_⟩, h5, hm⟩
  · simp only [List.mem_cons, List.not_mem_nil, or_false] at hp
    rcases hp with rfl | rfl | rfl | rfl | rfl | rfl | rfl | rfl | rfl | rfl <;> exact hf _ (by decide)
  · simp only [List.mem_cons, List.not_mem_nil, or_false] at hp
    rcases hp with rfl | rfl | rfl | rfl | rfl | rfl | rfl | rfl
    · exact (hc 47 _ rfl).1
    · exact (hc 71 _ rfl).1
    · exact (hc 83 _ rfl).1
    · exact (hc 89 _ rfl).1
    · exact (hc 86 _ rfl).1
    · exact (hc 88 _ rfl).1
    · exact (hc 87 _ rfl).1
    · exact (hc 88 _ rfl).2
end Go.Proofs.Qxb6605443aDoor
