import Derived.Test.Qxb6600587aDoorFr
import Derived.Test.Qxb6600587aDoorWn
namespace Go.Proofs.Qxb6600587aDoor
open Go.ChangeShapes Go.WideShapes Go.ChangeAt Go.RowKit Go.Lib
set_option linter.unusedVariables false

theorem law2_any (a : Option Addr) (n c : Nat) (l : List UInt8) (w : World) (hlen : n = l.length) (hcap : n ≤ c) (hnil : a = none → c = 0) (hL : Libs w)
    (hat : n ≠ 0 → ∃ b off, a = some ⟨b, off, none⟩ ∧ b < w.heap.size ∧ ∀ i y, l[i]? = some y → w.cell? ⟨b, off + i, none⟩ = some (.int .u8 (y.toNat : Int))) :
    Calls Tryd.prog 4 #[.slice a n c] w fun e w' => e = .returned (.bool true) ∧ Below w.heap.size w w' := by
  by_cases hbig : 65536 < n
  · exact (law2_big a n c w hbig).mono fun e w' ⟨h1, h2⟩ => ⟨h1, h2 ▸ Below.refl _ _⟩
  have hs : Sl w a n c l := ⟨hlen, by omega, hcap, hat⟩
  by_cases h0 : n = 0
  · subst h0
    exact law2_zero a c w hL hnil
  · exact law2_pos a n c l w (by omega) hs hL hnil

set_option maxRecDepth 100000 in
theorem lifted2 (os : Os) (started : os.Started) (H : Type) (enc : TypeId × Value → H) :
    ReturnsInHanded {} Tryd.checked os 4 .any (fun w args => (Rows.fnCutLineAtEOFSplitsWholeStreamSpec.pre enc Tryd.prog Tryd.f4 [] false w args ∧ laidMetH Tryd.prog laidL w) ∧ sizedMet enc Tryd.prog Tryd.f4 (OpenSpec.ofChange Rows.fnCutLineAtEOFSplitsWholeStreamSpec) false w args)
      (Rows.fnCutLineAtEOFSplitsWholeStreamSpec.post enc Tryd.prog Tryd.f4 false true false false) := by
  refine returns_laid_shaped (C := Tryd.checked) (X := fun w _ => laidMetH Tryd.prog laidL w) (fun _ _ _ hh h => h.of_heap hh) own started (by kernel_rfl) Tryd.func4
    (ChangeSpec.witness_shaped (enc := enc) (C := Tryd.checked) (os := os) (X := fun w _ => laidMetH Tryd.prog laidL w) false
      { World.doorLaid Tryd.prog 400 os with heap := (World.doorLaid Tryd.prog 400 os).heap.modify 1 fun | .cells _ t frozen => .cells (firstTab.map (Value.int .u8)).toArray t frozen | o => o }
      #[.slice none 0 0] 8 rfl (World.shaped_of_RefB (by kernel_rfl) (by kernel_rfl)) (by kernel_rfl) (by kernel_rfl) (by kernel_rfl)
      (laidMetH_of_parts3 (fuel := 8) (laidMet_of_run' 8 (by kernel_rfl) (by kernel_rfl)) (by kernel_rfl) (by kernel_rfl))) ?_
  intro W base args ds gs before hval0 hW hL hsh
  have hval : ∀ (j : Nat) t v, Tryd.f4.params[j]? = some t → args[j]? = some v → Value.okWide Tryd.prog W .any base t v := hval0
  have hW' := hW
  obtain ⟨p, q, hA0, hV, rfl, hfz, hnd⟩ := hW
  have hA : DataW.TrodAll enc Tryd.prog W 0 (fun _ => true) true Tryd.f4.params.toList args.toList ds p := hA0
  rw [Tryd.params4] at hA hval
  obtain ⟨v0, vs0, d0, ds0, p0, q0, hargs, rfl, rfl, h0, r0⟩ := trodAll_cons hA
  obtain ⟨rfl, rfl, rfl⟩ := trodAll_nil r0
  obtain rfl : args = #[v0] := by cases args; simp_all
  obtain ⟨rfl, rfl⟩ := trodVars_none hV
  obtain ⟨a0, len0, cap0, rfl⟩ := okWide_slice Tryd.underlying22 (hval 0 22 v0 rfl rfl)
  have k0 := h0
  have lt0 : ∀ x ∈ p0, x.block < W.heap.size := by obtain ⟨m, hm⟩ := k0; exact DataW.trod_lt m _ _ _ hm
  obtain ⟨l, hlen, hcap, _, hnil, hat⟩ := row_of h0
  clear hA0 hval0
  refine (law2_any a0 len0 cap0 l W hlen hcap hnil (libs_of hsh hL) hat).mono fun e W' ⟨he, bel⟩ => ?_
  subst he
  exact ⟨_, rfl, _, _, _, [], _, [], hW', trodAll_mk1 (shut_bool Tryd.underlying4 _), (trodAll_cons_mk (Below.trod laidOut (by kernel_rfl) (of_decide_eq_true (by kernel_rfl)) k0 bel lt0) trodAll_mk0), rfl, bel.frame _, fun h => by cases h⟩

theorem said2 : Rows.FnCutLineAtEOFSplitsWholeStreamSaid :=
  OpenClaim.holds_of_wide 4 Tryd.f4 rfl rfl rfl rfl rfl rfl rfl ⟨rfl, rfl, rfl, rfl, rfl⟩ rfl rfl rfl rfl rfl (by kernel_rfl) Tryd.func4 (by kernel_rfl)
    (of_decide_eq_true (by kernel_rfl)) (by unfold Func.isWrapper; rw [if_neg (of_decide_eq_false (by kernel_rfl))]; exact ⟨rfl, rfl⟩)
    (fun os started H enc _ => lifted2 os started H enc)

/-- THE TIED CARD. -/
theorem card2 : Rows.FnCutLineAtEOFSplitsWholeStreamCardSaid :=
  Claim7.holds_tied_plain_at .later [] [.data, .pinned] true Rows.fnCutLineAtEOFSplitsWholeStreamCard.stood.harness false
    said2 (fun _ h => by cases h) (by kernel_rfl) (fun _ h => by cases h) fnCutLineAtEOFSplitsWholeStream_row_tie rfl ⟨rfl, rfl⟩ (by kernel_rfl) rfl
    (fun f fn hf hfn => by
      obtain rfl : f = 4 := Option.some.inj ((show Tryd.prog.funcNamed Rows.fnCutLineAtEOFSplitsWholeStreamRow.func = some 4 by kernel_rfl).symm.trans hf) |>.symm
      obtain rfl : fn = Tryd.f4 := (Option.some.inj (Tryd.func4.symm.trans hfn)).symm
      exact ⟨by kernel_rfl, fun j t ht => by
        rw [Tryd.params4] at ht
        have hm : t ∈ [22] := by simpa using Array.mem_of_getElem? ht
        have hall : ([22].all fun u => !Tryd.prog.wantsStandIn u) = true := by kernel_rfl
        exact (show Tryd.prog.wantsStandIn t = false by simpa using List.all_eq_true.1 hall t hm)⟩)
    (by kernel_rfl)
end Go.Proofs.Qxb6600587aDoor
