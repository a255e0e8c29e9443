import Derived.Test.Qxb6600587aDoorWj
import Derived.Test.Qxb6600587aDoorTie
import Derived.Test.Qxb6600587aDoorCards
import Derived.ProofKit
import Derived.OpenShut
import Derived.LaidMore
import Derived.HandedShaped
import Derived.Shelf.Vars
import Derived.Lib.LaidU8
import Derived.PinnedBridge
import Derived.MakeChecks
import Derived.SevenTiedAt
namespace Go.Proofs.Qxb6600587aDoor
open Go.ChangeShapes Go.WideShapes Go.ChangeAt Go.RowKit Go.Lib
set_option linter.unusedVariables false

theorem own : ownKnob Tryd.prog.godebug = none := by kernel_rfl
theorem laidOut : laidOutB Tryd.prog = true := by kernel_rfl
/-- the rows' one list of laid variables. -/
def laidL : List (String × DataW Unit) := Rows.fnCutLineAnswersByCaseTableRow.laid
theorem plainL : (laidL.all fun x => x.2.handleName?.isNone) = true := by kernel_rfl
def nmA : String := (laidL.map (·.1)).getD 0 ""
def nmF : String := (laidL.map (·.1)).getD 1 ""
theorem gA : Tryd.prog.globalNamed nmA = some 2 := by kernel_rfl
theorem gF : Tryd.prog.globalNamed nmF = some 1 := by kernel_rfl
theorem yF : (Tryd.prog.globals[1]?).map (·.type) = some 53 := by kernel_rfl
theorem yA : (Tryd.prog.globals[2]?).map (·.type) = some 56 := by kernel_rfl
theorem cells5 : Tryd.prog.cellsOf 5 = 1 := by kernel_rfl
theorem cells53 : Tryd.prog.cellsOf 53 = 256 := by kernel_rfl
theorem cells55 : Tryd.prog.cellsOf 55 = 2 := by kernel_rfl
theorem accEq : (Rows.laid_unicode_utf8_acceptRanges : DataW Unit) = acceptData := by kernel_rfl

/-- the two tables of unicode/utf8, out of the row's condition. -/
theorem tabs_of {W : World} (h : laidMetH Tryd.prog laidL W) : Lib.Utf8Tabs 1 2 W := by
  rw [MakeChecks.laidMetH_plain _ _ _ plainL] at h
  have h4 : VarReads Tryd.prog W nmA Rows.laid_unicode_utf8_acceptRanges := Lib.laidMet.reads h (List.mem_cons_self ..)
  have h3 : VarReads Tryd.prog W nmF Rows.laid_unicode_utf8_first := Lib.laidMet.reads h (List.mem_cons_of_mem _ (List.mem_cons_self ..))
  rw [accEq] at h4
  rw [show Rows.laid_unicode_utf8_first = firstData from Pinned.utf8First_eq] at h3
  refine ⟨fun c hc => ?_, fun i hi => ?_⟩
  · obtain ⟨g, t, cs, fuel, p, hg, hty, hvar, hd⟩ := h3
    obtain rfl := Option.some.inj (gF.symm.trans hg)
    obtain rfl := Option.some.inj (yF.symm.trans hty)
    have hcs := cells_of_tab Tryd.underlying53 Tryd.underlying5 cells5 cells53 hd
    have := World.var?_cell hg hvar c
    rw [this, ← Array.getElem?_toList, hcs]
    simp [firstTab, hc]
  · obtain ⟨g, t, cs, fuel, p, hg, hty, hvar, hd⟩ := h4
    obtain rfl := Option.some.inj (gA.symm.trans hg)
    obtain rfl := Option.some.inj (yA.symm.trans hty)
    obtain ⟨fuel', d, q, hdi, he⟩ := array_elem Tryd.underlying56 hd i hi
    simp only [List.getElem?_map, List.getElem?_range hi, Option.map_some, Option.some.injEq] at hdi
    subst hdi
    rw [cells55] at he
    have hcs := ints_of_struct Tryd.underlying55 (fun j f hj => by
      match j, hj with
      | 0, hj => simp at hj; subst hj; exact ⟨Tryd.underlying5, rfl, cells5⟩
      | 1, hj => simp at hj; subst hj; exact ⟨Tryd.underlying5, rfl, cells5⟩
      | j + 2, hj => simp at hj) (by rw [cells55]; rfl) he
    have e0 := congrArg (·[0]?) hcs
    have e1 := congrArg (·[1]?) hcs
    simp only [List.getElem?_take, List.getElem?_drop] at e0 e1
    constructor
    · rw [World.var?_cell hg hvar (2 * i), ← Array.getElem?_toList]
      simpa [Nat.mul_comm] using e0
    · rw [World.var?_cell hg hvar (2 * i + 1), ← Array.getElem?_toList]
      simpa [Nat.mul_comm] using e1

/-- the library's variable MaxLen holds some int. -/
theorem max_of {W : World} (h : W.ShapedOpen Tryd.prog) : ∃ m, W.cell? ⟨0, 0, none⟩ = some (.int .i64 m) :=
  cell_of_shapedOpen_int (t := 3) (zero := #[.int .i64 0]) h (of_decide_eq_true (by kernel_rfl)) (by kernel_rfl) rfl (by kernel_rfl) (by kernel_rfl) Tryd.underlying3

theorem pos_of_cell {W : World} {o : Nat} {v : Value} {b : Nat} (h : W.cell? ⟨b, o, none⟩ = some v) : b < W.heap.size := by
  rcases Nat.lt_or_ge b W.heap.size with h' | h'
  · exact h'
  · simp [World.cell?, Array.getElem?_eq_none h'] at h

theorem libs_of {W : World} (h : W.ShapedOpen Tryd.prog) (hL : laidMetH Tryd.prog laidL W) : Libs W := by
  obtain ⟨m, hm⟩ := max_of h
  exact ⟨⟨m, hm⟩, pos_of_cell hm, tabs_of hL⟩

/-- THE WRAP: the row's listed variables AND the world's shape kept. -/
theorem returns_laid_shaped {H : Type} {enc : TypeId × Value → H} {a : Assume} {C : Checked} {os : Os} {f : FuncId} {fn : Func} {s : ChangeSpec} {conds : List PathCond} {apart fresh handsOn again : Bool} {X : World → Array Value → Prop}
    (hX : ∀ (w w' : World) (args : Array Value), w.heap = w'.heap → X w args → X w' args)
    (own : ownKnob C.prog.godebug = none) (started : os.Started) (noInit : C.prog.inits.idxOf? f = none) (hfn : C.prog.funcs[f]? = some fn)
    (witness : ∃ (w : World) (tape : Tape) (i : Input), w.os = os ∧ (w.forCall tape i).Shaped C.prog ∧ i.vars = [] ∧ Input.okWide C.prog (w.forCall tape i) .any w.heap.size f i ∧
      ((s.pre enc C.prog fn conds apart (w.forCall tape i).memory i.args ∧ X (w.forCall tape i).memory i.args) ∧ sizedMet enc C.prog fn (OpenSpec.ofChange s) apart (w.forCall tape i).memory i.args) ∧ a.holds C.prog (lone (Frame.enter C.prog f i.args .normal) [] (w.forCall tape i)))
    (contract : ∀ (W : World) (base : Nat) (args : Array Value) (ds gs : List (DataW H)) (before : List MemPlace),
      (∀ (j : Nat) t v, fn.params[j]? = some t → args[j]? = some v → Value.okWide C.prog W .any base t v) →
      DataW.Whole enc C.prog fn.params.toList s.vars apart W args.toList ds gs before → X W args → W.ShapedOpen C.prog →
      Calls C.prog f args W fun e W' => ∃ v, e = .returned v ∧ s.post enc C.prog fn apart fresh handsOn again W args v W') :
    ReturnsInHanded a C os f .any (fun w args => (s.pre enc C.prog fn conds apart w args ∧ X w args) ∧ sizedMet enc C.prog fn (OpenSpec.ofChange s) apart w args) (s.post enc C.prog fn apart fresh handsOn again) := by
  refine returnsInHanded_of_calls own started noInit witness ?_
  intro w tape i _ hsh _ hok hpre hholds
  obtain ⟨_, _, _, fn', hfn', _, _, _, _, hval⟩ := hok
  have e : fn' = fn := Option.some.inj (hfn'.symm.trans hfn)
  subst e
  obtain ⟨⟨⟨ds, gs, before, hw, hc⟩, hx⟩, hz⟩ := hpre
  have hw' := DataW.Whole.of_heap (w' := w.forCall tape i) (by rfl) hw
  refine (contract (w.forCall tape i) w.heap.size i.args ds gs before hval hw' (hX _ _ _ (by rfl) hx) hsh).mono fun e W' ⟨v, he, hp⟩ => ?_
  subst he
  exact ChangeSpec.post_blind hp

/-- WHAT A WALK IS TOLD OF A SLICE OF BYTES THAT CAME IN. -/
theorem row_of {H : Type} {enc : TypeId × Value → H} {W : World} {a0 : Option Addr} {len cap : Nat} {d : DataW H} {p : List MemPlace}
    (h0 : DataW.Trod enc Tryd.prog W 0 (fun _ => true) true 22 (Value.slice a0 len cap) d p) :
    ∃ l : List UInt8, len = l.length ∧ len ≤ cap ∧ len ≤ maxLen ∧ (a0 = none → cap = 0) ∧
      (len ≠ 0 → ∃ b off, a0 = some ⟨b, off, none⟩ ∧ b < W.heap.size ∧ ∀ i y, l[i]? = some y → W.cell? ⟨b, off + i, none⟩ = some (.int .u8 (y.toNat : Int))) := by
  obtain ⟨fuel, hf⟩ := h0
  rcases open_ints Tryd.underlying22 Tryd.underlying5 cells5 hf with ⟨hcs, _⟩ | ⟨x, l, c, zs, hcs, _, hl, hm, hz, _, hcell, hwz⟩
  · simp [Value.cells] at hcs
    obtain ⟨rfl, rfl, rfl⟩ := hcs
    exact ⟨[], rfl, Nat.le_refl _, by omega, fun _ => rfl, fun h => absurd rfl h⟩
  · simp [Value.cells] at hcs
    obtain ⟨rfl, rfl, rfl⟩ := hcs
    have hzl : zs.length = cap := by simpa using hz
    have hb : ∀ z ∈ zs, 0 ≤ z ∧ z ≤ 255 := fun z hz' => by
      have := hwz z hz'
      exact bounds_u8 this
    refine ⟨(zs.take len).map fun z => UInt8.ofNat z.toNat, by simp; omega, hl, by omega, fun h => (by cases h), fun hne => ?_⟩
    obtain ⟨b, off, rfl, hc⟩ := ints_at hcell (by omega)
    refine ⟨b, off, rfl, pos_of_cell (hc 0 (by omega)), fun i y hy => ?_⟩
    simp only [List.getElem?_map, Option.map_eq_some_iff] at hy
    obtain ⟨z, hz1, rfl⟩ := hy
    rw [List.getElem?_take] at hz1
    split at hz1
    · rename_i hil
      have hi2 : i < zs.length := by omega
      have e1 : zs.getD i 0 = z := by simp [hz1]
      rw [hc i hi2, e1]
      have hbz := hb z (List.mem_of_getElem? hz1)
      congr 2
      simp
      omega
    · cases hz1
end Go.Proofs.Qxb6600587aDoor
