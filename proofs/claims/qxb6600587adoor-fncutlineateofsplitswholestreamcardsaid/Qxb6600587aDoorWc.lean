import Derived.Test.Qxb6600587aDoorWb
import Derived.Test.Qxb6600587aDoorPlain
import Derived.Shelf.Abstract
namespace Go.Proofs.Qxb6600587aDoor
open Go.RowKit Go.Shelf
set_option linter.unusedVariables false

/-- the constant of the Go text. -/
def crlf : ByteArray := ⟨#[13, 10]⟩

theorem ret_int {k : IntKind} {a b : Int} (h : a = b) : Ending.returned (.int k a) = .returned (.int k b) := by rw [h]

set_option maxHeartbeats 1000000 in
theorem useSet {P : Program} (L : SetEnv P) (n : Int) (w : World) :
    Calls P 18 #[.int .i64 n] w fun e w' => e = .returned (.bool (decide (8 < n))) ∧ w' = w := by
  have t3 := L.t3; have a3 := L.a3; have z3 := L.z3; have v3 := L.v3
  have t4 := L.t4; have a4 := L.a4; have z4 := L.z4; have v4 := L.v4
  go_enter L.f18, Tryd.ntmps18
  go_wp2
  go_ret
  exact ⟨rfl, rfl⟩

set_option maxHeartbeats 4000000 in
set_option maxRecDepth 1000000 in
theorem indexAny_long {P : Program} (L : SetEnv P) (b off n c : Nat) (l : List UInt8) (w : World) (hl : n = l.length) (h8 : 8 < n) (hn : n ≤ 65536) (hx : b < w.heap.size)
    (hc : ∀ i y, l[i]? = some y → w.cell? ⟨b, off + i, none⟩ = some (.int .u8 (y.toNat : Int))) :
    Calls P 15 #[.slice (some ⟨b, off, none⟩) n c, .string ⟨#[13, 10]⟩] w fun e w' => e = .returned (.int .i64 (idx l)) ∧ Below w.heap.size w w' := by
  have hM := mkset L ⟨#[13, 10]⟩ w (by decide) (fun j b h => by
    have : b ∈ ([13, 10] : List UInt8) := List.mem_of_getElem? h
    simp at this; rcases this with rfl | rfl <;> decide)
  have HC : Hid (∀ i y, l[i]? = some y → w.cell? ⟨b, off + i, none⟩ = some (.int .u8 (y.toNat : Int))) := hc
  have HL : Hid (n = l.length) := hl
  clear hc hl
  have hn1 : ((n : Int) == 1) = false := beq_eq_false_iff_ne.2 (by omega)
  have h8z : decide ((8 : Int) < (n : Int)) = true := decide_eq_true (by omega)
  obtain ⟨S, hS⟩ : ∃ S, S = Lib.setCells [13, 10] := ⟨_, rfl⟩
  have hM : Calls P 19 #[.string ⟨#[13, 10]⟩] w fun e w' => e = .returned (.tuple #[.agg S, .bool true]) ∧ w' = w.alloc (.cells S 38) := by rw [hS]; exact hM
  have hsz : S.size = 256 := by rw [hS]; exact Lib.setCells_size _
  have hsc : (storeCells ⟨w.heap.size + 1, 0, none⟩ S.toList 0).run P ((w.alloc (.cells S 38)).alloc (.cells (Array.replicate 256 (.bool false)) 38)) = .ok () ((w.alloc (.cells S 38)).alloc (.cells S 38)) := by
    have := run_storeCells_new (P := P) (w.alloc (.cells S 38)) 38 (Array.replicate 256 (.bool false)) S (by rw [hsz]; exact L.i38) (by rw [hsz, Array.size_replicate]) (by rw [hS]; exact Lib.setCells_one _)
    simpa using this
  have HA : Hid (∀ x : UInt8, ((w.alloc (.cells S 38)).alloc (.cells S 38)).cell? ⟨w.heap.size + 1, x.toNat, none⟩ = some (.bool (isB x))) := fun x => by
    rw [World.cell?_alloc_at _ _ _ _ (by simp), hS, Lib.setCells_at]; rfl
  clear hS
  have t3 := L.t3; have a3 := L.a3; have z3 := L.z3; have v3 := L.v3
  have t4 := L.t4; have a4 := L.a4; have z4 := L.z4; have v4 := L.v4
  have t5 := L.t5; have a5 := L.a5; have z5 := L.z5; have v5 := L.v5
  have t9 := L.t9; have a9 := L.a9; have z9 := L.z9; have v9 := L.v9
  have t21 := L.t21; have a21 := L.a21; have z21 := L.z21; have v21 := L.v21
  have t22 := L.t22; have a22 := L.a22; have z22 := L.z22
  have t38 := L.t38
  have hv38 := L.v38
  have e18 : ∀ args w, (callFunc 18 args).run P w = .ok (.enter 18 args) w := enters_of L.f18 (by kernel_rfl) rfl
  have e19 : ∀ args w, (callFunc 19 args).run P w = .ok (.enter 19 args) w := enters_of L.f19 (by kernel_rfl) rfl
  have e20 : ∀ args w, (callFunc 20 args).run P w = .ok (.enter 20 args) w := enters_of L.f20 (by kernel_rfl) rfl
  go_enter L.f15, Tryd.ntmps15
  go_wp2_with (first
    | (go_at_call 18; refine (useSet L _ _).mono ?_; rintro e w' ⟨rfl, hw⟩; rw [hw, h8z])
    | (go_at_call 19; refine hM.mono ?_; rintro e w' ⟨rfl, hw⟩; rw [hw]))
  simp only [L.z38, Result.andThen, ↓reduceIte, hsc]
  rw [Oper.upon_skip]
  go_wp2
  clear hM hsc
  go_loopg [62] n (fun g s8 wx => ∃ i : Nat, i + g = n ∧ s8 = .int .i64 i ∧ wx = ((w.alloc (.cells S 38)).alloc (.cells S 38)) ∧ NoB l i)
  case atStart => exact ⟨0, by omega, rfl, rfl, NoB.zero _⟩
  case round =>
    obtain ⟨i, hig, rfl, rfl, hno⟩ := hrel
    have HN : Hid (NoB l i) := hno
    clear hno
    cases gk with
    | zero =>
      obtain rfl : i = n := by omega
      have hiz : ¬ ((i : Int) < (i : Int)) := by omega
      go_wp2
      go_ret
      exact ⟨ret_int (idx_none (by rw [← HL.out]; exact HN.out)).symm, ((Below.refl _ _).alloc (Nat.le_refl _) _).alloc (by simp) _⟩
    | succ g =>
      have hi : i < n := by omega
      have hiz : (i : Int) < (n : Int) := by omega
      have hil : i < l.length := by rw [← HL.out]; exact hi
      obtain ⟨x, hxl⟩ : ∃ x : UInt8, l[i]? = some x := ⟨_, List.getElem?_eq_getElem hil⟩
      have hcell : ((w.alloc (.cells S 38)).alloc (.cells S 38)).cell? ⟨b, off + i, none⟩ = some (.int .u8 (x.toNat : Int)) := by
        rw [World.cell?_alloc_lt _ _ _ (by simp; omega), World.cell?_alloc_lt _ _ _ hx]; exact HC.out i x hxl
      have Hx : Hid (l[i]? = some x) := hxl
      clear hxl
      have hcx := HA.out x
      cases hin : isB x <;> rw [hin] at hcx
      · go_wp2_with (go_at_call 20; refine (setHas L _ x _ _ hcx).mono ?_; rintro e w' ⟨rfl, hw⟩; rw [hw])
        go_roundg g
        case measure => omega
        case rel => exact ⟨i + 1, by omega, by first | rfl | simp, rfl, HN.out.succ Hx.out hin⟩
      · go_wp2_with (go_at_call 20; refine (setHas L _ x _ _ hcx).mono ?_; rintro e w' ⟨rfl, hw⟩; rw [hw])
        go_ret
        exact ⟨ret_int (idx_hit HN.out Hx.out hin).symm, ((Below.refl _ _).alloc (Nat.le_refl _) _).alloc (by simp) _⟩
end Go.Proofs.Qxb6600587aDoor
