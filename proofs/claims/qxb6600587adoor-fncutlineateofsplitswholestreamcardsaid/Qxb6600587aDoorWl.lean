import Derived.Test.Qxb6600587aDoorWj
import Derived.Test.Qxb6600587aDoorSeg
namespace Go.Proofs.Qxb6600587aDoor
open Go.RowKit Go.Shelf
set_option linter.unusedVariables false

theorem info3 : (Tryd.prog.info? 3).map (fun i => (i.zero, i.size, i.bytes)) = some (some (.int .i64 0), 1, 8) := by kernel_rfl

/-- an int as a cell holds it. -/
def iv (x : Nat) : Value := .int .i64 (x : Int)

/-- two slices of ints that the call itself has made, in blocks of their own. -/
structure Two (B : Nat) (w : World) (v u : Value) (S E : List Nat) : Prop where
  s : w.ownsRow B 3 1 v S.length (S.map iv)
  e : w.ownsRow B 3 1 u E.length (E.map iv)
  ne : ∀ g, v.ownBlock = some g → u.ownBlock = some g → False
theorem Two.swap {B : Nat} {w : World} {v u : Value} {S E : List Nat} (h : Two B w v u S E) : Two B w u v E S := ⟨h.e, h.s, fun g h1 h2 => h.ne g h2 h1⟩
theorem Two.alloc {B : Nat} {w : World} {v u : Value} {S E : List Nat} (h : Two B w v u S E) (o : Obj) : Two B (w.alloc o) v u S E := ⟨h.s.alloc o, h.e.alloc o, h.ne⟩
theorem Two.start (B : Nat) (w : World) : Two B w (.slice none 0 0) (.slice none 0 0) [] [] := ⟨World.ownsRow_nil _ _ _ _, World.ownsRow_nil _ _ _ _, fun g h => by cases h⟩

/-- where append's result lies: where the slice lay, or in a new block. -/
theorem append_where {w : World} {B : Nat} {ty : TypeId} {v : Value} {S : List Nat} (h : w.ownsRow B 3 1 v S.length (S.map iv)) (ad : Addr) (c x : Nat) (hc : w.cell? (ad.add 0) = some (iv x)) (hn : S.length + 1 ≤ 65538)
    {v' : Value} {w' : World} (hr : (Builtin.append_ #[28, 28] ty #[v, .slice (some ad) 1 c]).run Tryd.prog w = .ok v' w') : v'.ownBlock = v.ownBlock ∨ v'.ownBlock = some w.heap.size := by
  obtain ⟨i0, hi, hz0, hz1, hz2⟩ := info_parts info3
  have hnews : ∀ j u, [iv x][j]? = some u → w.cell? (ad.add j) = some u := fun j u hj => by
    match j, hj with
    | 0, hj => simp at hj; subst hj; exact hc
    | j + 1, hj => simp at hj
  rcases h.2 with ⟨rfl, hn0⟩ | ⟨g, cap, cur, rfl, hb, hg, hnc, hcm, hcs, htake⟩
  · have hr2 := run_append_nil (P := Tryd.prog) w 28 ty 3 i0 (.int .i64 0) Tryd.underlying28 hi hz0 ad 1 c [iv x] (by rw [hz1]; rfl) hnews (by omega) (by omega) (by rw [hz2]; omega)
    rw [hr] at hr2
    injection hr2 with h1 _
    right; rw [h1]; rfl
  · by_cases hroom : S.length + 1 ≤ cap
    · have hr2 := run_append_room (P := Tryd.prog) w 28 ty 3 i0 Tryd.underlying28 hi g S.length cap cur hg ad 1 c [iv x] (by rw [hz1]; rfl) hnews (fun u hu => by simp at hu; subst hu; rfl) hroom (by rw [hz1, hcs]; simp; omega)
      rw [hr] at hr2
      injection hr2 with h1 _
      left; rw [h1]; rfl
    · have holds : ∀ j u, (S.map iv)[j]? = some u → w.cell? ((⟨g, 0, none⟩ : Addr).add j) = some u := h.cells (g := g) rfl
      have hr2 := run_append_grow (P := Tryd.prog) w 28 ty 3 i0 (.int .i64 0) Tryd.underlying28 hi hz0 ⟨g, 0, none⟩ S.length cap (S.map iv) (by rw [hz1]; simp) holds ad 1 c [iv x] (by rw [hz1]; rfl) hnews (by omega) (by omega) (growslice_fits (by omega) (by rw [hz2]; omega))
      rw [hr] at hr2
      injection hr2 with h1 _
      right; rw [h1]; rfl

/-- 'v = append(v, x)' beside another such slice: the walk's law. -/
theorem wpList_app {w : World} {ops : Array Oper} {rest : List Oper} {o : Oper} {a : Act} {Q : Exit → Act → World → Prop} (hgd : o.guard = none) (s x : Operand)
    (ho : o.op = .call { callee := .builtin .append, args := #[s, x], argTypes := #[28, 28] })
    {B : Nat} {v u : Value} {S E : List Nat} (T : Two B w v u S E) (hs : a.eval s = v) (ad : Addr) (c z : Nat) (hx : a.eval x = .slice (some ad) 1 c) (hc : w.cell? (ad.add 0) = some (iv z)) (hn : S.length + 1 ≤ 65538) (hB : B ≤ w.heap.size)
    (h : ∀ v' w', Two B w' v' u (S ++ [z]) E → Below B w w' → wpList Tryd.prog ops Q rest (a.put o.dst v') w') : wpList Tryd.prog ops Q (o :: rest) a w := by
  obtain ⟨i0, hi, hz0, hz1, hz2⟩ := info_parts info3
  have hnews : ∀ j u, [iv z][j]? = some u → w.cell? (ad.add j) = some u := fun j u hj => by
    match j, hj with
    | 0, hj => simp at hj; subst hj; exact hc
    | j + 1, hj => simp at hj
  obtain ⟨v', w', hr, h2, h3, _⟩ := run_append_own (P := Tryd.prog) w B 28 o.type 3 i0 (.int .i64 0) 1 8 Tryd.underlying28 hi hz0 hz1 hz2 rfl (by decide) v S.length (S.map iv) T.s ad 1 c [iv z] rfl hnews (fun u hu => by simp at hu; subst hu; rfl) (by unfold maxLen; omega) (by omega) hB
  have hw := append_where T.s ad c z hc hn hr
  refine wpList_plain hgd fun K hK => ?_
  unfold Oper.wp execOp
  simp only [ho, resolve, invoke, builtin, Sem.run_bind, Sem.run_pure, Result.andThen_ok, List.map_toArray, List.map_cons, List.map_nil, hs, hx, hr]
  refine hK _ _ (h v' w' ⟨?_, T.e.kept h3 ?_, fun g h4 h5 => ?_⟩ ((Below.refl _ w).grown h3 hB (fun k hk => (T.s.lt k hk).1)))
  · simpa using h2
  · cases hq : u.ownBlock with
    | none => exact .inl rfl
    | some g => exact .inr fun e => T.ne g e.symm hq
  · rcases hw with e | e
    · exact T.ne g (e ▸ h4) h5
    · rw [h4] at e
      have := (T.e.lt g h5).2
      have := Option.some.inj e
      omega
end Go.Proofs.Qxb6600587aDoor
