import Derived.Test.Qxb6605443aDoorWj
import Derived.Test.Qxb6605443aDoorPlain3
namespace Go.Proofs.Qxb6605443aDoor
open Go.RowKit
set_option linter.unusedVariables false
set_option linter.unusedSimpArgs false

/-- headers as the cells of a row. -/
def hcells (hs : List (ByteArray × ByteArray)) : List Value := hs.flatMap fun h => [.string h.1, .string h.2]
theorem hcells_nil : hcells [] = [] := rfl
theorem hcells_cons (h : ByteArray × ByteArray) (r : List (ByteArray × ByteArray)) : hcells (h :: r) = .string h.1 :: .string h.2 :: hcells r := rfl
theorem hcells_len : ∀ hs, (hcells hs).length = hs.length * 2
  | [] => rfl
  | h :: r => by rw [hcells_cons, List.length_cons, List.length_cons, hcells_len r, List.length_cons]; omega
theorem hcells_at : ∀ (hs : List (ByteArray × ByteArray)) (i : Nat), (hcells hs)[i * 2]? = hs[i]?.map (fun h => Value.string h.1) ∧ (hcells hs)[i * 2 + 1]? = hs[i]?.map (fun h => Value.string h.2)
  | [], i => by simp [hcells_nil]
  | h :: r, 0 => by simp [hcells_cons]
  | h :: r, i + 1 => by
    have ih := hcells_at r i
    rw [hcells_cons, show (i + 1) * 2 = i * 2 + 1 + 1 by omega]
    simp only [List.getElem?_cons_succ]
    exact ih
theorem hcells_append (a b : List (ByteArray × ByteArray)) : hcells (a ++ b) = hcells a ++ hcells b := by simp [hcells]
theorem hcells_one (hs : List (ByteArray × ByteArray)) : ∀ u ∈ hcells hs, u.oneCell' = true := fun u hu => by
  obtain ⟨h, _, hu⟩ := List.mem_flatMap.1 hu
  rcases List.mem_cons.1 hu with rfl | hu
  · rfl
  · rcases List.mem_cons.1 hu with rfl | hu
    · rfl
    · cases hu
theorem add_eq (b o j : Nat) : (⟨b, o, none⟩ : Addr).add j = ⟨b, o + j, none⟩ := by unfold Addr.add; split <;> simp_all
/-- the cells that a slice of headers hands to append. -/
theorem Hdr.news {N : Nat} {w : World} {b off : Nat} {hs : List (ByteArray × ByteArray)} (h : Hdr N w (some ⟨b, off, none⟩) hs) : ∀ j u, (hcells hs)[j]? = some u → w.cell? ((⟨b, off, none⟩ : Addr).add j) = some u := fun j u hu => by
  rw [add_eq]
  have hj := (List.getElem?_eq_some_iff.1 hu).1
  rw [hcells_len] at hj
  have hil : j / 2 < hs.length := by omega
  obtain ⟨x, hx⟩ : ∃ x, hs[j / 2]? = some x := ⟨_, List.getElem?_eq_getElem hil⟩
  obtain ⟨b', off', he, _, h1, h2⟩ := h.a (j / 2) x hx
  cases he
  have hc := hcells_at hs (j / 2)
  rw [hx] at hc
  rcases (show j = j / 2 * 2 ∨ j = j / 2 * 2 + 1 by omega) with e | e
  · rw [e, hc.1] at hu
    obtain rfl := Option.some.inj hu
    rw [e]
    exact h1
  · rw [e, hc.2] at hu
    obtain rfl := Option.some.inj hu
    rw [e]
    exact h2
/-- a row of headers that the call owns, as a slice of headers. -/
theorem hdr_of_row {w : World} {base g n cap : Nat} {hs : List (ByteArray × ByteArray)} (h : w.ownsRow base 30 2 (.slice (some ⟨g, 0, none⟩) n cap) n (hcells hs)) : Hdr w.heap.size w (some ⟨g, 0, none⟩) hs ∧ n = hs.length := by
  have hl := h.1
  rw [hcells_len] at hl
  have hn : n = hs.length := by omega
  refine ⟨⟨fun i x hx => ?_⟩, hn⟩
  have hil := (List.getElem?_eq_some_iff.1 hx).1
  have hc := hcells_at hs i
  rw [hx] at hc
  refine ⟨g, 0, rfl, ?_, ?_, ?_⟩
  · rcases h.2 with ⟨h0, _⟩ | ⟨g', c, cur, hv, _, hg, _⟩
    · cases h0
    · cases hv; exact (Array.getElem?_eq_some_iff.1 hg).1
  · rw [Nat.zero_add, h.cellAt (i * 2) (by omega)]; exact hc.1
  · rw [Nat.zero_add, h.cellAt (i * 2 + 1) (by omega)]; exact hc.2
theorem ba_eta (v : ByteArray) : (⟨v.data.toList.toArray⟩ : ByteArray) = v := by cases v with | mk d => simp
/-- the three answers. -/
theorem answers (n v : List UInt8) (value : ByteArray) (hs hs2 : List (ByteArray × ByteArray)) (hv : v = value.data.toList) (h2 : ckF n hs2 = (ckF n hs).or (some v)) :
    ∃ (bs : ByteArray) (bo : Bool), ans2 (ckF n hs) = .tuple #[.string bs, .bool bo] ∧ (bo = false → bs = ⟨#[]⟩) ∧ ans2 (ckF n hs2) = .tuple #[.string (if bo = true then bs else value), .bool true] := by
  cases hc : ckF n hs with
  | none =>
    refine ⟨⟨#[]⟩, false, rfl, fun _ => rfl, ?_⟩
    rw [h2, hc]
    show Value.tuple #[.string ⟨v.toArray⟩, .bool true] = _
    rw [hv, ba_eta]; rfl
  | some u =>
    refine ⟨⟨u.toArray⟩, true, rfl, (fun h => absurd h (by simp)), ?_⟩
    rw [h2, hc]; rfl
end Go.Proofs.Qxb6605443aDoor
