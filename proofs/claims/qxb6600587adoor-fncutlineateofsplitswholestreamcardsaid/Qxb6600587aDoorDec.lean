import Derived.Lib.DecodeN
import Derived.Laws.Runes
import Derived.Lib.Strings
namespace Go.Proofs.Qxb6600587aDoor
open Go.Lib

theorem enc_size (r : Nat) (hv : Utf8.valid (r : Int) = true) (h : 128 ≤ r) : (Utf8.encode (r : Int)).size = if r < 2048 then 2 else if r < 65536 then 3 else 4 := by
  have hc : ¬ r < 128 := by omega
  unfold Utf8.encode
  simp only [hv, if_true, Int.toNat_natCast, hc, if_false]
  by_cases h1 : r < 2048
  · simp only [h1, if_true]; rfl
  · by_cases h2 : r < 65536
    · simp only [h1, h2, if_true, if_false]; rfl
    · simp only [h1, h2, if_false]; rfl

theorem valid_of (r : Nat) (h : r < 55296 ∨ (57343 < r ∧ r ≤ 1114111)) : Utf8.valid (r : Int) = true := by
  rw [validRune_eq]
  exact decide_eq_true (by omega)

structure DecN (n b0 b1 b2 b3 : Nat) (r k : Nat) : Prop where
  hi : 128 ≤ r
  lo : r ≤ 1114111
  one : 1 ≤ k
  four : k ≤ 4
  fits : k ≤ n
  c1 : 2 ≤ k → 128 ≤ b1
  c2 : 3 ≤ k → 128 ≤ b2
  c3 : 4 ≤ k → 128 ≤ b3
  enc : r ≠ 65533 → (r < 55296 ∨ (57343 < r ∧ r ≤ 1114111)) ∧ 2 ≤ k ∧ k = if r < 2048 then 2 else if r < 65536 then 3 else 4

set_option maxHeartbeats 2000000 in
theorem decN (n b0 b1 b2 b3 : Nat) (hn : 0 < n) (h0 : 128 ≤ b0) (h : b0 < 256) (h1 : b1 < 256) (h2 : b2 < 256) (h3 : b3 < 256) :
    DecN n b0 b1 b2 b3 (decodeN n b0 b1 b2 b3).1 (decodeN n b0 b1 b2 b3).2 := by
  unfold decodeN
  rw [if_neg (by omega)]
  by_cases e2 : b0 / 32 = 6 ∧ (1 < n ∧ b1 / 64 = 2)
  · rw [if_pos e2]
    by_cases g : b0 % 32 * 64 + b1 % 64 ≥ 128
    · rw [if_pos g]
      exact ⟨g, by simp only; omega, by simp only; omega, by simp only; omega, by simp only; omega, fun _ => by omega, fun hk => by simp only at hk; omega, fun hk => by simp only at hk; omega, fun _ => ⟨by simp only; omega, by simp only; omega, by simp only; split <;> omega⟩⟩
    · rw [if_neg g]
      exact ⟨by simp only; omega, by simp only; omega, by simp only; omega, by simp only; omega, by simp only; omega, fun hk => by simp only at hk; omega, fun hk => by simp only at hk; omega, fun hk => by simp only at hk; omega, fun hk => absurd rfl hk⟩
  rw [if_neg e2]
  by_cases e3 : b0 / 16 = 14 ∧ (1 < n ∧ b1 / 64 = 2) ∧ (2 < n ∧ b2 / 64 = 2)
  · rw [if_pos e3]
    by_cases g : b0 % 16 * 4096 + b1 % 64 * 64 + b2 % 64 ≥ 2048 ∧ (b0 % 16 * 4096 + b1 % 64 * 64 + b2 % 64 < 55296 ∨ (57344 ≤ b0 % 16 * 4096 + b1 % 64 * 64 + b2 % 64 ∧ b0 % 16 * 4096 + b1 % 64 * 64 + b2 % 64 ≤ 1114111))
    · rw [if_pos g]
      exact ⟨by simp only; omega, by simp only; omega, by simp only; omega, by simp only; omega, by simp only; omega, fun _ => by omega, fun _ => by omega, fun hk => by simp only at hk; omega, fun _ => ⟨by simp only; omega, by simp only; omega, by simp only; rw [if_neg (by omega), if_pos (by omega)]⟩⟩
    · rw [if_neg g]
      exact ⟨by simp only; omega, by simp only; omega, by simp only; omega, by simp only; omega, by simp only; omega, fun hk => by simp only at hk; omega, fun hk => by simp only at hk; omega, fun hk => by simp only at hk; omega, fun hk => absurd rfl hk⟩
  rw [if_neg e3]
  by_cases e4 : b0 / 8 = 30 ∧ (1 < n ∧ b1 / 64 = 2) ∧ (2 < n ∧ b2 / 64 = 2) ∧ (3 < n ∧ b3 / 64 = 2)
  · rw [if_pos e4]
    by_cases g : b0 % 8 * 262144 + b1 % 64 * 4096 + b2 % 64 * 64 + b3 % 64 ≥ 65536 ∧ (b0 % 8 * 262144 + b1 % 64 * 4096 + b2 % 64 * 64 + b3 % 64 < 55296 ∨ (57344 ≤ b0 % 8 * 262144 + b1 % 64 * 4096 + b2 % 64 * 64 + b3 % 64 ∧ b0 % 8 * 262144 + b1 % 64 * 4096 + b2 % 64 * 64 + b3 % 64 ≤ 1114111))
    · rw [if_pos g]
      exact ⟨by simp only; omega, by simp only; omega, by simp only; omega, by simp only; omega, by simp only; omega, fun _ => by omega, fun _ => by omega, fun _ => by omega, fun _ => ⟨by simp only; omega, by simp only; omega, by simp only; rw [if_neg (by omega), if_neg (by omega)]⟩⟩
    · rw [if_neg g]
      exact ⟨by simp only; omega, by simp only; omega, by simp only; omega, by simp only; omega, by simp only; omega, fun hk => by simp only at hk; omega, fun hk => by simp only at hk; omega, fun hk => by simp only at hk; omega, fun hk => absurd rfl hk⟩
  rw [if_neg e4]
  exact ⟨by simp only; omega, by simp only; omega, by simp only; omega, by simp only; omega, by simp only; omega, fun hk => by simp only at hk; omega, fun hk => by simp only at hk; omega, fun hk => by simp only at hk; omega, fun hk => absurd rfl hk⟩

end Go.Proofs.Qxb6600587aDoor
