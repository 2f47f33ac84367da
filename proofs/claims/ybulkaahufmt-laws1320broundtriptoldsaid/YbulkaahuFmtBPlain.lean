import Derived.Test.YbulkaahuFmtBDec
import Derived.Lib.VarintMem
namespace Go.Proofs.YbulkaahuFmt

/-- The bytes of x's varint, one by one. -/
theorem uv_spec (x : Nat) : ∃ k, (Lib.uvarint x).length = k + 1 ∧ (∀ i, i < k → ((Lib.uvarint x).getD i 0).toNat = x / 128 ^ i % 128 + 128) ∧ ((Lib.uvarint x).getD k 0).toNat = x / 128 ^ k ∧ x / 128 ^ k < 128 := by
  induction x using Nat.strongRecOn with
  | _ x ih =>
    by_cases hx : x < 128
    · rw [Lib.uvarint_small hx]
      refine ⟨0, rfl, fun i hi => by omega, ?_, by simpa using hx⟩
      simp only [List.getD_cons_zero, Nat.pow_zero, Nat.div_one]
      exact Lib.toUInt8_toNat (by omega)
    · obtain ⟨k, h1, h2, h3, h4⟩ := ih (x / 128) (by omega)
      have e : ∀ j, x / 128 / 128 ^ j = x / 128 ^ (j + 1) := fun j => by rw [Nat.div_div_eq_div_mul, Nat.pow_succ, Nat.mul_comm]
      rw [Lib.uvarint_big (by omega)]
      refine ⟨k + 1, by simp [h1], fun i hi => ?_, ?_, by rw [← e]; exact h4⟩
      · cases i with
        | zero =>
          simp only [List.getD_cons_zero, Nat.pow_zero, Nat.div_one]
          exact Lib.toUInt8_toNat (by omega)
        | succ i =>
          rw [List.getD_cons_succ, h2 i (by omega), e]
      · rw [List.getD_cons_succ, h3, e]

theorem pow_two_seven (i : Nat) : (2 : Int) ^ (7 * i) = ((128 ^ i : Nat) : Int) := by
  have h : (2 : Nat) ^ (7 * i) = 128 ^ i := by rw [Nat.pow_mul]
  rw [← h]
  simp

theorem join (x i c : Nat) (hx : x < 18446744073709551616) (hc : x % 128 ^ i + c * 128 ^ i ≤ x) :
    bits .or .u64 ((x % 128 ^ i : Nat) : Int) (IntKind.u64.wrap ((c : Int) * 2 ^ (7 * i))) = ((x % 128 ^ i + c * 128 ^ i : Nat) : Int) := by
  have hpos : 0 < 128 ^ i := Nat.pow_pos (by decide)
  have hlt := Nat.mod_lt x hpos
  have e : (c : Int) * 2 ^ (7 * i) = ((c * 128 ^ i : Nat) : Int) := by rw [pow_two_seven]; simp
  have h64 : (2 : Int) ^ 64 = 18446744073709551616 := by decide
  rw [e, wraps_u64 _ (by omega) (by rw [h64]; omega)]
  rw [bits_join_low .u64 64 (by decide) wraps_u64 (7 * i) _ _ (by omega) (by rw [pow_two_seven]; omega) (by rw [h64]; omega) (by omega) ?_ (by rw [h64]; omega)]
  · omega
  · rw [pow_two_seven, ← Int.natCast_emod, Nat.mul_mod_left]
    rfl

/-- What the decoder gathers off the varint of x. -/
theorem xF_eq (d : Nat → Int) (x k : Nat) (hx : x < 18446744073709551616) (h1 : ∀ i, i < k → d i = ((x / 128 ^ i % 128 + 128 : Nat) : Int)) (i : Nat) (hi : i ≤ k) : xF d i = ((x % 128 ^ i : Nat) : Int) := by
  induction i with
  | zero => simp [xF, Nat.mod_one]
  | succ i ih =>
    have e1 : d i % 128 = ((x / 128 ^ i % 128 : Nat) : Int) := by rw [h1 i (by omega)]; omega
    have e2 : x % 128 ^ (i + 1) = x % 128 ^ i + x / 128 ^ i % 128 * 128 ^ i := by rw [Nat.pow_succ, Nat.mod_mul, Nat.mul_comm (128 ^ i)]
    unfold xF
    rw [ih (by omega), e1, join x i (x / 128 ^ i % 128) hx (by rw [← e2]; exact Nat.mod_le _ _), e2]

/-- WHAT IS ENCODED IS WHAT IS DECODED. -/
theorem vF_eq (d : Nat → Int) (x k : Nat) (hx : x < 18446744073709551616) (h1 : ∀ i, i < k → d i = ((x / 128 ^ i % 128 + 128 : Nat) : Int)) (h2 : d k = ((x / 128 ^ k : Nat) : Int)) : vF d k = (x : Int) := by
  have e2 : x % 128 ^ k + x / 128 ^ k * 128 ^ k = x := by rw [Nat.mul_comm]; exact Nat.mod_add_div x (128 ^ k)
  unfold vF
  rw [xF_eq d x k hx h1 k (Nat.le_refl _), h2, join x k (x / 128 ^ k) hx (by rw [e2]; exact Nat.le_refl _), e2]

theorem tenth (x : Nat) (hx : x < 18446744073709551616) : x / 128 ^ 9 ≤ 1 := by
  have e : (128 : Nat) ^ 9 = 9223372036854775808 := by decide
  rw [e]; omega
end Go.Proofs.YbulkaahuFmt
