/-
  The plain mathematics of the base-128 numbers: no program in sight.
-/
import Derived.Laws.BitsAllLaws
import Derived.Laws.Shifts
namespace Go.Proofs.Ybulkdifw.uv

/-- The seven low bits of the byte at place i. -/
def dig (s : ByteArray) (i : Nat) : Nat := (s.data.toList.getD i 0).toNat % 128
/-- The number of the k bytes from a on, the least first. -/
def V (s : ByteArray) (a : Nat) : Nat → Nat
  | 0 => 0
  | k + 1 => V s a k + 128 ^ k * dig s (a + k)
def X (s : ByteArray) (a k : Nat) : Nat := V s a k % 18446744073709551616

theorem dig_lt (s : ByteArray) (i : Nat) : dig s i < 128 := Nat.mod_lt _ (by omega)
theorem X_lt (s : ByteArray) (a k : Nat) : X s a k < 18446744073709551616 := Nat.mod_lt _ (by omega)

theorem V_lt (s : ByteArray) (a : Nat) : ∀ k, V s a k < 128 ^ k
  | 0 => by simp [V]
  | k + 1 => by
    have h1 := V_lt s a k
    have h2 := dig_lt s (a + k)
    have h3 : 128 ^ k * dig s (a + k) ≤ 128 ^ k * 127 := Nat.mul_le_mul_left _ (by omega)
    rw [V, Nat.pow_succ]
    omega

theorem V_cons (s : ByteArray) (a : Nat) : ∀ k, V s a (k + 1) = dig s a + 128 * V s (a + 1) k
  | 0 => by simp [V]
  | k + 1 => by
    rw [V, V_cons s a k, V, show a + (k + 1) = a + 1 + k by omega, Nat.pow_succ, Nat.mul_add, ← Nat.mul_assoc, Nat.mul_comm (128 ^ k) 128]
    omega

theorem pow7 (k : Nat) : 128 ^ k = 2 ^ (7 * k) := by rw [Nat.pow_mul]

/-- One byte more, from the least on: 'x | d << 7k'. -/
theorem X_or (s : ByteArray) (a k : Nat) : (X s a k) ||| (dig s (a + k) * 2 ^ min (7 * k) 64 % 18446744073709551616) = X s a (k + 1) := by
  by_cases h : 7 * k < 64
  · rw [Nat.min_eq_left (by omega)]
    have hv := V_lt s a k
    rw [pow7] at hv
    have hM : 18446744073709551616 = 2 ^ (7 * k) * 2 ^ (64 - 7 * k) := by rw [← Nat.pow_add, show 7 * k + (64 - 7 * k) = 64 by omega]
    have hle : 2 ^ (7 * k) ≤ 2 ^ 64 := Nat.pow_le_pow_right (by omega) (by omega)
    have hX : X s a k = V s a k := Nat.mod_eq_of_lt (by omega)
    have hY : dig s (a + k) * 2 ^ (7 * k) % 18446744073709551616 = 2 ^ (7 * k) * (dig s (a + k) % 2 ^ (64 - 7 * k)) := by
      rw [hM, Nat.mul_comm (dig s (a + k)), Nat.mul_mod_mul_left]
    have hR : X s a (k + 1) = V s a k + 2 ^ (7 * k) * (dig s (a + k) % 2 ^ (64 - 7 * k)) := by
      rw [X, V, pow7, hM, Nat.mod_mul, Nat.add_mul_mod_self_left, Nat.mod_eq_of_lt hv, Nat.add_mul_div_left _ _ (Nat.two_pow_pos _), Nat.div_eq_of_lt hv, Nat.zero_add]
    rw [hX, hY, hR, Nat.or_comm, Go.nat_join (7 * k) _ _ (Nat.mul_mod_right _ _) hv, Nat.add_comm]
  · rw [Nat.min_eq_right (by omega)]
    have hY : dig s (a + k) * 2 ^ 64 % 18446744073709551616 = 0 := Nat.mul_mod_left _ _
    have hR : X s a (k + 1) = X s a k := by
      rw [X, X, V, pow7, show 7 * k = 64 + (7 * k - 64) by omega, Nat.pow_add, Nat.mul_assoc]
      exact Nat.add_mul_mod_self_left _ _ _
    rw [hY, hR, Nat.or_zero]

/-- One byte more, from the greatest down: 'want << 7 | d'. -/
theorem X_horner (s : ByteArray) (b k : Nat) : (X s (b + 1) k * 128 % 18446744073709551616) ||| dig s b = X s b (k + 1) := by
  have hM : 18446744073709551616 = 128 * 144115188075855872 := by decide
  have h1 : X s (b + 1) k * 128 % 18446744073709551616 = 128 * (V s (b + 1) k % 144115188075855872) := by
    rw [X, Nat.mod_mul_mod, Nat.mul_comm, hM, Nat.mul_mod_mul_left]
  have h2 : X s b (k + 1) = dig s b + 128 * (V s (b + 1) k % 144115188075855872) := by
    rw [X, V_cons, hM, Nat.mod_mul, Nat.add_mul_mod_self_left, Nat.mod_eq_of_lt (dig_lt s b), Nat.add_mul_div_left _ _ (by omega), Nat.div_eq_of_lt (dig_lt s b), Nat.zero_add]
  rw [h1, h2, Go.nat_join 7 _ _ (Nat.mul_mod_right _ _) (dig_lt s b), Nat.add_comm]

/-- From any place inside there is a first stop byte, if the last byte is one. -/
theorem first_stop (s : ByteArray) (hl : (s.data.toList.getD (s.size - 1) 0).toNat < 128) : ∀ n a, s.size - a = n → a < s.size →
    ∃ j, a ≤ j ∧ j < s.size ∧ (s.data.toList.getD j 0).toNat < 128 ∧ ∀ i, a ≤ i → i < j → 128 ≤ (s.data.toList.getD i 0).toNat := by
  intro n
  induction n with
  | zero => intro a h1 h2; omega
  | succ n ih =>
    intro a h1 h2
    by_cases hs : (s.data.toList.getD a 0).toNat < 128
    · exact ⟨a, Nat.le_refl _, h2, hs, fun i h3 h4 => by omega⟩
    · have hne : a ≠ s.size - 1 := fun e => hs (by rw [e]; exact hl)
      obtain ⟨j, h3, h4, h5, h6⟩ := ih (a + 1) (by omega) (by omega)
      refine ⟨j, by omega, h4, h5, fun i h7 h8 => ?_⟩
      by_cases e : i = a
      · subst e; omega
      · exact h6 i (by omega) h8

end Go.Proofs.Ybulkdifw.uv
