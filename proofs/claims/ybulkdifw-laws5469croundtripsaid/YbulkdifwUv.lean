/-
  textUvarint's contract.
-/
import Derived.Test.YbulkdifwRows
import Derived.Test.YbulkdifwMath
import Derived.WalkKit
import Derived.WalkSpells
import Derived.WalkLawsBesides
import Derived.Laws.Bits64
namespace Go.Proofs.Ybulkdifw.uv
open Go.RowKit

theorem at_eq (s : ByteArray) (i : Nat) (h : i < s.size) : s.data.toList.getD i 0 = s[i] := by
  rw [List.getD, List.getElem?_eq_getElem (by simpa using h)]; rfl

theorem and127 (s : ByteArray) (i : Nat) (h : i < s.size) : bits .and .u8 ((s[i].toNat : Nat) : Int) 127 = (dig s i : Nat) := by
  have h1 : s[i].toNat < 256 := UInt8.toNat_lt _
  have := u8_and_nat s[i].toNat 127 h1 (by omega)
  rw [nat_mask7] at this
  rw [dig, at_eq s i h]
  exact this

theorem wrapdig (s : ByteArray) (i : Nat) : IntKind.u64.wrap (dig s i : Nat) = (dig s i : Nat) := by
  have := dig_lt s i
  rw [IntKind.wrap_u64]; omega

theorem shl_dig (s : ByteArray) (i k : Nat) (w : World) : (Op.shift .shl .u64 (dig s i : Nat) .i64 (7 * (k : Int))).run Yba.prog w = .ok (.int .u64 ((dig s i * 2 ^ min (7 * k) 64 % 18446744073709551616 : Nat) : Int)) w := by
  rw [shift_shl_any _ _ _ _ (by omega), Sem.run_pure, IntKind.wrap_u64]
  have e : (7 * (k : Int)).toNat = 7 * k := by omega
  rw [e, show IntKind.u64.bits = 64 from rfl]
  congr 2

theorem or_dig (s : ByteArray) (a k : Nat) : bits .or .u64 ((X s a k : Nat) : Int) ((dig s (a + k) * 2 ^ min (7 * k) 64 % 18446744073709551616 : Nat) : Int) = (X s a (k + 1) : Nat) := by
  rw [u64_or_nat _ _ (X_lt s a k) (Nat.mod_lt _ (by omega)), X_or]

theorem ret_two {k l : IntKind} {a b c d : Int} (h : a = b) (h' : c = d) : Ending.returned (.tuple #[.int k a, .int l c]) = .returned (.tuple #[.int k b, .int l d]) := by rw [h, h']

set_option maxHeartbeats 400000 in
set_option maxRecDepth 100000 in
theorem uv_any (s : ByteArray) (a j : Nat) (w : World) (hs : s.size ≤ 4194304) (haj : a ≤ j) (hj : j < s.size) (hbig : ∀ i, a ≤ i → i < j → 128 ≤ (s.data.toList.getD i 0).toNat) (hstop : (s.data.toList.getD j 0).toNat < 128) :
    Calls Yba.prog 5 #[.string s, .int .i64 a] w fun e w' => e = .returned (.tuple #[.int .u64 (X s a (j + 1 - a) : Nat), .int .i64 ((j : Int) + 1)]) ∧ w' = w := by
  go_enter Yba.func5, Yba.ntmps5
  go_wp2
  go_loop [1, 6, 7] (fun p x sh => ∃ k : Nat, a + k ≤ j ∧ p = .int .i64 ((a + k : Nat) : Int) ∧ x = .int .u64 (X s a k : Nat) ∧ sh = .int .i64 ((7 * k : Nat) : Int)) (fun p _ _ => j + 1 - (intOf p).toNat)
  case atStart => exact ⟨0, by omega, by simp, rfl, rfl⟩
  case round =>
    obtain ⟨k, hk, rfl, rfl, rfl⟩ := hrel
    have hlt : a + k < s.size := by omega
    have hlt' : (a : Int) + (k : Int) < (s.size : Int) := by omega
    have h1 := and127 s (a + k) hlt
    have h2 := wrapdig s (a + k)
    have h3 := fun w => shl_dig s (a + k) k w
    have h4 := or_dig s a k
    generalize dig s (a + k) * 2 ^ min (7 * k) 64 % 18446744073709551616 = y at h3 h4
    generalize dig s (a + k) = d at h1 h2 h3
    by_cases e : a + k = j
    · have hst : (s[a + k].toNat : Int) < 128 := by rw [← at_eq s (a + k) hlt, e]; omega
      have HE : Hid (a + k = j) := e
      clear e
      go_wp2
      go_ret2
      refine ⟨?_, rfl⟩
      have e := HE.out
      subst e
      rw [show a + k + 1 - a = k + 1 by omega]
      exact ret_two rfl (by omega)
    · have hst : ¬ (s[a + k].toNat : Int) < 128 := by rw [← at_eq s (a + k) hlt]; have := hbig (a + k) (by omega) (by omega); omega
      go_wp2
      go_round
      case rel => exact ⟨k + 1, by omega, by go_num, rfl, by go_num⟩
      case measure => simp [intOf]; omega

end Go.Proofs.Ybulkdifw.uv
