/-
  LawS5469CWhole's walk.
-/
import Derived.Test.YbulkdifwUv
namespace Go.Proofs.Ybulkdifw.uv
open Go.RowKit

set_option maxHeartbeats 400000 in
theorem whole_long (s : ByteArray) (p : Int) (w : World) (hn : 1048576 < s.size) (hm : s.size ≤ maxLen) :
    Calls Yba.prog 3 #[.string s, .int .u64 p] w fun e w' => e = .returned (.bool true) ∧ w' = w := by
  unfold maxLen at hm
  have hd : (1048576 : Int) < (s.size : Int) := by omega
  go_enter Yba.func3, Yba.ntmps3
  go_wp2
  go_ret
  exact ⟨rfl, rfl⟩

theorem or_horner (t : ByteArray) (b k : Nat) : bits .or .u64 (IntKind.u64.wrap (((X t (b + 1) k : Nat) : Int) * 128)) (dig t b : Nat) = (X t b (k + 1) : Nat) := by
  have e : IntKind.u64.wrap (((X t (b + 1) k : Nat) : Int) * 128) = ((X t (b + 1) k * 128 % 18446744073709551616 : Nat) : Int) := by
    rw [IntKind.wrap_u64]; omega
  have := dig_lt t b
  rw [e, u64_or_nat _ _ (Nat.mod_lt _ (by omega)) (by omega), X_horner]

theorem last5 (s : ByteArray) : ((s ++ ⟨#[5]⟩ : ByteArray).data.toList.getD ((s ++ ⟨#[5]⟩ : ByteArray).size - 1) 0).toNat < 128 := by
  have h1 : (s ++ ⟨#[5]⟩ : ByteArray).size = s.size + 1 := by simp [ByteArray.size_append]; rfl
  have h2 : (s ++ ⟨#[5]⟩ : ByteArray).data.toList = s.data.toList ++ [5] := by simp [ByteArray.data_append]
  rw [h1, h2, Nat.add_sub_cancel, List.getD, List.getElem?_append_right (by simp)]
  simp

set_option maxHeartbeats 400000 in
set_option maxRecDepth 100000 in
theorem whole_any (s : ByteArray) (p : Nat) (w : World) (hn : s.size ≤ 1048576) :
    Calls Yba.prog 3 #[.string s, .int .u64 p] w fun e w' => e = .returned (.bool true) ∧ w' = w := by
  have hlast := last5 s
  have hsz : (s ++ ⟨#[5]⟩ : ByteArray).size = s.size + 1 := by simp [ByteArray.size_append]; rfl
  obtain ⟨t, hT⟩ : ∃ t, (s ++ ⟨#[5]⟩ : ByteArray) = t := ⟨_, rfl⟩
  rw [hT] at hlast hsz
  have ht0 : 0 < t.size := by omega
  have ht1 : t.size ≤ 1048577 := by omega
  clear hsz
  have ham : p % t.size < t.size := Nat.mod_lt _ ht0
  obtain ⟨a, haw⟩ : ∃ a, p % t.size = a := ⟨_, rfl⟩
  rw [haw] at ham
  have hA : wrap64 ((p : Int) % (t.size : Int)) = (a : Int) := by rw [← haw]; unfold wrap64; omega
  clear haw
  obtain ⟨j, h1, h2, h3, h4⟩ := first_stop t hlast _ a rfl ham
  have H3 : Hid ((t.data.toList.getD j 0).toNat < 128) := h3
  have H4 : Hid (∀ i, a ≤ i → i < j → 128 ≤ (t.data.toList.getD i 0).toNat) := h4
  clear h3 h4 hlast
  go_enter Yba.func3, Yba.ntmps3
  go_wp2_with (go_at_call 5; refine (uv_any t a j _ (by omega) h1 h2 H4.out H3.out).mono ?_; rintro e w ⟨rfl, rfl⟩)
  clear hA
  go_loop [9] (fun x => ∃ k : Nat, a ≤ k ∧ k ≤ j ∧ x = .int .i64 k) (fun x => j - (intOf x).toNat)
  case atStart => exact ⟨a, Nat.le_refl _, h1, rfl⟩
  case round =>
    obtain ⟨k, hk1, hk2, rfl⟩ := hrel
    have hlt : k < t.size := by omega
    have hlt' : (k : Int) < (t.size : Int) := by omega
    by_cases e : k = j
    · have hst : ¬ (128 : Int) ≤ (t[k].toNat : Int) := by rw [← at_eq t k hlt, e]; have := H3.out; omega
      subst e
      clear hT
      go_wp2
      go_loop [10, 11] (fun x y => ∃ i : Nat, i ≤ k + 1 - a ∧ x = .int .u64 (X t (a + i) (k + 1 - a - i) : Nat) ∧ y = .int .i64 ((a : Int) + (i : Int) - 1)) (fun _ y => (intOf y - a + 1).toNat)
      case atStart => exact ⟨k + 1 - a, Nat.le_refl _, by rw [Nat.sub_self]; rfl, by congr 1; omega⟩
      case round =>
        obtain ⟨i, hi, rfl, rfl⟩ := hrel
        match i, hi with
        | 0, hi =>
          go_wp2
          go_ret
          exact ⟨rfl, rfl⟩
        | i + 1, hi =>
          have e : (a : Int) + ((i + 1 : Nat) : Int) - 1 = ((a + i : Nat) : Int) := by omega
          rw [e]
          clear e
          have hlt2 : a + i < t.size := by omega
          have hlt2' : (a : Int) + (i : Int) < (t.size : Int) := by omega
          have f1 := and127 t (a + i) hlt2
          have f2 := wrapdig t (a + i)
          have f3 := or_horner t (a + i) (k + 1 - a - (i + 1))
          generalize hde : dig t (a + i) = d at f1 f2 f3
          have F3 : Hid _ := f3
          clear f3 hde
          go_wp2
          go_round
          case rel => exact ⟨i, by omega, by rw [show k + 1 - a - i = k + 1 - a - (i + 1) + 1 by omega]; exact congrArg (Value.int .u64) F3.out, rfl⟩
          case measure => simp [intOf]; omega
    · have hst : (128 : Int) ≤ (t[k].toNat : Int) := by rw [← at_eq t k hlt]; have := H4.out k (by omega) (by omega); omega
      go_wp2
      go_round
      case rel => exact ⟨k + 1, by omega, by omega, by go_num⟩
      case measure => simp [intOf]; omega

end Go.Proofs.Ybulkdifw.uv
