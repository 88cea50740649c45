/-
  LAW A: the method List.
-/
import Derived.Test.YbulkdifiAParts
import Derived.Maps.AppendAt
namespace Go.Proofs.Ybulkdifi.lawA
open Go.RowKit

/-- The opcodes of the places that hold a handler, in increasing order, among the first k. -/
def L (S : Nat → Bool) : Nat → List Int
  | 0 => []
  | k + 1 => if S k then L S k ++ [128 + (k : Int)] else L S k

theorem L_le (S : Nat → Bool) : ∀ k, (L S k).length ≤ k
  | 0 => Nat.le_refl _
  | k + 1 => by
    have := L_le S k
    rw [L]; split
    · simp; omega
    · omega
theorem L_hit {S : Nat → Bool} {k : Nat} (h : S k = true) : L S (k + 1) = L S k ++ [128 + (k : Int)] := by rw [L, if_pos h]
theorem L_miss {S : Nat → Bool} {k : Nat} (h : S k = false) : L S (k + 1) = L S k := by rw [L, if_neg (by simp [h])]

theorem Yba.info55 : (Yba.prog.info? 55).map (fun i => (i.zero, i.size, i.bytes)) = some (some (.int .u8 0), 1, 1) := by kernel_rfl

set_option maxHeartbeats 400000 in
theorem list_nilrecv (w : World) : Calls Yba.prog 5 #[.pointer none] w fun e w' => e = .returned (.slice none 0 0) ∧ w' = w := by
  go_enter Yba.func5, Yba.ntmps5
  go_wp2_with (go_at_call 11; refine (snap_nilrecv _).mono ?_; rintro e w' ⟨rfl, rfl⟩)
  go_ret
  exact ⟨rfl, rfl⟩

set_option maxHeartbeats 400000 in
theorem list_nil (rb : Nat) (w : World) (hc : w.cell? ⟨rb, 2, none⟩ = some (.pointer none)) : Calls Yba.prog 5 #[.pointer (some ⟨rb, 0, none⟩)] w fun e w' => e = .returned (.slice none 0 0) ∧ w' = w := by
  go_enter Yba.func5, Yba.ntmps5
  go_wp2_with (go_at_call 11; refine (snap_nil _ _ hc).mono ?_; rintro e w' ⟨rfl, rfl⟩)
  go_ret
  exact ⟨rfl, rfl⟩

set_option maxHeartbeats 1000000 in
set_option maxRecDepth 100000 in
theorem list_some (rb tb bm : Nat) (S : Nat → Bool) (fr : Nat × Nat) (w : World) (hc : w.cell? ⟨rb, 2, none⟩ = some (.pointer (some ⟨tb, 0, none⟩))) (hg : w.heap[tb]? = some (.cells (tab S bm) 50 fr)) :
    Calls Yba.prog 5 #[.pointer (some ⟨rb, 0, none⟩)] w fun e w' => ∃ v, e = .returned v ∧ w'.ownsRow w.heap.size 55 1 v (L S 128).length ((L S 128).map (Value.int .u8)) ∧ Below w.heap.size w w' ∧ (L S 128 = [] → v = .slice none 0 0) := by
  obtain ⟨i0, hi, hz0, hz1, hz2⟩ := info_parts Yba.info55
  have HG : Hid (w.heap[tb]? = some (.cells (tab S bm) 50 fr)) := hg
  clear hg
  go_enter Yba.func5, Yba.ntmps5
  go_wp2_with (first
    | (go_at_call 11; refine (snap_some _ _ bm S fr _ hc HG.out).mono ?_; rintro e w ⟨rfl, rfl⟩)
    | (refine wpList_load47 rfl (.tmp 13) rfl tb bm S rfl 50 fr HG.out ?_))
  go_loopw [4, 15] (fun v i wr => ∃ k : Nat, k ≤ 128 ∧ i = .int .i64 k ∧ wr.ownsRow w.heap.size 55 1 v (L S k).length ((L S k).map (Value.int .u8)) ∧ Below w.heap.size w wr ∧ (L S k = [] → v = .slice none 0 0))
    (fun _ i _ => 128 - (intOf i).toNat)
  case atStart => exact ⟨0, Nat.zero_le _, rfl, World.ownsRow_nil _ _ _ _, Below.refl _ _, fun _ => rfl⟩
  case round =>
    obtain ⟨k, hk, rfl, hown, hnx, hnil⟩ := hrel
    have hll := L_le S k
    by_cases hlt : k < 128
    · cases hS : S k
      · have HS : Hid (S k = false) := hS
        clear hS
        go_wp2_with (first
          | (refine wpList_index47_f rfl (.tmp 14) (.tmp 15) rfl bm S k hlt HS.out rfl rfl ?_)
          | fail)
        go_roundw
        case rel => exact ⟨k + 1, by omega, by go_num, by rw [L_miss HS.out]; exact hown.alloc _, hnx.alloc hnx.size _, by rw [L_miss HS.out]; exact hnil⟩
        case measure => simp [intOf]; omega
      · have HS : Hid (S k = true) := hS
        clear hS
        go_wp2_with (first
          | (refine wpList_index47_t rfl (.tmp 14) (.tmp 15) rfl bm S k hlt HS.out rfl rfl ?_)
          | (at_builtin; refine wpList_append_own _ rfl _ _ 24 rfl w.heap.size 55 i0 (.int .u8 0) 1 1 Yba.underlying24 hi hz0 hz1 hz2 rfl (by decide) _ _ _ rfl ((hown.alloc _).alloc _) ⟨wr.heap.size + 1, 0, none⟩ 1 1 [.int .u8 (128 + (k : Int))] rfl rfl ?c1 ?c2 ?c3 ?c4 ?c5 ?_))
        case c1 =>
          intro j u hj
          match j, hj with
          | 0, hj => simp at hj; subst hj; simp [Addr.add]
        case c2 => intro u hu; simp at hu; subst hu; rfl
        case c3 => unfold maxLen; omega
        case c4 => omega
        case c5 => have := hnx.size; simp; omega
        intro v' w1 hown' hgrow hvn
        have R1 : w1.ownsRow w.heap.size 55 1 v' (L S (k + 1)).length ((L S (k + 1)).map (Value.int .u8)) := by rw [L_hit HS.out]; simpa using hown'
        have hs := hnx.size
        have R2 : Below w.heap.size w w1 := ((hnx.alloc hs _).alloc (by simp; omega) _).grown hgrow (by simp; omega) (fun j hj => (hown.lt j hj).1)
        clear hown' hgrow hown hvn hnil
        go_wp2
        go_roundw
        case rel => exact ⟨k + 1, by omega, by go_num, R1, R2, fun h => absurd h (by rw [L_hit HS.out]; simp)⟩
        case measure => simp [intOf]; omega
    · go_wp2
      obtain rfl : k = 128 := by omega
      go_ret
      exact ⟨_, rfl, hown, hnx, hnil⟩

theorem L_pre (S : Nat → Bool) (t : Nat) : ∀ d, ∃ r, L S (t + d) = L S t ++ r
  | 0 => ⟨[], by simp⟩
  | d + 1 => by
    obtain ⟨r, hr⟩ := L_pre S t d
    rw [show t + (d + 1) = t + d + 1 by omega, L]
    split
    · exact ⟨r ++ [128 + ((t + d : Nat) : Int)], by rw [hr, List.append_assoc]⟩
    · exact ⟨r, hr⟩

theorem L_at {S : Nat → Bool} {t k : Nat} (ht : t < k) (h : S t = true) : (L S k)[(L S t).length]? = some (128 + (t : Int)) ∧ (L S t).length < (L S k).length := by
  obtain ⟨r, hr⟩ := L_pre S (t + 1) (k - (t + 1))
  rw [show t + 1 + (k - (t + 1)) = k by omega, L_hit h] at hr
  rw [hr]
  exact ⟨by simp, by simp⟩

theorem list_any (rb tb bm : Nat) (S : Nat → Bool) (fr : Nat × Nat) (w : World) (hc : w.cell? ⟨rb, 2, none⟩ = some (.pointer (some ⟨tb, 0, none⟩))) (hg : w.heap[tb]? = some (.cells (tab S bm) 50 fr)) :
    Calls Yba.prog 5 #[.pointer (some ⟨rb, 0, none⟩)] w fun e w' => ∃ (ao : Option Addr) (cp : Nat), e = .returned (.slice ao (L S 128).length cp) ∧
      (∀ t, t < 128 → S t = true → ∃ g, ao = some ⟨g, 0, none⟩ ∧ w'.cell? ⟨g, (L S t).length, none⟩ = some (.int .u8 (128 + (t : Int))) ∧ (L S t).length < (L S 128).length) ∧
      (L S 128 = [] → ao = none) ∧ Below w.heap.size w w' := by
  refine (list_some rb tb bm S fr w hc hg).mono ?_
  rintro e w' ⟨v, rfl, hown, hb, hnil⟩
  have hcells := hown
  obtain ⟨_, ⟨rfl, hn⟩ | ⟨g, cap, cur, rfl, _, _, _⟩⟩ := hown
  · have hL : L S 128 = [] := List.eq_nil_of_length_eq_zero hn
    refine ⟨none, 0, by rw [hn], fun t ht hS => ?_, fun _ => rfl, hb⟩
    have := (L_at ht hS).2
    omega
  · refine ⟨some ⟨g, 0, none⟩, cap, rfl, fun t ht hS => ⟨g, rfl, ?_, (L_at ht hS).2⟩, fun h => ?_, hb⟩
    · have := hcells.cells (g := g) rfl (L S t).length (.int .u8 (128 + (t : Int))) (by rw [List.getElem?_map, (L_at ht hS).1]; rfl)
      rw [show (⟨g, 0, none⟩ : Addr).add (L S t).length = ⟨g, (L S t).length, none⟩ by unfold Addr.add; split <;> simp_all] at this
      exact this
    · have := hnil h
      simp at this

end Go.Proofs.Ybulkdifi.lawA
