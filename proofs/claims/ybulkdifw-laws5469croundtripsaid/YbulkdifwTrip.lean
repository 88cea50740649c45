/-
  LawS5469CRoundTrip's walk.
-/
import Derived.Test.YbulkdifwApp
namespace Go.Proofs.Ybulkdifw.uv
open Go.RowKit

/-- Bytes that lie in a text spell there what they spell. -/
theorem V_val (t : ByteArray) : ∀ (l : List UInt8) (a : Nat), (∀ j (hj : j < l.length), t.data.toList.getD (a + j) 0 = l[j]) → V t a l.length = val l
  | [], a, _ => rfl
  | b :: r, a, h => by
    have h0 := h 0 (by simp)
    have hr := V_val t r (a + 1) (fun j hj => by
      have := h (j + 1) (by simp; omega)
      rw [show a + 1 + j = a + (j + 1) by omega, this]; rfl)
    rw [List.length_cons, V_cons, hr, val, dig]
    rw [Nat.add_zero] at h0
    rw [h0]; rfl

/-- The text of the law. -/
theorem text_at (p : ByteArray) (l : List UInt8) (q : ByteArray) (j : Nat) (hj : j < l.length) : (p ++ ⟨l.toArray⟩ ++ q).data.toList.getD (p.size + j) 0 = l[j] := by
  have h2 : (p ++ ⟨l.toArray⟩ ++ q : ByteArray).data.toList = p.data.toList ++ l ++ q.data.toList := by simp [ByteArray.data_append]
  have h3 : p.data.toList.length = p.size := rfl
  rw [h2, List.getD, List.getElem?_append_left (by simp [h3]; omega), List.getElem?_append_right (by omega), h3, Nat.add_sub_cancel_left, List.getElem?_eq_getElem hj]
  rfl

theorem uv_text (s q : ByteArray) (l : List UInt8) (v : Nat) (w : World) (hs : s.size ≤ 1048576) (hq : q.size ≤ 1048576) (hv : v < 18446744073709551616) (hG : Good l v) :
    Calls Yba.prog 5 #[.string (s ++ ⟨l.toArray⟩ ++ q), .int .i64 s.size] w fun e w' => e = .returned (.tuple #[.int .u64 v, .int .i64 ((s.size : Int) + (l.length : Int))]) ∧ w' = w := by
  have hsz : (s ++ ⟨l.toArray⟩ ++ q : ByteArray).size = s.size + l.length + q.size := by simp [ByteArray.size_append]; rfl
  obtain ⟨h1, h2, pre, b, rfl, h3, h4⟩ := hG
  have hat := text_at s (pre ++ [b]) q
  have hVv := V_val (s ++ ⟨(pre ++ [b]).toArray⟩ ++ q) (pre ++ [b]) s.size hat
  obtain ⟨t, ht⟩ : ∃ t, (s ++ ⟨(pre ++ [b]).toArray⟩ ++ q : ByteArray) = t := ⟨_, rfl⟩
  rw [ht] at hsz hat hVv
  rw [ht]
  have hl : (pre ++ [b]).length = pre.length + 1 := by simp
  rw [hl] at hsz h2 hVv
  have hX : X t s.size (s.size + pre.length + 1 - s.size) = v := by
    rw [show s.size + pre.length + 1 - s.size = pre.length + 1 by omega, X, hVv, h1, Nat.mod_eq_of_lt hv]
  refine (uv_any t s.size (s.size + pre.length) w (by omega) (by omega) (by omega) ?_ ?_).mono ?_
  · intro i hi1 hi2
    have := hat (i - s.size) (by rw [hl]; omega)
    rw [show s.size + (i - s.size) = i by omega] at this
    rw [this, List.getElem_append_left (by omega)]
    exact h3 _ (List.getElem_mem _)
  · have := hat pre.length (by rw [hl]; omega)
    rw [this, List.getElem_append_right (by omega)]
    simpa using h4
  · rintro e w' ⟨rfl, hw⟩
    rw [hX, hl]
    exact ⟨ret_two rfl (by omega), hw⟩

set_option maxHeartbeats 400000 in
theorem trip_long (s q : ByteArray) (v : Int) (w : World) (hn : 1048576 < s.size) (hm : s.size ≤ maxLen) :
    Calls Yba.prog 4 #[.string s, .string q, .int .u64 v] w fun e w' => e = .returned (.bool true) ∧ Below w.heap.size w w' := by
  unfold maxLen at hm
  have hd : (1048576 : Int) < (s.size : Int) := by omega
  go_enter Yba.func4, Yba.ntmps4
  go_wp2
  go_ret
  exact ⟨rfl, Below.refl _ _⟩

set_option maxHeartbeats 400000 in
theorem trip_longQ (s q : ByteArray) (v : Int) (w : World) (hs : s.size ≤ 1048576) (hn : 1048576 < q.size) (hm : q.size ≤ maxLen) :
    Calls Yba.prog 4 #[.string s, .string q, .int .u64 v] w fun e w' => e = .returned (.bool true) ∧ Below w.heap.size w w' := by
  unfold maxLen at hm
  have hd : (1048576 : Int) < (q.size : Int) := by omega
  have hd2 : ¬ (1048576 : Int) < (s.size : Int) := by omega
  go_enter Yba.func4, Yba.ntmps4
  go_wp2
  go_ret
  exact ⟨rfl, Below.refl _ _⟩

set_option maxHeartbeats 400000 in
set_option maxRecDepth 100000 in
theorem trip_any (s q : ByteArray) (v : Nat) (w : World) (hs : s.size ≤ 1048576) (hq : q.size ≤ 1048576) (hv : v < 18446744073709551616) :
    Calls Yba.prog 4 #[.string s, .string q, .int .u64 v] w fun e w' => e = .returned (.bool true) ∧ Below w.heap.size w w' := by
  go_enter Yba.func4, Yba.ntmps4
  go_wp2_with (first
    | (go_at_call 6; refine (app_any v hv _).mono ?_; rintro e w1 ⟨g, cap, l, rfl, hgood, hcells, hb⟩; have hcv := run_convert_bytes_back (P := Yba.prog) w1 27 9 5 ⟨g, 0, none⟩ cap l Yba.underlying27 Yba.underlying5 Yba.underlying9 hcells; have hl10 := hgood.2.1; have HG : Hid (Good l v) := hgood; clear hgood hcells)
    | (go_at_call 5; refine (uv_text s q l v _ hs hq hv HG.out).mono ?_; rintro e w2 ⟨rfl, rfl⟩))
  go_ret
  exact ⟨rfl, hb⟩

end Go.Proofs.Ybulkdifw.uv
