/-
  LAW B's parts: the callees' contracts.
-/
import Derived.Test.YbulkdifiRows
import Derived.WalkKit
import Derived.WalkSpells
import Derived.WalkLawsBesides
import Derived.Maps.OwnSet
import Derived.Maps.OwnOps
namespace Go.Proofs.Ybulkdifi.lawB
open Go.RowKit Go.Maps Go.WideMaps

/-- The opcode that the law lays at place i. -/
def opAt (lo : Nat) (zs : List Int) (i : Nat) : Int := if lo = 0 then 0 else zs.getD (i % lo) 0

theorem opAt_wf {lo : Nat} {zs : List Int} (hl : lo ≤ zs.length) (hz : ∀ n ∈ zs, (Lit.int .u8 n).wf = true) (i : Nat) : (Lit.int .u8 (opAt lo zs i)).wf = true := by
  unfold opAt
  split
  · decide
  · have h : i % lo < zs.length := Nat.lt_of_lt_of_le (Nat.mod_lt _ (by omega)) hl
    rw [List.getD, List.getElem?_eq_getElem h]
    exact hz _ (List.getElem_mem h)

set_option maxHeartbeats 400000 in
theorem bop_none (a : Option Addr) (cap : Nat) (zs : List Int) (i : Nat) (w : World) :
    Calls Yba.prog 9 #[.slice a 0 cap, .int .i64 i] w fun e w' => e = .returned (.int .u8 (opAt 0 zs i)) ∧ w' = w := by
  go_enter Yba.func9, Yba.ntmps9
  go_wp2
  go_ret
  exact ⟨rfl, rfl⟩

set_option maxHeartbeats 400000 in
theorem bop_some (b off lo cap : Nat) (zs : List Int) (i : Nat) (w : World) (hi : i < 2097152) (h0 : 0 < lo) (hlo : lo ≤ 1048576) (hl : lo ≤ zs.length)
    (hc : ∀ j, j < zs.length → w.cell? ⟨b, off + j, none⟩ = some (.int .u8 (zs.getD j 0))) :
    Calls Yba.prog 9 #[.slice (some ⟨b, off, none⟩) lo cap, .int .i64 i] w fun e w' => e = .returned (.int .u8 (opAt lo zs i)) ∧ w' = w := by
  have hm : i % lo < lo := Nat.mod_lt _ h0
  have hcx := hc (i % lo) (by omega)
  have hne : ((lo : Int) == 0) = false := by simp; omega
  go_enter Yba.func9, Yba.ntmps9
  go_wp2
  go_ret
  refine ⟨?_, rfl⟩
  show Ending.returned (.int .u8 (zs[i % lo]?.getD 0)) = _
  rw [opAt, if_neg (by omega)]
  rfl

/-! The map as a ghost: after k rounds. -/
def keyAt (ss : List ByteArray) (k : Nat) : Lit := .string (ss.getD k ByteArray.empty).data.toList

def C (ss : List ByteArray) (lo : Nat) (zs : List Int) : Nat → DataW Unit
  | 0 => .map []
  | k + 1 => (C ss lo zs k).put (keyAt ss k) (.lit (.int .u8 (opAt lo zs k)))

/-- What the law wants after k rounds: the opcode and whether it is there. -/
def want (ss : List ByteArray) (lo : Nat) (zs : List Int) (q : ByteArray) : Nat → Int × Bool
  | 0 => (0, false)
  | k + 1 => if (ss.getD k ByteArray.empty).toList == q.toList then (opAt lo zs k, true) else want ss lo zs q k

theorem want_hit {ss : List ByteArray} {lo : Nat} {zs : List Int} {q s : ByteArray} {m : Nat} (hs : Hid (s = ss.getD m ByteArray.empty)) (h : (s.toList == q.toList) = true) : want ss lo zs q (m + 1) = (opAt lo zs m, true) := by
  rw [want, ← hs.out, if_pos h]
theorem want_miss {ss : List ByteArray} {lo : Nat} {zs : List Int} {q s : ByteArray} {m : Nat} (hs : Hid (s = ss.getD m ByteArray.empty)) (h : (s.toList == q.toList) = false) : want ss lo zs q (m + 1) = want ss lo zs q m := by
  rw [want, ← hs.out, if_neg (by simp [h])]

theorem law : Keyed Yba.prog 9 := string_keyed Yba.underlying9
theorem zero55 (w : World) : (zeroValue 55).run Yba.prog w = .ok (.int .u8 0) w := by kernel_rfl

theorem isMap_C (ss : List ByteArray) (lo : Nat) (zs : List Int) : ∀ k, IsMap (C ss lo zs k)
  | 0 => isMap_empty
  | k + 1 => (isMap_C ss lo zs k).put _ _

theorem toList_data (s : ByteArray) : s.toList = s.data.toList := ByteArray.toList_eq s

theorem want_ok (ss : List ByteArray) (lo : Nat) (zs : List Int) (q : ByteArray) : ∀ k,
    (C ss lo zs k).atKey (.string q.data.toList) (.lit (.int .u8 0)) = .lit (.int .u8 (want ss lo zs q k).1) ∧ Maps.has (C ss lo zs k) (.string q.data.toList) = (want ss lo zs q k).2
  | 0 => ⟨rfl, rfl⟩
  | k + 1 => by
    by_cases h : (ss.getD k ByteArray.empty).toList == q.toList
    · have e : keyAt ss k = .string q.data.toList := by
        rw [keyAt, ← toList_data, ← toList_data]; simpa using h
      rw [want, if_pos h, C, e]
      exact ⟨atKey_put_same (isMap_C ss lo zs k) (show WideAt.IsKeyLit (.string _) from trivial) _ _, has_put_same (isMap_C ss lo zs k) (show WideAt.IsKeyLit (.string _) from trivial) _⟩
    · have e : Lit.string q.data.toList ≠ keyAt ss k := by
        rw [keyAt, ← toList_data, ← toList_data]; intro h'; apply h; simp at h'; simp [h']
      rw [want, if_neg h, C, atKey_put_other e, has_put_other e]
      exact want_ok ss lo zs q k

theorem key_ok {q : ByteArray} (hq : q.size ≤ maxLen) : keyOf Yba.prog 9 (.string q) = some (.string q.data.toList) := keyOf_string_mk Yba.underlying9 hq

theorem size_at {ss : List ByteArray} (hsz : ∀ s ∈ ss, s.size ≤ maxLen) (k : Nat) : (ss.getD k ByteArray.empty).size ≤ maxLen := by
  by_cases hk : k < ss.length
  · rw [List.getD, List.getElem?_eq_getElem hk]
    exact hsz _ (List.getElem_mem hk)
  · rw [List.getD, List.getElem?_eq_none (by omega)]
    exact Nat.zero_le _

set_option maxHeartbeats 400000 in
theorem opcode_nil (q : ByteArray) (w : World) :
    Calls Yba.prog 10 #[.pointer none, .string q] w fun e w' => e = .returned (.tuple #[.int .u8 0, .bool false]) ∧ w' = w := by
  go_enter Yba.func10, Yba.ntmps10
  go_wp2
  go_ret2
  exact ⟨rfl, rfl⟩

set_option maxHeartbeats 400000 in
theorem opcode_some (tb bm n : Nat) (D : DataW Unit) (q : ByteArray) (w : World) (hq : q.size ≤ maxLen) (hc : w.cell? ⟨tb, 256, none⟩ = some (.map (some bm)))
    (hown : w.ownsMap Yba.prog 9 (plainElem Yba.prog 55) bm n D) :
    Calls Yba.prog 10 #[.pointer (some ⟨tb, 0, none⟩), .string q] w fun e w' => ∃ c, e = .returned (.tuple #[.int .u8 c, .bool (Maps.has D (.string q.data.toList))]) ∧ D.atKey (.string q.data.toList) (.lit (.int .u8 0)) = .lit (.int .u8 c) ∧ w' = w := by
  have hkey := key_ok hq
  go_enter Yba.func10, Yba.ntmps10
  go_wp2_with (first
    | (at_lookup; refine wpList_lookup_own_ok_int _ rfl _ _ 48 rfl 9 55 .u8 law Yba.underlying48 Yba.underlying55 (zero55 _) bm n D rfl hown _ _ rfl hkey ?_; intro c hat hwc)
    | go_in)
  go_ret2
  exact ⟨c, rfl, hat, rfl⟩

/-- The table's look-up gives what the law wants. -/
theorem opcode_want (tb bm n : Nat) (ss : List ByteArray) (lo : Nat) (zs : List Int) (q : ByteArray) (w : World) (hq : q.size ≤ maxLen) (hc : w.cell? ⟨tb, 256, none⟩ = some (.map (some bm)))
    (hown : w.ownsMap Yba.prog 9 (plainElem Yba.prog 55) bm n (C ss lo zs n)) :
    Calls Yba.prog 10 #[.pointer (some ⟨tb, 0, none⟩), .string q] w fun e w' => e = .returned (.tuple #[.int .u8 (want ss lo zs q n).1, .bool (want ss lo zs q n).2]) ∧ w' = w := by
  refine (opcode_some tb bm n (C ss lo zs n) q w hq hc hown).mono ?_
  rintro e w' ⟨c, rfl, hat, hw⟩
  obtain ⟨h1, h2⟩ := want_ok ss lo zs q n
  rw [h1] at hat
  rw [h2]
  simp only [DataW.lit.injEq, Lit.int.injEq, true_and] at hat
  rw [hat]
  exact ⟨rfl, hw⟩

/-- One key, looked up in two maps that read alike: one number. -/
theorem look_two {b1 b2 n : Nat} {D : DataW Unit} {w : World} {key : Value} {kl : Lit} (h1 : w.ownsMap Yba.prog 9 (plainElem Yba.prog 55) b1 n D) (h2 : w.ownsMap Yba.prog 9 (plainElem Yba.prog 55) b2 n D) (hkey : keyOf Yba.prog 9 key = some kl) :
    ∃ c : Int, (∀ nd, (Instr.lookup 48 (.map (some b1)) key false).run Yba.prog (w.drewN nd) = .ok (.int .u8 c) (w.drewN nd)) ∧ (∀ nd, (Instr.lookup 48 (.map (some b2)) key false).run Yba.prog (w.drewN nd) = .ok (.int .u8 c) (w.drewN nd)) := by
  have e1 : ∀ nd, (w.drewN nd).ownsMap Yba.prog 9 (plainElem Yba.prog 55) b1 n D := fun _ => h1
  have e2 : ∀ nd, (w.drewN nd).ownsMap Yba.prog 9 (plainElem Yba.prog 55) b2 n D := fun _ => h2
  obtain ⟨c, _, hc, _⟩ := h1.lookup_int law Yba.underlying48 Yba.underlying55 (zero55 _) hkey
  refine ⟨c, fun nd => ?_, fun nd => ?_⟩
  · obtain ⟨c', hr, hc', _⟩ := (e1 nd).lookup_int law Yba.underlying48 Yba.underlying55 (zero55 _) hkey
    rw [hc] at hc'
    simp only [DataW.lit.injEq, Lit.int.injEq, true_and] at hc'
    rw [hr, hc']
  · obtain ⟨c', hr, hc', _⟩ := (e2 nd).lookup_int law Yba.underlying48 Yba.underlying55 (zero55 _) hkey
    rw [hc] at hc'
    simp only [DataW.lit.injEq, Lit.int.injEq, true_and] at hc'
    rw [hr, hc']

end Go.Proofs.Ybulkdifi.lawB
