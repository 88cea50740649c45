/-
  LAW B's other walks: a nil table; no name; a slice that is too long.
-/
import Derived.Test.YbulkdifiBWalks
namespace Go.Proofs.Ybulkdifi.lawB
open Go.RowKit Go.Maps Go.WideMaps

set_option maxHeartbeats 400000 in
theorem walk_long (isNil : Bool) (a : Option Addr) (n cap : Nat) (ao : Option Addr) (lo capo : Nat) (query : ByteArray) (p : Nat) (w : World) (hn : 1048576 < n) (hm : n ≤ maxLen) :
    Calls Yba.prog 4 #[.bool isNil, .slice a n cap, .slice ao lo capo, .string query, .int .u8 p] w fun e w' => e = .returned (.bool true) ∧ Below w.heap.size w w' := by
  unfold maxLen at hm
  have hd : (1048576 : Int) < (n : Int) := by omega
  go_enter Yba.func4, Yba.ntmps4
  go_wp2
  go_ret
  exact ⟨rfl, Below.refl _ _⟩

set_option maxHeartbeats 400000 in
theorem walk_longO (isNil : Bool) (a : Option Addr) (n cap : Nat) (ao : Option Addr) (lo capo : Nat) (query : ByteArray) (p : Nat) (w : World) (hn : n ≤ 1048576) (hlo : 1048576 < lo) (hm : lo ≤ maxLen) :
    Calls Yba.prog 4 #[.bool isNil, .slice a n cap, .slice ao lo capo, .string query, .int .u8 p] w fun e w' => e = .returned (.bool true) ∧ Below w.heap.size w w' := by
  unfold maxLen at hm
  have hd : (1048576 : Int) < (lo : Int) := by omega
  have hd2 : ¬ (1048576 : Int) < (n : Int) := by omega
  go_enter Yba.func4, Yba.ntmps4
  go_wp2
  go_ret
  exact ⟨rfl, Below.refl _ _⟩

set_option maxHeartbeats 400000 in
theorem walk_nil (b off n cap : Nat) (ss : List ByteArray) (ao : Option Addr) (lo capo : Nat) (query : ByteArray) (p : Nat) (w : World)
    (hn : n ≤ 1048576) (h0 : 0 < n) (hz : n ≤ ss.length) (hc : ∀ j, j < ss.length → w.cell? ⟨b, off + j, none⟩ = some (.string (ss.getD j ByteArray.empty)))
    (hlo : lo ≤ 1048576) (hp1 : p ≤ 255) :
    Calls Yba.prog 4 #[.bool true, .slice (some ⟨b, off, none⟩) n cap, .slice ao lo capo, .string query, .int .u8 p] w fun e w' => e = .returned (.bool true) ∧ Below w.heap.size w w' := by
  have hno : ∀ (x : Bool) (w : World), (Op.unary .not (.bool x)).run Yba.prog w = .ok (.bool (!x)) w := fun _ _ => rfl
  have hpm : p / 2 % n < n := Nat.mod_lt _ h0
  have hpc := hc (p / 2 % n) (by omega)
  have hpi : 0 ≤ (p : Int) / 2 % (n : Int) := Int.emod_nonneg _ (by omega)
  have hpj : (p : Int) / 2 % (n : Int) < (n : Int) := Int.emod_lt_of_pos _ (by omega)
  by_cases hp : p % 2 = 1
  · go_enter Yba.func4, Yba.ntmps4
    go_wp2_with (go_at_call 10; refine (opcode_nil _ _).mono ?_; rintro e w' ⟨rfl, rfl⟩)
    go_ret
    exact ⟨rfl, Below.refl _ _⟩
  · go_enter Yba.func4, Yba.ntmps4
    go_wp2_with (go_at_call 10; refine (opcode_nil _ _).mono ?_; rintro e w' ⟨rfl, rfl⟩)
    go_ret
    exact ⟨rfl, Below.refl _ _⟩

set_option maxHeartbeats 400000 in
theorem walk_nil0 (a : Option Addr) (cap : Nat) (ao : Option Addr) (lo capo : Nat) (query : ByteArray) (p : Nat) (w : World) (hlo : lo ≤ 1048576) (hp1 : p ≤ 255) :
    Calls Yba.prog 4 #[.bool true, .slice a 0 cap, .slice ao lo capo, .string query, .int .u8 p] w fun e w' => e = .returned (.bool true) ∧ Below w.heap.size w w' := by
  have hno : ∀ (x : Bool) (w : World), (Op.unary .not (.bool x)).run Yba.prog w = .ok (.bool (!x)) w := fun _ _ => rfl
  by_cases hp : p % 2 = 1
  · go_enter Yba.func4, Yba.ntmps4
    go_wp2_with (go_at_call 10; refine (opcode_nil _ _).mono ?_; rintro e w' ⟨rfl, rfl⟩)
    go_ret
    exact ⟨rfl, Below.refl _ _⟩
  · go_enter Yba.func4, Yba.ntmps4
    go_wp2_with (go_at_call 10; refine (opcode_nil _ _).mono ?_; rintro e w' ⟨rfl, rfl⟩)
    go_ret
    exact ⟨rfl, Below.refl _ _⟩

set_option maxHeartbeats 400000 in
set_option maxRecDepth 100000 in
theorem walk_none (a : Option Addr) (cap : Nat) (ss : List ByteArray) (ao : Option Addr) (lo capo : Nat) (zs : List Int) (query : ByteArray) (p : Nat) (w : World) (hlo : lo ≤ 1048576) (hp1 : p ≤ 255) (hq : query.size ≤ maxLen) :
    Calls Yba.prog 4 #[.bool false, .slice a 0 cap, .slice ao lo capo, .string query, .int .u8 p] w fun e w' => e = .returned (.bool true) ∧ Below w.heap.size w w' := by
  have hmm := @run_makeMap Yba.prog
  have hno : ∀ (x : Bool) (w : World), (Op.unary .not (.bool x)).run Yba.prog w = .ok (.bool (!x)) w := fun _ _ => rfl
  have hown : ((w.alloc (.map #[] 0)).alloc (.map #[] 0)).ownsMap Yba.prog 9 (plainElem Yba.prog 55) w.heap.size 0 (C ss lo zs 0) := (World.ownsMap_made _ _ _ _).alloc _
  have hown2 : ((w.alloc (.map #[] 0)).alloc (.map #[] 0)).ownsMap Yba.prog 9 (plainElem Yba.prog 55) (w.heap.size + 1) 0 (C ss lo zs 0) := by simpa [C] using World.ownsMap_made (w.alloc (.map #[] 0)) Yba.prog 9 (plainElem (H := Unit) Yba.prog 55)
  have hct := tbl_cell w.heap.size ((w.alloc (.map #[] 0)).alloc (.map #[] 0))
  simp only [World.size_alloc] at hct
  by_cases hp : p % 2 = 1
  all_goals
    go_enter Yba.func4, Yba.ntmps4
    go_wp2
    refine wp_loop_rounds 1 ?_
    rw [rounds_succ]
    go_wp2_with (first | (refine wpList_tbl rfl (.tmp 56) rfl w.heap.size rfl ?_) | go_in)
    refine wp_loop_rounds 1 ?_
    rw [rounds_succ]
    go_wp2_with (first
      | (go_at_call 10; refine (opcode_want _ _ 0 ss lo zs query _ hq hct (hown.alloc _)).mono ?_; rintro e w' ⟨rfl, rfl⟩)
      | (at_len; refine wpList_len_own _ rfl (.tmp 110) 48 rfl 9 55 Yba.underlying48 _ w.heap.size 0 _ rfl (hown.alloc _) ?_)
      | (at_len; refine wpList_len_own _ rfl (.tmp 112) 48 rfl 9 55 Yba.underlying48 _ (w.heap.size + 1) 0 _ rfl (hown2.alloc _) ?_))
    refine wp_loop_rounds 1 ?_
    rw [rounds_succ]
    go_wp2
    go_ret
    exact ⟨rfl, (((Below.refl _ _).alloc (Nat.le_refl _) _).alloc (by simp) _).alloc (by simp; omega) _⟩

end Go.Proofs.Ybulkdifi.lawB
