/-
  LAW A: the two blocks that the law fills, as ghosts; what a store does to them.
-/
import Derived.Test.YbulkdifiAList
import Derived.LaidEql
namespace Go.Proofs.Ybulkdifi.lawA
open Go.RowKit

def ins (S : Nat → Bool) (m : Nat) : Nat → Bool := fun j => S j || (j == m)
def no : Nat → Bool := fun _ => false
/-- The places that the first k marks pick. -/
def Sk (zs : List Int) : Nat → Nat → Bool
  | 0 => no
  | k + 1 => ins (Sk zs k) ((zs.getD k 0).toNat % 128)

def wAt (S : Nat → Bool) (i : Nat) : Bool := decide (128 ≤ i) && S (i - 128)
def wnt (S : Nat → Bool) : Array Value := Array.ofFn (n := 256) fun i => .bool (wAt S i)
theorem wnt_size (S : Nat → Bool) : (wnt S).size = 256 := by simp [wnt]
theorem wnt_get (S : Nat → Bool) (i : Nat) (h : i < 256) : (wnt S)[i]? = some (.bool (wAt S i)) := by simp [wnt, h]

theorem wnt_ins (S : Nat → Bool) (m : Nat) (h : m < 128) : (wnt S).setIfInBounds (128 + m) (.bool true) = wnt (ins S m) := by
  apply Array.ext_getElem?
  intro i
  by_cases hi : i < 256
  · rw [wnt_get _ i hi, Array.getElem?_setIfInBounds]
    by_cases e : 128 + m = i
    · rw [if_pos e, if_pos (by rw [wnt_size]; omega)]
      have e2 : wAt (ins S m) i = true := by
        rw [wAt, ins, ← e, show 128 + m - 128 = m by omega]; simp
      rw [e2]
    · rw [if_neg e, wnt_get _ i hi]
      have e2 : wAt (ins S m) i = wAt S i := by
        rw [wAt, wAt, ins]
        by_cases hb : 128 ≤ i
        · have : (i - 128 == m) = false := by simp; omega
          rw [this]; simp
        · simp [hb]
      rw [e2]
  · rw [Array.getElem?_eq_none (by simp [wnt_size]; omega), Array.getElem?_eq_none (by rw [wnt_size]; omega)]

theorem tab_ins (S : Nat → Bool) (bm m : Nat) (h : m < 128) : ((tab S bm).setIfInBounds (m * 2) (.iface 53 (.agg #[.nilIface]))).setIfInBounds (m * 2 + 1) (.string ⟨#[88]⟩) = tab (ins S m) bm := by
  apply Array.ext_getElem?
  intro i
  by_cases hi : i < 257
  · rw [tab_get _ _ i hi, Array.getElem?_setIfInBounds]
    by_cases e : m * 2 + 1 = i
    · rw [if_pos e, if_pos (by simp [tab_size]; omega), ← e, cellAt_n _ _ m h]
      simp [ins, nv]
    · rw [if_neg e, Array.getElem?_setIfInBounds]
      by_cases e' : m * 2 = i
      · rw [if_pos e', if_pos (by rw [tab_size]; omega), ← e', cellAt_h _ _ m h]
        simp [ins, hv]
      · rw [if_neg e', tab_get _ _ i hi]
        have e2 : cellAt (ins S m) bm i = cellAt S bm i := by
          rw [cellAt, cellAt]
          by_cases h6 : i = 256
          · rw [if_pos h6, if_pos h6]
          · have : (i / 2 == m) = false := by simp; omega
            rw [if_neg h6, if_neg h6, ins, this]; simp
        rw [e2]
  · rw [Array.getElem?_eq_none (by simp [tab_size]; omega), Array.getElem?_eq_none (by rw [tab_size]; omega)]

theorem tab_no (bm : Nat) : Yba.prog.built 50 [(1, .map (some bm))] = some (tab no bm) := by kernel_rfl
theorem run_alloc51 (w : World) : (Instr.alloc 51 true (.tuple #[])).run Yba.prog w = .ok (.pointer (some ⟨w.heap.size, 0, none⟩)) (w.alloc (.cells (wnt no) 51)) := by kernel_rfl

theorem wpList_tab {w : World} {ops : Array Oper} {rest : List Oper} {o : Oper} {a : Act} {Q : Exit → Act → World → Prop}
    (hg : o.guard = none) (x : Operand) (hop : o.op = Op.build 50 #[(1, x)]) (bm : Nat) (hm : a.eval x = .map (some bm))
    (hK : wpList Yba.prog ops Q rest (a.put o.dst (.agg (tab no bm))) w) :
    wpList Yba.prog ops Q (o :: rest) a w := by
  refine wpList_plain hg fun K' hK' => ?_
  unfold Oper.wp
  simp [execOp, hop, hm, run_build w 50 #[(1, .map (some bm))] _ (tab_no bm), Result.andThen]
  exact hK' _ _ hK

theorem wpList_alloc51 {w : World} {ops : Array Oper} {rest : List Oper} {o : Oper} {a : Act} {Q : Exit → Act → World → Prop}
    (hg : o.guard = none) (hop : o.op = Op.alloc 51)
    (hK : wpList Yba.prog ops Q rest (a.put o.dst (.pointer (some ⟨w.heap.size, 0, none⟩))) (w.alloc (.cells (wnt no) 51))) :
    wpList Yba.prog ops Q (o :: rest) a w := by
  refine wpList_plain hg fun K' hK' => ?_
  unfold Oper.wp
  simp [execOp, hop, run_alloc51 w, Result.andThen]
  exact hK' _ _ hK

theorem eq24 (a : Option Addr) (l c : Nat) (w : World) : (binOp .eql 24 (.slice a l c) (.slice none 0 0)).run Yba.prog w = .ok (.bool a.isNone) w := Lib.run_eql_slice_nil w 24 55 a l c 0 0 Yba.underlying24
theorem ne24 (a : Option Addr) (l c : Nat) (w : World) : (binOp .neq 24 (.slice a l c) (.slice none 0 0)).run Yba.prog w = .ok (.bool (!a.isNone)) w := run_neq_slice_nil_any w 24 55 a l c 0 0 Yba.underlying24

theorem Yba.size50 : (Yba.prog.info? 50).map (·.size) = some 257 := by kernel_rfl
theorem ne27 (a : Addr) (w : World) : (binOp .neq 27 (.pointer (some a)) (.pointer (some a))).run Yba.prog w = .ok (.bool false) w := by
  have h : ∀ d, (Op.equalIn (d + 1) 27 (.pointer (some a)) (.pointer (some a))).run Yba.prog w = .ok true w := by
    intro d
    simp [Op.equalIn, run_underlying Yba.underlying27, run_size Yba.size50, run_sameAddr_same]
  simp only [binOp]
  simp [Op.equal, Op.maxDepth, h 9999]

set_option maxHeartbeats 400000 in
theorem newReg (w : World) : Calls Yba.prog 6 #[] w fun e w' => e = .returned (.pointer (some ⟨w.heap.size, 0, none⟩)) ∧ w' = w.alloc (.cells #[.int .i32 0, .int .u32 0, .pointer none] 41) := by
  go_enter Yba.func6, Yba.ntmps6
  go_wp2
  go_ret
  exact ⟨rfl, rfl⟩

set_option maxHeartbeats 400000 in
theorem walk_long (a0 a1 : Bool) (a : Option Addr) (n cap : Nat) (w : World) (hn : 1048576 < n) (hm : n ≤ maxLen) :
    Calls Yba.prog 3 #[.bool a0, .bool a1, .slice a n cap] w fun e w' => e = .returned (.bool true) ∧ Below w.heap.size w w' := by
  unfold maxLen at hm
  have hd : (1048576 : Int) < (n : Int) := by omega
  go_enter Yba.func3, Yba.ntmps3
  go_wp2
  go_ret
  exact ⟨rfl, Below.refl _ _⟩

set_option maxHeartbeats 400000 in
theorem walk_nilrecv (a1 : Bool) (a : Option Addr) (n cap : Nat) (w : World) (hn : n ≤ 1048576) :
    Calls Yba.prog 3 #[.bool true, .bool a1, .slice a n cap] w fun e w' => e = .returned (.bool true) ∧ Below w.heap.size w w' := by
  have heq := eq24
  go_enter Yba.func3, Yba.ntmps3
  go_wp2_with (go_at_call 5; refine (list_nilrecv _).mono ?_; rintro e w' ⟨rfl, rfl⟩)
  go_ret
  exact ⟨rfl, Below.refl _ _⟩

set_option maxHeartbeats 400000 in
theorem walk_notable (a : Option Addr) (n cap : Nat) (w : World) (hn : n ≤ 1048576) :
    Calls Yba.prog 3 #[.bool false, .bool true, .slice a n cap] w fun e w' => e = .returned (.bool true) ∧ Below w.heap.size w w' := by
  have hc : (w.alloc (.cells #[.int .i32 0, .int .u32 0, .pointer none] 41)).cell? ⟨w.heap.size, 2, none⟩ = some (.pointer none) := World.cell?_alloc_at _ _ _ _ rfl
  have heq := eq24
  go_enter Yba.func3, Yba.ntmps3
  go_wp2_with (first
    | (go_at_call 6; refine (newReg _).mono ?_; rintro e w' ⟨rfl, rfl⟩)
    | (go_at_call 5; refine (list_nil _ _ hc).mono ?_; rintro e w' ⟨rfl, rfl⟩)
    | (go_at_call 7; refine (load_nil _ _ _ hc).mono ?_; rintro e w' ⟨rfl, rfl⟩))
  go_ret
  exact ⟨rfl, (Below.refl _ _).alloc (Nat.le_refl _) _⟩

/-- The blocks that the law itself lays: the registry (its table pointer 'pt'), what is wanted, the table. -/
def St (w wr : World) (S : Nat → Bool) (pt : Option Addr) : Prop :=
  wr.heap[w.heap.size]? = some (.cells #[.int .i32 0, .int .u32 0, .pointer pt] 41 (0, 0)) ∧ wr.heap[w.heap.size + 1]? = some (.cells (wnt S) 51 (0, 0)) ∧
    wr.heap[w.heap.size + 1 + 1 + 1]? = some (.cells (tab S (w.heap.size + 1 + 1)) 50 (0, 0)) ∧ Below w.heap.size w wr

theorem st_start (w : World) : St w ((((w.alloc (.cells #[.int .i32 0, .int .u32 0, .pointer none] 41)).alloc (.cells (wnt no) 51)).alloc (.map #[] 0)).alloc (.cells (tab no (w.heap.size + 1 + 1)) 50)) no none := by
  refine ⟨?_, ?_, ?_, ((((Below.refl _ _).alloc (Nat.le_refl _) _).alloc (by simp) _).alloc (by simp; omega) _).alloc (by simp; omega) _⟩
  · rw [heap_alloc_old _ _ (by simp; omega), heap_alloc_old _ _ (by simp; omega), heap_alloc_old _ _ (by simp), heap_alloc_new]
  · rw [heap_alloc_old _ _ (by simp), heap_alloc_old _ _ (by simp)]
    have := heap_alloc_new (w.alloc (.cells #[.int .i32 0, .int .u32 0, .pointer none] 41)) (.cells (wnt no) 51)
    simpa using this
  · have := heap_alloc_new (((w.alloc (.cells #[.int .i32 0, .int .u32 0, .pointer none] 41)).alloc (.cells (wnt no) 51)).alloc (.map #[] 0)) (.cells (tab no (w.heap.size + 1 + 1)) 50)
    simpa using this

theorem St.cellW {w wr : World} {S : Nat → Bool} {pt : Option Addr} (h : St w wr S pt) {i : Nat} (hi : i < 256) : wr.cell? ⟨w.heap.size + 1, i, none⟩ = some (.bool (wAt S i)) := by
  rw [cell_of_row wr _ i _ _ _ h.2.1, wnt_get S i hi]
theorem St.cellH {w wr : World} {S : Nat → Bool} {pt : Option Addr} (h : St w wr S pt) {j : Nat} (hj : j < 128) : wr.cell? ⟨w.heap.size + 1 + 1 + 1, j * 2, none⟩ = some (hv (S j)) := by
  rw [cell_of_row wr _ _ _ _ _ h.2.2.1, tab_get S _ _ (by omega), cellAt_h S _ j hj]
theorem St.cellN {w wr : World} {S : Nat → Bool} {pt : Option Addr} (h : St w wr S pt) {j : Nat} (hj : j < 128) : wr.cell? ⟨w.heap.size + 1 + 1 + 1, j * 2 + 1, none⟩ = some (.string (nv (S j))) := by
  rw [cell_of_row wr _ _ _ _ _ h.2.2.1, tab_get S _ _ (by omega), cellAt_n S _ j hj]
theorem St.cellR {w wr : World} {S : Nat → Bool} {pt : Option Addr} (h : St w wr S pt) : wr.cell? ⟨w.heap.size, 2, none⟩ = some (.pointer pt) := by
  rw [cell_of_row wr _ _ _ _ _ h.1]; rfl
theorem St.frR {w wr : World} {S : Nat → Bool} {pt : Option Addr} (h : St w wr S pt) : wr.frozen? ⟨w.heap.size, 2, none⟩ = false := frozen_of_row wr _ _ _ _ h.1
theorem St.frW {w wr : World} {S : Nat → Bool} {pt : Option Addr} (h : St w wr S pt) (i : Nat) : wr.frozen? ⟨w.heap.size + 1, i, none⟩ = false := frozen_of_row wr _ _ _ _ h.2.1
theorem St.frT {w wr : World} {S : Nat → Bool} {pt : Option Addr} (h : St w wr S pt) (i : Nat) : wr.frozen? ⟨w.heap.size + 1 + 1 + 1, i, none⟩ = false := frozen_of_row wr _ _ _ _ h.2.2.1

theorem St.step {w wr : World} {S : Nat → Bool} {pt : Option Addr} (h : St w wr S pt) {m : Nat} (hm : m < 128) :
    St w (((wr.setCell ⟨w.heap.size + 1 + 1 + 1, m * 2, none⟩ (.iface 53 (.agg #[.nilIface]))).setCell ⟨w.heap.size + 1 + 1 + 1, m * 2 + 1, none⟩ (.string ⟨#[88]⟩)).setCell ⟨w.heap.size + 1, 128 + m, none⟩ (.bool true)) (ins S m) pt := by
  obtain ⟨h1, h2, h3, h4⟩ := h
  refine ⟨?_, ?_, ?_, ?_⟩
  · rw [heap_setCell_other _ _ _ _ (by dsimp only; omega), heap_setCell_other _ _ _ _ (by dsimp only; omega), heap_setCell_other _ _ _ _ (by dsimp only; omega), h1]
  · have e : ((wr.setCell ⟨w.heap.size + 1 + 1 + 1, m * 2, none⟩ (.iface 53 (.agg #[.nilIface]))).setCell ⟨w.heap.size + 1 + 1 + 1, m * 2 + 1, none⟩ (.string ⟨#[88]⟩)).heap[w.heap.size + 1]? = some (.cells (wnt S) 51 (0, 0)) := by
      rw [heap_setCell_other _ _ _ _ (by dsimp only; omega), heap_setCell_other _ _ _ _ (by dsimp only; omega), h2]
    rw [heap_setCell_same _ _ _ _ _ _ e, wnt_ins S m hm]
  · rw [heap_setCell_other _ _ _ _ (by dsimp only; omega)]
    have e := heap_setCell_same wr (w.heap.size + 1 + 1 + 1) (m * 2) _ _ (.iface 53 (.agg #[.nilIface])) h3
    rw [heap_setCell_same _ _ _ _ _ _ e, tab_ins S _ m hm]
  · exact ((h4.setCell (by simp only; omega) _).setCell (by simp only; omega) _).setCell (by simp only; omega) _

theorem St.stored {w wr : World} {S : Nat → Bool} {pt : Option Addr} (h : St w wr S pt) (pt' : Option Addr) : St w (wr.setCell ⟨w.heap.size, 2, none⟩ (.pointer pt')) S pt' := by
  obtain ⟨h1, h2, h3, h4⟩ := h
  refine ⟨?_, ?_, ?_, ?_⟩
  · rw [heap_setCell_same _ _ _ _ _ _ h1]; rfl
  · rw [heap_setCell_other _ _ _ _ (by dsimp only; omega), h2]
  · rw [heap_setCell_other _ _ _ _ (by dsimp only; omega), h3]
  · exact h4.setCell (Nat.le_refl _) _

theorem St.below {w wr w' : World} {S : Nat → Bool} {pt : Option Addr} (h : St w wr S pt) (hb : Below wr.heap.size wr w') : St w w' S pt := by
  obtain ⟨h1, h2, h3, h4⟩ := h
  have k1 : w.heap.size < wr.heap.size := (Array.getElem?_eq_some_iff.1 h1).1
  have k2 : w.heap.size + 1 < wr.heap.size := (Array.getElem?_eq_some_iff.1 h2).1
  have k3 : w.heap.size + 1 + 1 + 1 < wr.heap.size := (Array.getElem?_eq_some_iff.1 h3).1
  exact ⟨(hb.block _ k1).trans h1, (hb.block _ k2).trans h2, (hb.block _ k3).trans h3, h4.trans (hb.mono (by omega))⟩

theorem wAt_miss {S : Nat → Bool} {m : Nat} (h : wAt S m = false) : L S (m + 1 - 128) = L S (m - 128) := by
  by_cases h8 : 128 ≤ m
  · rw [show m + 1 - 128 = m - 128 + 1 by omega]
    exact L_miss (by simpa [wAt, h8] using h)
  · rw [show m + 1 - 128 = 0 by omega, show m - 128 = 0 by omega]
theorem wAt_hit {S : Nat → Bool} {m : Nat} (h : wAt S m = true) : ∃ t, m = t + 128 ∧ S t = true := by
  simp only [wAt, Bool.and_eq_true, decide_eq_true_eq] at h
  exact ⟨m - 128, by omega, h.2⟩

end Go.Proofs.Ybulkdifi.lawA
