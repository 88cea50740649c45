/-
  LAW A's parts: the atomic pointer's Load and Store, snapshot, NewInstructionRegistry.
-/
import Derived.Test.YbulkdifiRows
import Derived.WalkKit
import Derived.WalkSpells
import Derived.WalkLawsBesides
import Derived.Laws.LoneSync
import Derived.Laws.Tables
import Derived.Laws.Rows
namespace Go.Proofs.Ybulkdifi.lawA
open Go.RowKit

section
variable {P : Program} {f : FuncId} {fn : Func}
/-- sync/atomic.LoadPointer: what the cell holds. -/
theorem run_call_loadPtr (hf : P.funcs[f]? = some fn) (hname : (fn.name == "runtime.NumGoroutine") = false) (hb : fn.body.isNone = true) (hn : Extern.findNext fn = none)
    (he : Extern.find fn = some (Extern.Atomic.loadT .ptr)) {a : Addr} {x : Option Addr} {w : World} (hc : w.cell? a = some (.pointer x)) :
    (callFunc f #[.pointer (some a)]).run P w = .ok (.value (.pointer x)) w := by
  rw [run_callFunc_extern hf hname hb hn he]
  change (Sem.run P (do Extern.Atomic.read .ptr (← asAddr (.pointer (some a)))) w).andThen _ = _
  simp [Extern.Atomic.read, asAddr, hc, Result.andThen]

/-- sync/atomic.StorePointer: the pointer is stored. -/
theorem run_call_storePtr (hf : P.funcs[f]? = some fn) (hname : (fn.name == "runtime.NumGoroutine") = false) (hb : fn.body.isNone = true) (hn : Extern.findNext fn = none)
    (he : Extern.find fn = some Extern.Atomic.storeT) {a : Addr} {x : Option Addr} {u : Value} {w : World} (hc : w.cell? a = some u) (hz : w.frozen? a = false) :
    (callFunc f #[.pointer (some a), .pointer x]).run P w = .ok (.value (.tuple #[])) (w.setCell a (.pointer x)) := by
  rw [run_callFunc_extern hf hname hb hn he]
  change (Sem.run P (do
    store (← asAddr (.pointer (some a))) (.pointer x) .atomic
    pure Extern.Atomic.none_) w).andThen _ = _
  simp [asAddr, hc, hz, run_store P w a (.pointer x) .atomic rfl, Result.andThen, Extern.Atomic.none_]
end

theorem call12 {a : Addr} {x : Option Addr} {w : World} (hc : w.cell? a = some (.pointer x)) : (callFunc 12 #[.pointer (some a)]).run Yba.prog w = .ok (.value (.pointer x)) w :=
  run_call_loadPtr Yba.func12 (by kernel_rfl) (by kernel_rfl) (by kernel_rfl) (by kernel_rfl) hc
theorem call13 {a : Addr} {x : Option Addr} {u : Value} {w : World} (hc : w.cell? a = some u) (hz : w.frozen? a = false) : (callFunc 13 #[.pointer (some a), .pointer x]).run Yba.prog w = .ok (.value (.tuple #[])) (w.setCell a (.pointer x)) :=
  run_call_storePtr Yba.func13 (by kernel_rfl) (by kernel_rfl) (by kernel_rfl) (by kernel_rfl) hc hz

set_option maxHeartbeats 400000 in
theorem load_nil (rb ro : Nat) (w : World) (hc : w.cell? ⟨rb, ro, none⟩ = some (.pointer none)) :
    Calls Yba.prog 7 #[.pointer (some ⟨rb, ro, none⟩)] w fun e w' => e = .returned (.pointer none) ∧ w' = w := by
  have hcall := call12 hc
  have hcv : (convert 37 27 (.pointer none)).run Yba.prog w = .ok (.pointer none) w := by kernel_rfl
  go_enter Yba.func7, Yba.ntmps7
  go_wp2
  go_ret
  exact ⟨rfl, rfl⟩

/-! ### The table's block as a ghost: which places hold a handler. -/
def hv (b : Bool) : Value := if b then .iface 53 (.agg #[.nilIface]) else .nilIface
def nv (b : Bool) : ByteArray := if b then ⟨#[88]⟩ else ByteArray.empty
def cellAt (S : Nat → Bool) (bm i : Nat) : Value := if i = 256 then .map (some bm) else if i % 2 = 0 then hv (S (i / 2)) else .string (nv (S (i / 2)))
def tab (S : Nat → Bool) (bm : Nat) : Array Value := Array.ofFn (n := 257) fun i => cellAt S bm i
def arr (S : Nat → Bool) (bm : Nat) : Array Value := Array.ofFn (n := 256) fun i => cellAt S bm i

theorem tab_size (S : Nat → Bool) (bm : Nat) : (tab S bm).size = 257 := by simp [tab]
theorem arr_size (S : Nat → Bool) (bm : Nat) : (arr S bm).size = 256 := by simp [arr]
theorem tab_get (S : Nat → Bool) (bm i : Nat) (h : i < 257) : (tab S bm)[i]? = some (cellAt S bm i) := by simp [tab, h]
theorem arr_get (S : Nat → Bool) (bm i : Nat) (h : i < 256) : (arr S bm)[i]? = some (cellAt S bm i) := by simp [arr, h]
theorem cellAt_h (S : Nat → Bool) (bm j : Nat) (_h : j < 128) : cellAt S bm (j * 2) = hv (S j) := by
  rw [cellAt, if_neg (by omega), if_pos (by omega), show j * 2 / 2 = j by omega]
theorem cellAt_n (S : Nat → Bool) (bm j : Nat) (_h : j < 128) : cellAt S bm (j * 2 + 1) = .string (nv (S j)) := by
  rw [cellAt, if_neg (by omega), if_neg (by omega), show (j * 2 + 1) / 2 = j by omega]

theorem arr_part (S : Nat → Bool) (bm j : Nat) (h : j < 128) : (arr S bm).extract (j * 2) (j * 2 + 2) = #[hv (S j), .string (nv (S j))] := by
  apply Array.ext_getElem?
  intro i
  rw [Array.getElem?_extract]
  match i with
  | 0 => rw [if_pos (by rw [arr_size]; omega), Nat.add_zero, arr_get S bm _ (by omega), cellAt_h S bm j h]; rfl
  | 1 => rw [if_pos (by rw [arr_size]; omega), arr_get S bm _ (by omega), cellAt_n S bm j h]; rfl
  | i + 2 => rw [if_neg (by rw [arr_size]; omega)]; rfl

theorem Yba.size47 : (Yba.prog.info? 47).map (·.size) = some 256 := by kernel_rfl
theorem Yba.size46 : (Yba.prog.info? 46).map (·.size) = some 2 := by kernel_rfl

theorem run_size {P : Program} {t : TypeId} {n : Nat} (h : (P.info? t).map (·.size) = some n) (w : World) : (sizeOf t).run P w = .ok n w := by
  cases hq : P.info? t with
  | none => simp [hq] at h
  | some i =>
    have hs : i.size = n := by simpa [hq] using h
    simp [sizeOf, typeInfo, hq, hs]

theorem run_load47 (w : World) (tb bm : Nat) (S : Nat → Bool) (t : TypeId) (fr : Nat × Nat) (hg : w.heap[tb]? = some (.cells (tab S bm) t fr)) :
    (loadVar 47 ⟨tb, 0, none⟩).run Yba.prog w = .ok (.agg (arr S bm)) w := by
  have hl : (loadCells ⟨tb, 0, none⟩ (arr S bm).toList.length).run Yba.prog w = .ok (arr S bm).toList.toArray w :=
    run_loadCells_list (P := Yba.prog) w ⟨tb, 0, none⟩ (arr S bm).toList (fun j v hv => by
      have hadd : (⟨tb, 0, none⟩ : Addr).add j = ⟨tb, j, none⟩ := by unfold Addr.add; split <;> simp_all
      have hj : j < 256 := by
        have := (List.getElem?_eq_some_iff.1 hv).1
        simpa [arr_size] using this
      rw [hadd, cell_of_row w tb j _ t fr hg, tab_get S bm j (by omega), ← arr_get S bm j hj]
      simpa using hv)
  have hagg : (isAgg 47).run Yba.prog w = .ok true w := by
    unfold isAgg
    rw [Sem.run_bind, run_underlying Yba.underlying47 w]
    rfl
  simp only [Array.length_toList, Array.toArray_toList, arr_size] at hl
  simp [loadVar, Sem.run_bind, hagg, run_size Yba.size47, hl]

theorem wpList_load47 {ops : Array Oper} {rest : List Oper} {o : Oper} {a : Act} {w : World} {Q : Exit → Act → World → Prop} (hgd : o.guard = none) (x : Operand) (ho : o.op = .load 47 x)
    (tb bm : Nat) (S : Nat → Bool) (hx : a.eval x = .pointer (some ⟨tb, 0, none⟩)) (t : TypeId) (fr : Nat × Nat) (hg : w.heap[tb]? = some (.cells (tab S bm) t fr))
    (h : wpList Yba.prog ops Q rest (a.put o.dst (.agg (arr S bm))) w) : wpList Yba.prog ops Q (o :: rest) a w := by
  refine wpList_plain hgd fun K' hK' => ?_
  unfold Oper.wp execOp
  simp only [ho, hx, Instr.loadAt, Instr.sureAddr, Sem.run_bind, Sem.run_pure, Result.andThen_ok, run_load47 w tb bm S t fr hg]
  exact hK' _ _ h

theorem run_index47 (w : World) (S : Nat → Bool) (bm k : Nat) (hk : k < 128) : (Instr.index 47 (.agg (arr S bm)) (.int .i64 k)).run Yba.prog w = .ok (.agg #[hv (S k), .string (nv (S k))]) w := by
  have hagg : (isAgg 46).run Yba.prog w = .ok true w := by
    unfold isAgg
    rw [Sem.run_bind, run_underlying Yba.underlying46 w]
    rfl
  have hlt : 0 ≤ (k : Int) ∧ (k : Int) < ((128 : Nat) : Int) := by omega
  simp only [Instr.index, asIntOf, Sem.run_bind, Sem.run_pure, Result.andThen_ok, run_underlying Yba.underlying47, if_pos hlt, run_size Yba.size46, part, hagg, if_true, Int.toNat_natCast, arr_part S bm k hk]

theorem wpList_index47 {ops : Array Oper} {rest : List Oper} {o : Oper} {a : Act} {w : World} {Q : Exit → Act → World → Prop} (hgd : o.guard = none) (x i : Operand) (ho : o.op = .index 47 x i)
    (bm : Nat) (S : Nat → Bool) (k : Nat) (hk : k < 128) (hx : a.eval x = .agg (arr S bm)) (hi : a.eval i = .int .i64 k)
    (h : wpList Yba.prog ops Q rest (a.put o.dst (.agg #[hv (S k), .string (nv (S k))])) w) : wpList Yba.prog ops Q (o :: rest) a w := by
  refine wpList_plain hgd fun K' hK' => ?_
  unfold Oper.wp execOp
  simp only [ho, hx, hi, Sem.run_bind, Sem.run_pure, Result.andThen_ok, run_index47 w S bm k hk]
  exact hK' _ _ h

theorem wpList_index47_f {ops : Array Oper} {rest : List Oper} {o : Oper} {a : Act} {w : World} {Q : Exit → Act → World → Prop} (hgd : o.guard = none) (x i : Operand) (ho : o.op = .index 47 x i)
    (bm : Nat) (S : Nat → Bool) (k : Nat) (hk : k < 128) (hS : S k = false) (hx : a.eval x = .agg (arr S bm)) (hi : a.eval i = .int .i64 k)
    (h : wpList Yba.prog ops Q rest (a.put o.dst (.agg #[.nilIface, .string ⟨#[]⟩])) w) : wpList Yba.prog ops Q (o :: rest) a w :=
  wpList_index47 hgd x i ho bm S k hk hx hi (by rw [hS]; exact h)

theorem wpList_index47_t {ops : Array Oper} {rest : List Oper} {o : Oper} {a : Act} {w : World} {Q : Exit → Act → World → Prop} (hgd : o.guard = none) (x i : Operand) (ho : o.op = .index 47 x i)
    (bm : Nat) (S : Nat → Bool) (k : Nat) (hk : k < 128) (hS : S k = true) (hx : a.eval x = .agg (arr S bm)) (hi : a.eval i = .int .i64 k)
    (h : wpList Yba.prog ops Q rest (a.put o.dst (.agg #[.iface 53 (.agg #[.nilIface]), .string ⟨#[88]⟩])) w) : wpList Yba.prog ops Q (o :: rest) a w :=
  wpList_index47 hgd x i ho bm S k hk hx hi (by rw [hS]; exact h)

theorem Yba.info50 : ∃ j, Yba.prog.info? 50 = some j := by
  cases h : Yba.prog.info? 50 with
  | some j => exact ⟨j, rfl⟩
  | none =>
    have e : (Yba.prog.info? 50).isSome = true := by kernel_rfl
    rw [h] at e; cases e

theorem conv_tab (w : World) (tb bm : Nat) (S : Nat → Bool) (fr : Nat × Nat) (hg : w.heap[tb]? = some (.cells (tab S bm) 50 fr)) :
    (convert 37 27 (.pointer (some ⟨tb, 0, none⟩))).run Yba.prog w = .ok (.pointer (some ⟨tb, 0, none⟩)) w := by
  have hsh : w.shape? tb = some (50, 257) := by simp [World.shape?, hg, tab_size]
  have hlies : liesAt Yba.prog Yba.prog.depth 50 (257 / Yba.prog.cellsOf 50) 0 50 1 = true := by kernel_rfl
  obtain ⟨j, hj⟩ := Yba.info50
  simp only [convert, Sem.run_bind, run_underlying Yba.underlying37, run_underlying Yba.underlying27, Result.andThen_ok]
  show Sem.run Yba.prog (underlying 37 >>= _) w = _
  simp [run_underlying Yba.underlying37, run_underlying Yba.underlying27, Conv.seenAt, viewAt, hsh, variablesAt, hlies, sizeOf, typeInfo, hj]

theorem conv_tab' (w : World) (tb bm : Nat) (S : Nat → Bool) (fr : Nat × Nat) (hg : w.heap[tb]? = some (.cells (tab S bm) 50 fr)) :
    (convert 27 37 (.pointer (some ⟨tb, 0, none⟩))).run Yba.prog w = .ok (.pointer (some ⟨tb, 0, none⟩)) w := by
  have hsh : w.shape? tb = some (50, 257) := by simp [World.shape?, hg, tab_size]
  simp only [convert, Sem.run_bind, run_underlying Yba.underlying37, run_underlying Yba.underlying27, Result.andThen_ok]
  show Sem.run Yba.prog (underlying 27 >>= _) w = _
  simp [run_underlying Yba.underlying37, run_underlying Yba.underlying27, Conv.seenAt, viewAt, cellsIn, hsh]

set_option maxHeartbeats 400000 in
theorem load_some (rb ro tb bm : Nat) (S : Nat → Bool) (fr : Nat × Nat) (w : World) (hc : w.cell? ⟨rb, ro, none⟩ = some (.pointer (some ⟨tb, 0, none⟩))) (hg : w.heap[tb]? = some (.cells (tab S bm) 50 fr)) :
    Calls Yba.prog 7 #[.pointer (some ⟨rb, ro, none⟩)] w fun e w' => e = .returned (.pointer (some ⟨tb, 0, none⟩)) ∧ w' = w := by
  have hcall := call12 hc
  have hcv := conv_tab w tb bm S fr hg
  clear hg
  go_enter Yba.func7, Yba.ntmps7
  go_wp2
  go_ret
  exact ⟨rfl, rfl⟩

set_option maxHeartbeats 400000 in
theorem store_some (rb ro tb bm : Nat) (S : Nat → Bool) (fr : Nat × Nat) (u : Value) (w : World) (hc : w.cell? ⟨rb, ro, none⟩ = some u) (hz : w.frozen? ⟨rb, ro, none⟩ = false) (hg : w.heap[tb]? = some (.cells (tab S bm) 50 fr)) :
    Calls Yba.prog 8 #[.pointer (some ⟨rb, ro, none⟩), .pointer (some ⟨tb, 0, none⟩)] w fun e w' => e = .returned (.tuple #[]) ∧ w' = w.setCell ⟨rb, ro, none⟩ (.pointer (some ⟨tb, 0, none⟩)) := by
  have hcall := call13 (x := some ⟨tb, 0, none⟩) hc hz
  have hcv := conv_tab' w tb bm S fr hg
  clear hg
  go_enter Yba.func8, Yba.ntmps8
  go_wp2
  go_end0
  exact ⟨rfl, rfl⟩

set_option maxHeartbeats 400000 in
theorem snap_nilrecv (w : World) : Calls Yba.prog 11 #[.pointer none] w fun e w' => e = .returned (.pointer none) ∧ w' = w := by
  go_enter Yba.func11, Yba.ntmps11
  go_wp2
  go_ret
  exact ⟨rfl, rfl⟩

set_option maxHeartbeats 400000 in
theorem snap_nil (rb : Nat) (w : World) (hc : w.cell? ⟨rb, 2, none⟩ = some (.pointer none)) : Calls Yba.prog 11 #[.pointer (some ⟨rb, 0, none⟩)] w fun e w' => e = .returned (.pointer none) ∧ w' = w := by
  go_enter Yba.func11, Yba.ntmps11
  go_wp2_with (go_at_call 7; refine (load_nil _ _ _ hc).mono ?_; rintro e w' ⟨rfl, rfl⟩)
  go_ret
  exact ⟨rfl, rfl⟩

set_option maxHeartbeats 400000 in
theorem snap_some (rb tb bm : Nat) (S : Nat → Bool) (fr : Nat × Nat) (w : World) (hc : w.cell? ⟨rb, 2, none⟩ = some (.pointer (some ⟨tb, 0, none⟩))) (hg : w.heap[tb]? = some (.cells (tab S bm) 50 fr)) :
    Calls Yba.prog 11 #[.pointer (some ⟨rb, 0, none⟩)] w fun e w' => e = .returned (.pointer (some ⟨tb, 0, none⟩)) ∧ w' = w := by
  go_enter Yba.func11, Yba.ntmps11
  go_wp2_with (go_at_call 7; refine (load_some _ _ _ bm S fr _ hc hg).mono ?_; rintro e w' ⟨rfl, rfl⟩)
  go_ret
  exact ⟨rfl, rfl⟩

end Go.Proofs.Ybulkdifi.lawA
