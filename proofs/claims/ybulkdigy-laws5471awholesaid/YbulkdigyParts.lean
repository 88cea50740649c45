/-
  LawS5471AWhole: the atomic pointer's Load and Store, New.
-/
import Derived.Test.YbulkdigyRows
import Derived.WalkKit
import Derived.WalkSpells
import Derived.WalkLawsBesides
import Derived.Laws.LoneSync
import Derived.Laws.Rows
import Derived.LaidEql
namespace Go.Proofs.Ybulkdigy.lawA
open Go.RowKit

section
variable {P : Program} {f : FuncId} {fn : Func}
/-- sync/atomic.LoadPointer: what the cell holds. -/
theorem run_call_loadPtr (hf : P.funcs[f]? = some fn) (hname : (fn.name == "runtime.NumGoroutine") = false) (hb : fn.body.isNone = true) (hn : Extern.findNext fn = none)
    (he : Extern.find fn = some (Extern.Atomic.loadT .ptr)) {a : Addr} {x : Option Addr} {w : World} (hc : w.cell? a = some (.pointer x)) :
    (callFunc f #[.pointer (some a)]).run P w = .ok (.value (.pointer x)) w := by
  rw [run_callFunc_extern hf hname hb hn he]
  change (Sem.run P (do Extern.Atomic.read .ptr (← asAddr (.pointer (some a)))) w).andThen _ = _
  simp [Extern.Atomic.read, asAddr, hc, Result.andThen]

/-- sync/atomic.StorePointer: the pointer is stored. -/
theorem run_call_storePtr (hf : P.funcs[f]? = some fn) (hname : (fn.name == "runtime.NumGoroutine") = false) (hb : fn.body.isNone = true) (hn : Extern.findNext fn = none)
    (he : Extern.find fn = some Extern.Atomic.storeT) {a : Addr} {x : Option Addr} {u : Value} {w : World} (hc : w.cell? a = some u) (hz : w.frozen? a = false) :
    (callFunc f #[.pointer (some a), .pointer x]).run P w = .ok (.value (.tuple #[])) (w.setCell a (.pointer x)) := by
  rw [run_callFunc_extern hf hname hb hn he]
  change (Sem.run P (do
    store (← asAddr (.pointer (some a))) (.pointer x) .atomic
    pure Extern.Atomic.none_) w).andThen _ = _
  simp [asAddr, hc, hz, run_store P w a (.pointer x) .atomic rfl, Result.andThen, Extern.Atomic.none_]
end

theorem call7 {a : Addr} {x : Option Addr} {w : World} (hc : w.cell? a = some (.pointer x)) : (callFunc 7 #[.pointer (some a)]).run Yba.prog w = .ok (.value (.pointer x)) w :=
  run_call_loadPtr Yba.func7 (by kernel_rfl) (by kernel_rfl) (by kernel_rfl) (by kernel_rfl) hc
theorem call8 {a : Addr} {x : Option Addr} {u : Value} {w : World} (hc : w.cell? a = some u) (hz : w.frozen? a = false) : (callFunc 8 #[.pointer (some a), .pointer x]).run Yba.prog w = .ok (.value (.tuple #[])) (w.setCell a (.pointer x)) :=
  run_call_storePtr Yba.func8 (by kernel_rfl) (by kernel_rfl) (by kernel_rfl) (by kernel_rfl) hc hz

/-- The cells of a new Issuer. -/
def iss : Array Value := (List.replicate 64 (Value.int .u8 0) ++ [Value.map none]).toArray
theorem iss_size : iss.size = 65 := by kernel_rfl
theorem iss_first : iss[0]? = some (.int .u8 0) := by kernel_rfl
theorem run_alloc26 (w : World) : (Instr.alloc 26 true (.tuple #[])).run Yba.prog w = .ok (.pointer (some ⟨w.heap.size, 0, none⟩)) (w.alloc (.cells iss 26)) := by kernel_rfl

theorem wpList_alloc26 {w : World} {ops : Array Oper} {rest : List Oper} {o : Oper} {a : Act} {Q : Exit → Act → World → Prop}
    (hg : o.guard = none) (hop : o.op = Op.alloc 26)
    (hK : wpList Yba.prog ops Q rest (a.put o.dst (.pointer (some ⟨w.heap.size, 0, none⟩))) (w.alloc (.cells iss 26))) :
    wpList Yba.prog ops Q (o :: rest) a w := by
  refine wpList_plain hg fun K' hK' => ?_
  unfold Oper.wp
  simp [execOp, hop, run_alloc26 w, Result.andThen]
  exact hK' _ _ hK

/-- The issuer handed in: nil, or a new Issuer's address. -/
def Iss (x : Option Addr) (w : World) : Prop := x = none ∨ ∃ ib, x = some ⟨ib, 0, none⟩ ∧ w.heap[ib]? = some (.cells iss 26 (0, 0))

theorem Iss.below {x : Option Addr} {w w' : World} (h : Iss x w) (hb : Below w.heap.size w w') : Iss x w' := by
  rcases h with h | ⟨ib, h, hg⟩
  · exact .inl h
  · exact .inr ⟨ib, h, (hb.block ib (Array.getElem?_eq_some_iff.1 hg).1).trans hg⟩

theorem Yba.info26 : ∃ j, Yba.prog.info? 26 = some j := by
  cases h : Yba.prog.info? 26 with
  | some j => exact ⟨j, rfl⟩
  | none =>
    have e : (Yba.prog.info? 26).isSome = true := by kernel_rfl
    rw [h] at e; cases e

theorem Iss.conv_out {x : Option Addr} {w : World} (h : Iss x w) : (convert 32 22 (.pointer x)).run Yba.prog w = .ok (.pointer x) w := by
  rcases h with rfl | ⟨ib, rfl, hg⟩
  · kernel_rfl
  · have hsh : w.shape? ib = some (26, 65) := by simp [World.shape?, hg, iss_size]
    have hlies : liesAt Yba.prog Yba.prog.depth 26 (65 / Yba.prog.cellsOf 26) 0 26 1 = true := by kernel_rfl
    obtain ⟨j, hj⟩ := Yba.info26
    simp only [convert, Sem.run_bind, run_underlying Yba.underlying32, run_underlying Yba.underlying22, Result.andThen_ok]
    show Sem.run Yba.prog (underlying 32 >>= _) w = _
    simp [run_underlying Yba.underlying32, run_underlying Yba.underlying22, Conv.seenAt, viewAt, hsh, variablesAt, hlies, sizeOf, typeInfo, hj]

theorem Iss.conv_in {x : Option Addr} {w : World} (h : Iss x w) : (convert 22 32 (.pointer x)).run Yba.prog w = .ok (.pointer x) w := by
  rcases h with rfl | ⟨ib, rfl, hg⟩
  · kernel_rfl
  · have hsh : w.shape? ib = some (26, 65) := by simp [World.shape?, hg, iss_size]
    simp only [convert, Sem.run_bind, run_underlying Yba.underlying32, run_underlying Yba.underlying22, Result.andThen_ok]
    show Sem.run Yba.prog (underlying 22 >>= _) w = _
    simp [run_underlying Yba.underlying32, run_underlying Yba.underlying22, Conv.seenAt, viewAt, cellsIn, hsh]

theorem run_size {P : Program} {t : TypeId} {n : Nat} (h : (P.info? t).map (·.size) = some n) (w : World) : (sizeOf t).run P w = .ok n w := by
  cases hq : P.info? t with
  | none => simp [hq] at h
  | some i =>
    have hs : i.size = n := by simpa [hq] using h
    simp [sizeOf, typeInfo, hq, hs]

theorem Yba.size26 : (Yba.prog.info? 26).map (·.size) = some 65 := by kernel_rfl
theorem Yba.size37 : (Yba.prog.info? 37).map (·.size) = some 2 := by kernel_rfl

theorem same22 (x : Option Addr) (w : World) : ∀ d, (Op.equalIn (d + 1) 22 (.pointer x) (.pointer x)).run Yba.prog w = .ok true w := by
  intro d
  cases x with
  | none => simp [Op.equalIn, run_underlying Yba.underlying22]
  | some a => simp [Op.equalIn, run_underlying Yba.underlying22, run_size Yba.size26, run_sameAddr_same]
theorem ne22 (x : Option Addr) (w : World) : (binOp .neq 22 (.pointer x) (.pointer x)).run Yba.prog w = .ok (.bool false) w := by
  simp only [binOp]
  simp [Op.equal, Op.maxDepth, same22 x w 9999]
theorem eq22 (x : Option Addr) (w : World) : (binOp .eql 22 (.pointer x) (.pointer x)).run Yba.prog w = .ok (.bool true) w := by
  simp only [binOp]
  simp [Op.equal, Op.maxDepth, same22 x w 9999]

theorem other27 {a b : Nat} {ca cb : Array Value} {w : World} (hne : a ≠ b) (ha : w.heap[a]? = some (.cells ca 37 (0, 0))) (hb : w.heap[b]? = some (.cells cb 37 (0, 0))) :
    (binOp .eql 27 (.pointer (some ⟨a, 0, none⟩)) (.pointer (some ⟨b, 0, none⟩))).run Yba.prog w = .ok (.bool false) w := by
  have h : ∀ d, (Op.equalIn (d + 1) 27 (.pointer (some ⟨a, 0, none⟩)) (.pointer (some ⟨b, 0, none⟩))).run Yba.prog w = .ok false w := by
    intro d
    simp [Op.equalIn, run_underlying Yba.underlying27, run_size Yba.size37, run_sameAddr_other (P := Yba.prog) w (a := ⟨a, 0, none⟩) (b := ⟨b, 0, none⟩) (fun e => hne (congrArg Addr.block e)) ha hb]
  simp only [binOp]
  simp [Op.equal, Op.maxDepth, h 9999]

set_option maxHeartbeats 400000 in
theorem load_any (vb : Nat) (x : Option Addr) (w : World) (hx : Iss x w) (hc : w.cell? ⟨vb, 0, none⟩ = some (.pointer x)) :
    Calls Yba.prog 5 #[.pointer (some ⟨vb, 0, none⟩)] w fun e w' => e = .returned (.pointer x) ∧ w' = w := by
  have hcall := call7 hc
  have hcv := hx.conv_out
  clear hx
  go_enter Yba.func5, Yba.ntmps5
  go_wp2
  go_ret
  exact ⟨rfl, rfl⟩

set_option maxHeartbeats 400000 in
theorem store_any (vb : Nat) (x : Option Addr) (u : Value) (w : World) (hx : Iss x w) (hc : w.cell? ⟨vb, 0, none⟩ = some u) (hz : w.frozen? ⟨vb, 0, none⟩ = false) :
    Calls Yba.prog 6 #[.pointer (some ⟨vb, 0, none⟩), .pointer x] w fun e w' => e = .returned (.tuple #[]) ∧ w' = w.setCell ⟨vb, 0, none⟩ (.pointer x) := by
  have hcall := call8 (x := x) hc hz
  have hcv := hx.conv_in
  clear hx
  go_enter Yba.func6, Yba.ntmps6
  go_wp2
  go_end0
  exact ⟨rfl, rfl⟩

set_option maxHeartbeats 400000 in
theorem new_any (x : Option Addr) (w : World) (hx : Iss x w) :
    Calls Yba.prog 4 #[.pointer x, .pointer none] w fun e w' => e = .returned (.pointer (some ⟨w.heap.size, 0, none⟩)) ∧ w' = w.alloc (.cells #[.pointer x, .pointer none] 37) := by
  have hx1 : Iss x (w.alloc (.cells #[.pointer none, .pointer none] 37)) := hx.below ((Below.refl _ _).alloc (Nat.le_refl _) _)
  have HX : Hid _ := hx1
  clear hx hx1
  go_enter Yba.func4, Yba.ntmps4
  go_wp2_with (go_at_call 6; refine (store_any _ _ (.pointer none) _ HX.out (by go_simp) (by go_simp)).mono ?_; rintro e w' ⟨rfl, rfl⟩)
  go_ret
  exact ⟨rfl, rfl⟩

def ver (x : Option Addr) : Obj := .cells #[.pointer x, .pointer none] 37 (0, 0)

set_option maxHeartbeats 400000 in
theorem walk_nil (p : Nat) (w : World) (hp : p ≤ 255) (h : p % 2 = 0) :
    Calls Yba.prog 3 #[.int .u8 p] w fun e w' => e = .returned (.bool true) ∧ w' = (w.alloc (.cells #[.pointer none, .pointer none] 37)).alloc (.cells #[.pointer none, .pointer none] 37) := by
  have k1 := ne22
  have k2 := eq22
  have h1 := heap_alloc2_old w (ver none) (ver none)
  have h2 := heap_alloc2_new w (ver none) (ver none)
  have k3 := other27 (by omega) h2 h1
  unfold ver at k3
  clear h1 h2
  have hx : ∀ w, Iss none w := fun _ => .inl rfl
  go_enter Yba.func3, Yba.ntmps3
  go_wp2_with (first
    | (go_at_call 4; refine (new_any _ _ (hx _)).mono ?_; rintro e w' ⟨rfl, rfl⟩)
    | (go_at_call 5; refine (load_any _ none _ (hx _) (by go_simp)).mono ?_; rintro e w' ⟨rfl, rfl⟩))
  go_ret
  exact ⟨rfl, rfl⟩

set_option maxHeartbeats 400000 in
theorem walk_some (p : Nat) (w : World) (hp : p ≤ 255) (h : p % 2 = 1) :
    Calls Yba.prog 3 #[.int .u8 p] w fun e w' => e = .returned (.bool true) ∧
      w' = ((w.alloc (.cells iss 26)).alloc (.cells #[.pointer (some ⟨w.heap.size, 0, none⟩), .pointer none] 37)).alloc (.cells #[.pointer (some ⟨w.heap.size, 0, none⟩), .pointer none] 37) := by
  have k1 := ne22
  have k2 := eq22
  have h1 := heap_alloc2_old (w.alloc (.cells iss 26)) (ver (some ⟨w.heap.size, 0, none⟩)) (ver (some ⟨w.heap.size, 0, none⟩))
  have h2 := heap_alloc2_new (w.alloc (.cells iss 26)) (ver (some ⟨w.heap.size, 0, none⟩)) (ver (some ⟨w.heap.size, 0, none⟩))
  have k3 := other27 (by omega) h2 h1
  unfold ver at k3
  rw [World.size_alloc] at k3
  clear h1 h2
  have i0 : Iss (some ⟨w.heap.size, 0, none⟩) (w.alloc (.cells iss 26)) := .inr ⟨_, rfl, heap_alloc_new _ _⟩
  have i1 : Iss (some ⟨w.heap.size, 0, none⟩) ((w.alloc (.cells iss 26)).alloc (.cells #[.pointer (some ⟨w.heap.size, 0, none⟩), .pointer none] 37)) := i0.below ((Below.refl _ _).alloc (Nat.le_refl _) _)
  have i2 : Iss (some ⟨w.heap.size, 0, none⟩) (((w.alloc (.cells iss 26)).alloc (.cells #[.pointer (some ⟨w.heap.size, 0, none⟩), .pointer none] 37)).alloc (.cells #[.pointer (some ⟨w.heap.size, 0, none⟩), .pointer none] 37)) := i1.below ((Below.refl _ _).alloc (Nat.le_refl _) _)
  have I0 : Hid (Iss _ _) := i0
  have I1 : Hid (Iss _ _) := i1
  have I2 : Hid (Iss _ _) := i2
  clear i0 i1 i2
  go_enter Yba.func3, Yba.ntmps3
  go_wp2_with (first
    | (refine wpList_alloc26 rfl rfl ?_))
  refine (new_any _ _ I0.out).mono ?_
  rintro e w' ⟨rfl, rfl⟩
  go_wp2_with fail
  refine (load_any _ (some ⟨w.heap.size, 0, none⟩) _ I1.out (by go_simp)).mono ?_
  rintro e w' ⟨rfl, rfl⟩
  go_wp2_with fail
  refine (new_any _ _ I1.out).mono ?_
  rintro e w' ⟨rfl, rfl⟩
  go_wp2_with fail
  refine (load_any _ (some ⟨w.heap.size, 0, none⟩) _ I2.out (by go_simp)).mono ?_
  rintro e w' ⟨rfl, rfl⟩
  go_wp2_with fail
  refine (load_any _ (some ⟨w.heap.size, 0, none⟩) _ I2.out (by go_simp)).mono ?_
  rintro e w' ⟨rfl, rfl⟩
  go_wp2
  go_ret
  exact ⟨rfl, rfl⟩

end Go.Proofs.Ybulkdigy.lawA
