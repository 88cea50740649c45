/-
  Closed facts for the walk over fmt.Sprintf's stop: each by the kernel.
-/
import Derived.Test.YbulkdigkFmtRows
import Derived.WalkKit
import Derived.WalkSpells
import Derived.WalkLawsBesides
import Derived.Stop.CallBack
import Derived.Stop.IfaceNil
import Derived.Defers
import Derived.Recover
import Derived.Laws.Pointers
namespace Go.Proofs.YbulkdigkFmt.lawB
open Go.RowKit Go.Stop Go.Extern

theorem call27 (args : Array Value) (w : World) : (callFunc 27 args).run Ybaf.prog w = (FmtCalls.sprintf #[9, 80] #[9] args).run Ybaf.prog w :=
  run_callFunc_next Ybaf.func27 (by kernel_rfl) (by kernel_rfl) (by kernel_rfl) args w
theorem guarded (name : String) (w : World) : (FmtStop.guard name).run Ybaf.prog w = .ok () w := by kernel_rfl
theorem nextTurns : Go.Extern.next FmtCalls.turnsRow = some (FmtCalls.begun #[] #[]) := by kernel_rfl
theorem fmt0 : FmtStop.printed? ⟨#[103, 111, 116, 32, 37, 118, 44, 32, 119, 97, 110, 116, 32, 37, 115, 37, 118]⟩ 3 = some [(0, 118, false), (1, 115, false), (2, 118, false)] := by kernel_rfl

theorem act2 (name : String) (x : Value) (w : World) : (FmtCalls.act name false 118 false (.iface 2 x)).run Ybaf.prog w = .ok (.closed false) w := by kernel_rfl
theorem act9 (name : String) (x : Value) (w : World) : (FmtCalls.act name false 118 false (.iface 9 x)).run Ybaf.prog w = .ok (.closed false) w := by kernel_rfl
theorem act9s (name : String) (x : Value) (w : World) : (FmtCalls.act name false 115 false (.iface 9 x)).run Ybaf.prog w = .ok (.closed false) w := by kernel_rfl
def shape2 : List UInt8 := [5, 5, 0, 0, 0, 0, 0, 0, 0, 105, 110, 116, 54, 52]
def shape9 : List UInt8 := [12, 6, 0, 0, 0, 0, 0, 0, 0, 115, 116, 114, 105, 110, 103]
theorem op2 (name : String) (x : Int) (w : World) : (FmtStop.operand name false 118 false (.iface 2 (.int .i64 x))).run Ybaf.prog w = .ok (shape2, Go.Extern.Stop.digits 8 (x % 2 ^ 64).toNat) w := by kernel_rfl
theorem op9 (name : String) (x : ByteArray) (w : World) : (FmtStop.operand name false 118 false (.iface 9 (.string x))).run Ybaf.prog w = .ok (shape9, FmtStop.pack x.data.toList) w := by kernel_rfl
theorem op9s (name : String) (x : ByteArray) (w : World) : (FmtStop.operand name false 115 false (.iface 9 (.string x))).run Ybaf.prog w = .ok (shape9, FmtStop.pack x.data.toList) w := by kernel_rfl

set_option maxHeartbeats 400000 in
theorem raise_any (b : Nat) (w : World) : Calls Ybaf.prog 29 #[.pointer (some ⟨b, 0, none⟩)] w fun e w' => e = .panicked [{ v := .iface 77 (.agg #[.pointer (some ⟨b, 0, none⟩)]), recovered := false }] ∧ w' = w := by
  go_enter Ybaf.func29, Ybaf.ntmps29
  go_wp2
  exact ⟨rfl, rfl, rfl⟩

set_option maxHeartbeats 400000 in
theorem fail_any (s : ByteArray) (w : World) : Calls Ybaf.prog 26 #[.string s] w fun e w' => e = .panicked [{ v := .iface 77 (.agg #[.pointer (some ⟨w.heap.size, 0, none⟩)]), recovered := false }] ∧ w' = w.alloc (.cells #[.string s, .nilIface] 36) := by
  go_enter Ybaf.func26, Ybaf.ntmps26
  go_wp2_with (go_at_call 29; refine (raise_any _ _).mono ?_; rintro e w' ⟨rfl, rfl⟩)
  exact ⟨rfl, rfl, rfl⟩

set_option maxHeartbeats 400000 in
theorem failWant_int (x y : Int) (w : World) : Calls Ybaf.prog 21 #[.iface 2 (.int .i64 x), .string ⟨#[]⟩, .iface 2 (.int .i64 y)] w fun e w' =>
    ∃ s, e = .panicked [{ v := .iface 77 (.agg #[.pointer (some ⟨w.heap.size + 1, 0, none⟩)]), recovered := false }] ∧ w' = ((w.alloc (.cells #[.iface 2 (.int .i64 x), .iface 9 (.string ⟨#[]⟩), .iface 2 (.int .i64 y)] 20)).alloc (.cells #[.string s, .nilIface] 36)).drew := by
  have k27 := call27
  have kg := guarded
  have kf := fmt0
  have ka := act2
  have ka9 := act9s
  have ko := op2
  have ko9 := op9s
  go_enter Ybaf.func21, Ybaf.ntmps21
  go_wp2_with (go_at_call 26; refine (fail_any _ _).mono ?_; rintro e w' ⟨rfl, rfl⟩)
  apply rows_value nextTurns
  case hr =>
    go_simp
    exact ⟨rfl, rfl⟩
  case h =>
    go_wp2_with (go_at_call 26; refine (fail_any _ _).mono ?_; rintro e w' ⟨rfl, rfl⟩)
    exact ⟨rfl, _, rfl, rfl⟩

set_option maxHeartbeats 400000 in
theorem failWant_str (x y : ByteArray) (w : World) : Calls Ybaf.prog 21 #[.iface 9 (.string x), .string ⟨#[]⟩, .iface 9 (.string y)] w fun e w' =>
    ∃ s, e = .panicked [{ v := .iface 77 (.agg #[.pointer (some ⟨w.heap.size + 1, 0, none⟩)]), recovered := false }] ∧ w' = ((w.alloc (.cells #[.iface 9 (.string x), .iface 9 (.string ⟨#[]⟩), .iface 9 (.string y)] 20)).alloc (.cells #[.string s, .nilIface] 36)).drew := by
  have k27 := call27
  have kg := guarded
  have kf := fmt0
  have ka := act9
  have ka9 := act9s
  have ko := op9
  have ko9 := op9s
  go_enter Ybaf.func21, Ybaf.ntmps21
  go_wp2_with (go_at_call 26; refine (fail_any _ _).mono ?_; rintro e w' ⟨rfl, rfl⟩)
  apply rows_value nextTurns
  case hr =>
    go_simp
    exact ⟨rfl, rfl⟩
  case h =>
    go_wp2_with (go_at_call 26; refine (fail_any _ _).mono ?_; rintro e w' ⟨rfl, rfl⟩)
    exact ⟨rfl, _, rfl, rfl⟩

set_option maxHeartbeats 400000 in
theorem equal_int_ok (x : Int) (w : World) : Calls Ybaf.prog 13 #[.int .i64 x, .int .i64 x] w fun e w' => e = .returned (.tuple #[]) ∧ w' = w := by
  go_enter Ybaf.func13, Ybaf.ntmps13
  go_wp2
  go_end0
  exact ⟨rfl, rfl⟩

set_option maxHeartbeats 400000 in
theorem equal_int_no (x y : Int) (w : World) (h : ¬ x = y) : Calls Ybaf.prog 13 #[.int .i64 x, .int .i64 y] w fun e w' =>
    ∃ s, e = .panicked [{ v := .iface 77 (.agg #[.pointer (some ⟨w.heap.size + 1, 0, none⟩)]), recovered := false }] ∧ w' = ((w.alloc (.cells #[.iface 2 (.int .i64 x), .iface 9 (.string ⟨#[]⟩), .iface 2 (.int .i64 y)] 20)).alloc (.cells #[.string s, .nilIface] 36)).drew := by
  have hne : (x != y) = true := by simpa using h
  go_enter Ybaf.func13, Ybaf.ntmps13
  go_wp2_with (go_at_call 21; refine (failWant_int _ _ _).mono ?_; rintro e w' ⟨s, rfl, rfl⟩)
  exact ⟨rfl, _, rfl, rfl⟩

set_option maxHeartbeats 400000 in
theorem equal_str_ok (x : ByteArray) (w : World) : Calls Ybaf.prog 14 #[.string x, .string x] w fun e w' => e = .returned (.tuple #[]) ∧ w' = w := by
  go_enter Ybaf.func14, Ybaf.ntmps14
  go_wp2
  go_end0
  exact ⟨rfl, rfl⟩

set_option maxHeartbeats 400000 in
theorem equal_str_no (x y : ByteArray) (w : World) (h : (x.toList == y.toList) = false) : Calls Ybaf.prog 14 #[.string x, .string y] w fun e w' =>
    ∃ s, e = .panicked [{ v := .iface 77 (.agg #[.pointer (some ⟨w.heap.size + 1, 0, none⟩)]), recovered := false }] ∧ w' = ((w.alloc (.cells #[.iface 9 (.string x), .iface 9 (.string ⟨#[]⟩), .iface 9 (.string y)] 20)).alloc (.cells #[.string s, .nilIface] 36)).drew := by
  go_enter Ybaf.func14, Ybaf.ntmps14
  go_wp2_with (go_at_call 21; refine (failWant_str _ _ _).mono ?_; rintro e w' ⟨s, rfl, rfl⟩)
  exact ⟨rfl, _, rfl, rfl⟩

set_option maxHeartbeats 400000 in
theorem hides_any (w : World) : Calls Ybaf.prog 28 #[] w fun e w' => e = .returned (.bool false) ∧ w' = w := by
  go_enter Ybaf.func28, Ybaf.ntmps28
  go_wp2
  refine wp_loop_rounds 1 ?_
  rw [rounds_succ]
  go_wp2
  go_ret
  exact ⟨rfl, rfl⟩

theorem ta77 (v : Value) (w : World) : (Instr.typeAssert (.iface 77 v) 20 77 true).run Ybaf.prog w = .ok (.tuple #[v, .bool true]) w := by kernel_rfl
theorem ta32 (v : Value) (w : World) : (Instr.typeAssert (.iface 32 v) 24 32 true).run Ybaf.prog w = .ok (.tuple #[v, .bool true]) w := by kernel_rfl

set_option maxHeartbeats 400000 in
theorem failureOf_any (b : Nat) (w : World) : Calls Ybaf.prog 25 #[.iface 77 (.agg #[.pointer (some ⟨b, 0, none⟩)])] w fun e w' => e = .returned (.pointer (some ⟨b, 0, none⟩)) ∧ w' = w.alloc (.cells #[.pointer (some ⟨b, 0, none⟩)] 77) := by
  have kt := ta77
  have hno : ∀ (x : Bool) (w : World), (Op.unary .not (.bool x)).run Ybaf.prog w = .ok (.bool (!x)) w := fun _ _ => rfl
  go_enter Ybaf.func25, Ybaf.ntmps25
  go_wp2_with (go_at_call 28; refine (hides_any _).mono ?_; rintro e w' ⟨rfl, rfl⟩)
  go_ret
  exact ⟨rfl, rfl⟩

set_option maxHeartbeats 400000 in
theorem settle_nil (p : Addr) (w : World) : Calls Ybaf.prog 20 #[.pointer (some p), .nilIface] w fun e w' => e = .returned (.tuple #[]) ∧ w' = w := by
  go_enter Ybaf.func20, Ybaf.ntmps20
  go_wp2
  first | go_end0 | refine bodyPost_ret (results_none rfl _ _ _) rfl ?_
  exact ⟨rfl, rfl⟩

set_option maxHeartbeats 400000 in
theorem settle_some (eb b : Nat) (w : World) (heb : eb < w.heap.size) (u : Value) (hc : w.cell? ⟨eb, 0, none⟩ = some u) (hz : w.frozen? ⟨eb, 0, none⟩ = false) :
    Calls Ybaf.prog 20 #[.pointer (some ⟨eb, 0, none⟩), .iface 77 (.agg #[.pointer (some ⟨b, 0, none⟩)])] w fun e w' =>
      e = .returned (.tuple #[]) ∧ w' = (w.setCell ⟨eb, 0, none⟩ (.iface 32 (.pointer (some ⟨b, 0, none⟩)))).alloc (.cells #[.pointer (some ⟨b, 0, none⟩)] 77) := by
  go_enter Ybaf.func20, Ybaf.ntmps20
  go_wp2_with (go_at_call 25; refine (failureOf_any _ _).mono ?_; rintro e w' ⟨rfl, rfl⟩)
  go_end0
  exact ⟨rfl, rfl⟩

end Go.Proofs.YbulkdigkFmt.lawB
