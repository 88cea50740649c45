/-
  Catch, deferred by a frame that panics and by one that returns; the two functions that defer it.
-/
import Derived.Test.YbulkdigkFmtFacts
namespace Go.Proofs.YbulkdigkFmt.lawB
open Go.RowKit

theorem catch_panicking (eb b : Nat) (older : List PanicEntry) (w : World) (heb : eb < w.heap.size) (u : Value) (hc : w.cell? ⟨eb, 0, none⟩ = some u) (hz : w.frozen? ⟨eb, 0, none⟩ = false) :
    CallsD Ybaf.prog 12 #[.pointer (some ⟨eb, 0, none⟩)] (.panicking ({ v := .iface 77 (.agg #[.pointer (some ⟨b, 0, none⟩)]), recovered := false } :: older)) w fun e u' w' =>
      e = .returned (.tuple #[]) ∧ u' = .panicking ({ v := .iface 77 (.agg #[.pointer (some ⟨b, 0, none⟩)]), recovered := true } :: older) ∧
        w' = (w.setCell ⟨eb, 0, none⟩ (.iface 32 (.pointer (some ⟨b, 0, none⟩)))).alloc (.cells #[.pointer (some ⟨b, 0, none⟩)] 77) := by
  refine callsD_of_wpS Ybaf.func12 rfl fun c₀ cs hu => ?_
  apply wpS_region
  simp [wpOpsS, go_sem, recoverD, hu, Ybaf.ntmps12]
  refine (settle_some eb b w heb u hc hz).mono ?_
  rintro e w' ⟨rfl, rfl⟩
  simp [bodyPostS, results, Ybaf.results12]

theorem catch_idle (eb : Nat) (w : World) :
    CallsD Ybaf.prog 12 #[.pointer (some ⟨eb, 0, none⟩)] .returning w fun e u' w' => e = .returned (.tuple #[]) ∧ u' = .returning ∧ w' = w := by
  refine callsD_of_wpS Ybaf.func12 rfl fun c₀ cs hu => ?_
  apply wpS_region
  simp [wpOpsS, go_sem, recoverD, hu, Ybaf.ntmps12]
  refine (settle_nil ⟨eb, 0, none⟩ w).mono ?_
  rintro e w' ⟨rfl, rfl⟩
  cases c₀
  simp_all [bodyPostS, results, Ybaf.results12]

set_option maxHeartbeats 400000 in
theorem bint_ok (x : Int) (w : World) : Calls Ybaf.prog 6 #[.int .i64 x, .int .i64 x] w fun e w' => e = .returned .nilIface ∧ w' = w.alloc (.cells #[.nilIface] 24) := by
  go_enter_defers Ybaf.func6, Ybaf.ntmps6
  go_wp2_with (go_at_call 13; refine (equal_int_ok _ _).mono ?_; rintro e w' ⟨rfl, rfl⟩)
  refine leaves_cons (f := 12) (args := #[.pointer (some ⟨w.heap.size, 0, none⟩)]) (by simp) (by simp [go_sem]) ?_
  refine (catch_idle w.heap.size _).mono ?_
  rintro e u' w'' ⟨rfl, rfl, rfl⟩
  simp [Leaves, Go.settle, results, Ybaf.results6, go_sem]

/-- What a failed check leaves: an error of type *Failure whose own error is nil. -/
def Failed (w w' : World) (e : Ending) : Prop := ∃ b, e = .returned (.iface 32 (.pointer (some ⟨b, 0, none⟩))) ∧ w'.cell? ⟨b, 1, none⟩ = some .nilIface ∧ Below w.heap.size w w'

theorem failed_close (w : World) (o1 o2 o4 : Obj) (s : ByteArray) : Failed w ((((w.alloc o1).alloc o2).alloc (.cells #[.string s, .nilIface] 36)).alloc o4).drew (.returned (.iface 32 (.pointer (some ⟨w.heap.size + 1 + 1, 0, none⟩)))) := by
  refine ⟨_, rfl, ?_, (((((Below.refl _ _).alloc (Nat.le_refl _) _).alloc (by simp) _).alloc (by simp; omega) _).alloc (by simp; omega) _).drew⟩
  show ((((w.alloc o1).alloc o2).alloc (.cells #[.string s, .nilIface] 36)).alloc o4).cell? _ = _
  rw [World.cell?_alloc_past _ _ _ (by simp), World.cell?_alloc_at _ _ _ _ (by simp)]
  rfl

set_option maxHeartbeats 400000 in
theorem bint_no (x y : Int) (w : World) (h : ¬ x = y) : Calls Ybaf.prog 6 #[.int .i64 x, .int .i64 y] w fun e w' => Failed w w' e := by
  go_enter_defers Ybaf.func6, Ybaf.ntmps6
  go_wp2_with (go_at_call 13; refine (equal_int_no _ _ _ h).mono ?_; rintro e w' ⟨s, rfl, rfl⟩)
  refine leaves_cons (f := 12) (args := #[.pointer (some ⟨w.heap.size, 0, none⟩)]) (by simp) (by simp [go_sem]) ?_
  refine (catch_panicking w.heap.size (w.heap.size + 1 + 1) [] _ ?_ .nilIface ?_ ?_).mono ?_
  · simp; omega
  · simp [go_sem]
  · simp [go_sem]
  rintro e u' w'' ⟨rfl, rfl, rfl⟩
  simp [Leaves, Go.settle, results, Ybaf.results6, go_sem]
  exact failed_close _ _ _ _ _

set_option maxHeartbeats 400000 in
theorem bstr_ok (x : ByteArray) (w : World) : Calls Ybaf.prog 7 #[.string x, .string x] w fun e w' => e = .returned .nilIface ∧ w' = w.alloc (.cells #[.nilIface] 24) := by
  go_enter_defers Ybaf.func7, Ybaf.ntmps7
  go_wp2_with (go_at_call 14; refine (equal_str_ok _ _).mono ?_; rintro e w' ⟨rfl, rfl⟩)
  refine leaves_cons (f := 12) (args := #[.pointer (some ⟨w.heap.size, 0, none⟩)]) (by simp) (by simp [go_sem]) ?_
  refine (catch_idle w.heap.size _).mono ?_
  rintro e u' w'' ⟨rfl, rfl, rfl⟩
  simp [Leaves, Go.settle, results, Ybaf.results7, go_sem]

set_option maxHeartbeats 400000 in
theorem bstr_no (x y : ByteArray) (w : World) (h : (x.toList == y.toList) = false) : Calls Ybaf.prog 7 #[.string x, .string y] w fun e w' => Failed w w' e := by
  go_enter_defers Ybaf.func7, Ybaf.ntmps7
  go_wp2_with (go_at_call 14; refine (equal_str_no _ _ _ h).mono ?_; rintro e w' ⟨s, rfl, rfl⟩)
  refine leaves_cons (f := 12) (args := #[.pointer (some ⟨w.heap.size, 0, none⟩)]) (by simp) (by simp [go_sem]) ?_
  refine (catch_panicking w.heap.size (w.heap.size + 1 + 1) [] _ ?_ .nilIface ?_ ?_).mono ?_
  · simp; omega
  · simp [go_sem]
  · simp [go_sem]
  rintro e u' w'' ⟨rfl, rfl, rfl⟩
  simp [Leaves, Go.settle, results, Ybaf.results7, go_sem]
  exact failed_close _ _ _ _ _

set_option maxHeartbeats 400000 in
theorem bok_same (w : World) : Calls Ybaf.prog 5 #[.nilIface, .bool true] w fun e w' => e = .returned (.bool true) ∧ w' = w := by
  go_enter Ybaf.func5, Ybaf.ntmps5
  go_wp2
  go_ret
  exact ⟨rfl, rfl⟩

set_option maxHeartbeats 400000 in
theorem bok_failed (b : Nat) (w : World) (hc : w.cell? ⟨b, 1, none⟩ = some .nilIface) : Calls Ybaf.prog 5 #[.iface 32 (.pointer (some ⟨b, 0, none⟩)), .bool false] w fun e w' => e = .returned (.bool true) ∧ w' = w := by
  have kt := ta32
  have hno : ∀ (x : Bool) (w : World), (Op.unary .not (.bool x)).run Ybaf.prog w = .ok (.bool (!x)) w := fun _ _ => rfl
  go_enter Ybaf.func5, Ybaf.ntmps5
  go_wp2
  go_ret
  exact ⟨rfl, rfl⟩

end Go.Proofs.YbulkdigkFmt.lawB
