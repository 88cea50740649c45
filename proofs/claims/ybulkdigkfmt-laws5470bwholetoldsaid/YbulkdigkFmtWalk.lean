/-
  LawS5470BWhole's walk.
-/
import Derived.Test.YbulkdigkFmtCatch
namespace Go.Proofs.YbulkdigkFmt.lawB
open Go.RowKit

/-- The first half: the check at int64, and what the law makes of it. -/
def IntHalf (x y : Int) : Prop := ∀ w : World, Calls Ybaf.prog 6 #[.int .i64 x, .int .i64 y] w fun e w' => ∃ v, e = .returned v ∧ Below w.heap.size w w' ∧ Calls Ybaf.prog 5 #[v, .bool (x == y)] w' fun e' w'' => e' = .returned (.bool true) ∧ w'' = w'
def StrHalf (x y : ByteArray) : Prop := ∀ w : World, Calls Ybaf.prog 7 #[.string x, .string y] w fun e w' => ∃ v, e = .returned v ∧ Below w.heap.size w w' ∧ Calls Ybaf.prog 5 #[v, .bool (x.toList == y.toList)] w' fun e' w'' => e' = .returned (.bool true) ∧ w'' = w'

theorem int_half (x y : Int) : IntHalf x y := by
  intro w
  by_cases h : x = y
  · subst h
    refine (bint_ok x w).mono ?_
    rintro e w' ⟨rfl, rfl⟩
    refine ⟨_, rfl, (Below.refl _ _).alloc (Nat.le_refl _) _, ?_⟩
    rw [show (x == x) = true by simp]
    exact bok_same _
  · refine (bint_no x y w h).mono ?_
    rintro e w' ⟨b, rfl, hc, hb⟩
    refine ⟨_, rfl, hb, ?_⟩
    rw [show (x == y) = false by simpa using h]
    exact bok_failed b w' hc

theorem str_half (x y : ByteArray) : StrHalf x y := by
  intro w
  by_cases h : (x.toList == y.toList) = true
  · have e : x = y := by
      have h' : x.data.toList = y.data.toList := by rw [← ByteArray.toList_eq, ← ByteArray.toList_eq]; simpa using h
      cases x; cases y; simp at h'; rw [h']
    subst e
    refine (bstr_ok x w).mono ?_
    rintro e w' ⟨rfl, rfl⟩
    refine ⟨_, rfl, (Below.refl _ _).alloc (Nat.le_refl _) _, ?_⟩
    rw [h]
    exact bok_same _
  · have h' : (x.toList == y.toList) = false := by simpa using h
    refine (bstr_no x y w h').mono ?_
    rintro e w' ⟨b, rfl, hc, hb⟩
    refine ⟨_, rfl, hb, ?_⟩
    rw [h']
    exact bok_failed b w' hc

set_option maxHeartbeats 400000 in
/-- The law's body, the two wants as the two bools have laid them. -/
theorem law_any (gi wi : Int) (si : Bool) (gs ws : ByteArray) (ss : Bool) (w : World) :
    Calls Ybaf.prog 3 #[.int .i64 gi, .int .i64 wi, .bool si, .string gs, .string ws, .bool ss] w fun e w' => e = .returned (.bool true) ∧ Below w.heap.size w w' := by
  have hno : ∀ (x : Bool) (w : World), (Op.unary .not (.bool x)).run Ybaf.prog w = .ok (.bool (!x)) w := fun _ _ => rfl
  cases si <;> cases ss
  · go_enter Ybaf.func3, Ybaf.ntmps3
    go_wp2_with fail
    refine (int_half gi wi w).mono ?_
    rintro e w1 ⟨v1, rfl, hb1, hok1⟩
    go_wp2_with fail
    refine hok1.mono ?_
    rintro e w1 ⟨rfl, rfl⟩
    go_wp2_with fail
    refine (str_half gs ws w1).mono ?_
    rintro e w2 ⟨v2, rfl, hb2, hok2⟩
    go_wp2_with fail
    refine hok2.mono ?_
    rintro e w2 ⟨rfl, rfl⟩
    go_wp2
    go_ret
    exact ⟨rfl, hb1.trans (hb2.mono hb1.size)⟩
  · go_enter Ybaf.func3, Ybaf.ntmps3
    go_wp2_with fail
    refine (int_half gi wi w).mono ?_
    rintro e w1 ⟨v1, rfl, hb1, hok1⟩
    go_wp2_with fail
    refine hok1.mono ?_
    rintro e w1 ⟨rfl, rfl⟩
    go_wp2_with fail
    refine (str_half gs gs w1).mono ?_
    rintro e w2 ⟨v2, rfl, hb2, hok2⟩
    rw [show (gs.toList == gs.toList) = true by simp] at hok2
    go_wp2_with fail
    refine hok2.mono ?_
    rintro e w2 ⟨rfl, rfl⟩
    go_wp2
    go_ret
    exact ⟨rfl, hb1.trans (hb2.mono hb1.size)⟩
  · go_enter Ybaf.func3, Ybaf.ntmps3
    go_wp2_with fail
    refine (int_half gi gi w).mono ?_
    rintro e w1 ⟨v1, rfl, hb1, hok1⟩
    rw [show (gi == gi) = true by simp] at hok1
    go_wp2_with fail
    refine hok1.mono ?_
    rintro e w1 ⟨rfl, rfl⟩
    go_wp2_with fail
    refine (str_half gs ws w1).mono ?_
    rintro e w2 ⟨v2, rfl, hb2, hok2⟩
    go_wp2_with fail
    refine hok2.mono ?_
    rintro e w2 ⟨rfl, rfl⟩
    go_wp2
    go_ret
    exact ⟨rfl, hb1.trans (hb2.mono hb1.size)⟩
  · go_enter Ybaf.func3, Ybaf.ntmps3
    go_wp2_with fail
    refine (int_half gi gi w).mono ?_
    rintro e w1 ⟨v1, rfl, hb1, hok1⟩
    rw [show (gi == gi) = true by simp] at hok1
    go_wp2_with fail
    refine hok1.mono ?_
    rintro e w1 ⟨rfl, rfl⟩
    go_wp2_with fail
    refine (str_half gs gs w1).mono ?_
    rintro e w2 ⟨v2, rfl, hb2, hok2⟩
    rw [show (gs.toList == gs.toList) = true by simp] at hok2
    go_wp2_with fail
    refine hok2.mono ?_
    rintro e w2 ⟨rfl, rfl⟩
    go_wp2
    go_ret
    exact ⟨rfl, hb1.trans (hb2.mono hb1.size)⟩

end Go.Proofs.YbulkdigkFmt.lawB
