/-
  LAW B's walks.
-/
import Derived.Test.YbulkdifiBParts
import Derived.Laws.Tables
import Derived.Deep.QuietTactic
import Derived.BigQuiet
namespace Go.Proofs.Ybulkdifi.lawB
open Go.RowKit Go.Maps Go.WideMaps

/-- The table's cells: no handler, no name, 128 times; then the map. -/
def tblCells (bm : Nat) : Array Value := ((List.replicate 128 [Value.nilIface, Value.string ByteArray.empty]).flatten ++ [Value.map (some bm)]).toArray
theorem tbl_at (bm : Nat) : (tblCells bm)[256]? = some (.map (some bm)) := by kernel_rfl
theorem tbl_size (bm : Nat) : (tblCells bm).size = 257 := by kernel_rfl
theorem tbl_built (bm : Nat) : Yba.prog.built 50 [(1, .map (some bm))] = some (tblCells bm) := by kernel_rfl

theorem tbl_cell (bm : Nat) (wr : World) : (wr.alloc (.cells (tblCells bm) 50)).cell? ⟨wr.heap.size, 256, none⟩ = some (.map (some bm)) :=
  (World.cell?_alloc_at (tblCells bm) 50 _ 256 rfl).trans (tbl_at bm)

theorem wpList_tbl {w : World} {ops : Array Oper} {rest : List Oper} {o : Oper} {a : Act} {Q : Exit → Act → World → Prop}
    (hg : o.guard = none) (x : Operand) (hop : o.op = Op.build 50 #[(1, x)]) (bm : Nat) (hm : a.eval x = .map (some bm))
    (hK : wpList Yba.prog ops Q rest (a.put o.dst (.agg (tblCells bm))) w) :
    wpList Yba.prog ops Q (o :: rest) a w := by
  refine wpList_plain hg fun K' hK' => ?_
  unfold Oper.wp
  simp [execOp, hop, hm, run_build w 50 #[(1, .map (some bm))] _ (tbl_built bm), Result.andThen]
  exact hK' _ _ hK

/-- What is known of the opcodes' slice: whatever the place, the call gives 'opAt'. -/
def Ops (w : World) (a : Option Addr) (lo cap : Nat) (zs : List Int) : Prop :=
  ∀ (i : Nat) (wr : World), i < 2097152 → Below w.heap.size w wr → Calls Yba.prog 9 #[.slice a lo cap, .int .i64 i] wr fun e w' => e = .returned (.int .u8 (opAt lo zs i)) ∧ w' = wr

set_option maxHeartbeats 400000 in
set_option maxRecDepth 100000 in
theorem walk_some (b off n cap : Nat) (ss : List ByteArray) (ao : Option Addr) (lo capo : Nat) (zs : List Int) (query q : ByteArray) (p : Nat) (w : World)
    (hn : n ≤ 1048576) (h0 : 0 < n) (hz : n ≤ ss.length) (hb : b < w.heap.size) (hc : ∀ j, j < ss.length → w.cell? ⟨b, off + j, none⟩ = some (.string (ss.getD j ByteArray.empty))) (hsz : ∀ s ∈ ss, s.size ≤ maxLen)
    (hlo : lo ≤ 1048576) (hops : Ops w ao lo capo zs) (hwf : ∀ i, (Lit.int .u8 (opAt lo zs i)).wf = true) (hq : q.size ≤ maxLen) (hp1 : p ≤ 255)
    (hpick : (p % 2 = 1 ∧ ss.getD (p / 2 % n) ByteArray.empty = q) ∨ (p % 2 = 0 ∧ q = query)) :
    Calls Yba.prog 4 #[.bool false, .slice (some ⟨b, off, none⟩) n cap, .slice ao lo capo, .string query, .int .u8 p] w fun e w' => e = .returned (.bool true) ∧ Below w.heap.size w w' := by
  have hmm := @run_makeMap Yba.prog
  have hno : ∀ (x : Bool) (w : World), (Op.unary .not (.bool x)).run Yba.prog w = .ok (.bool (!x)) w := fun _ _ => rfl
  go_enter Yba.func4, Yba.ntmps4
  go_wp2
  go_loopw [14, 15] (fun i _ wr => ∃ k : Nat, k ≤ n ∧ i = .int .i64 k ∧ wr.ownsMap Yba.prog 9 (plainElem Yba.prog 55) w.heap.size k (C ss lo zs k) ∧ wr.ownsMap Yba.prog 9 (plainElem Yba.prog 55) (w.heap.size + 1) k (C ss lo zs k) ∧ Below w.heap.size w wr)
    (fun i _ _ => n - (intOf i).toNat)
  case atStart => exact ⟨0, Nat.zero_le _, rfl, (World.ownsMap_made _ _ _ _).alloc _, by simpa [C] using World.ownsMap_made (w.alloc (.map #[] 0)) Yba.prog 9 (plainElem (H := Unit) Yba.prog 55), ((Below.refl _ _).alloc (Nat.le_refl _) _).alloc (by simp) _⟩
  case round =>
    obtain ⟨k, hk, rfl, hown, hown2, hnx⟩ := hrel
    by_cases hlt : k < n
    · obtain ⟨s, hs⟩ : ∃ s, s = ss.getD k ByteArray.empty := ⟨_, rfl⟩
      have hcx : wr.cell? ⟨b, off + k, none⟩ = some (.string s) := by rw [hs]; exact (hnx.cell (by exact hb)).trans (hc k (by omega))
      have hkey : keyOf Yba.prog 9 (.string s) = some (keyAt ss k) := by rw [hs]; exact key_ok (size_at hsz k)
      have hcx1 : ∀ w1 : World, wr.grownBy w1 (some w.heap.size) → w1.cell? ⟨b, off + k, none⟩ = some (.string s) := fun w1 hg => (((hnx.grown hg hnx.size (fun j hj => by cases hj; exact Nat.le_refl _)).cell (by exact hb)).trans ((hnx.cell (p := ⟨b, off + k, none⟩) (by exact hb)).symm)).trans hcx
      clear hs
      go_wp2_with (first
        | (go_at_call 9; refine (hops k _ (by omega) hnx).mono ?_; rintro e w' ⟨rfl, rfl⟩)
        | (at_mapUpdate; refine wpList_mapUpdate_own _ rfl (.tmp 44) _ _ 48 rfl 9 55 law Yba.underlying48 _ w.heap.size k _ rfl hown (by unfold maxLen; omega) _ _ _ rfl rfl hkey _ [] (plainElem_int Yba.underlying55 (hwf k)) ?_; intro w1 hown1 hgrow1; have hcx2 := hcx1 w1 hgrow1)
        | (at_mapUpdate; refine wpList_mapUpdate_own _ rfl (.tmp 50) _ _ 48 rfl 9 55 law Yba.underlying48 _ (w.heap.size + 1) k _ rfl (hown2.kept hgrow1 (by simp)) (by unfold maxLen; omega) _ _ _ rfl rfl hkey _ [] (plainElem_int Yba.underlying55 (hwf k)) ?_; intro w2 hown3 hgrow2)
        | go_in)
      have R1 := hown1.kept hgrow2 (by simp)
      have R2 := (hnx.grown hgrow1 hnx.size (fun j hj => by cases hj; exact Nat.le_refl _)).grown hgrow2 (Nat.le_trans hnx.size hgrow1.size) (fun j hj => by cases hj; exact Nat.le_succ _)
      go_roundw
      case rel => exact ⟨k + 1, by omega, by go_num, R1, hown3, R2⟩
      case measure => simp [intOf]; omega
    · have : k = n := by omega
      subst this
      have hbr : b < wr.heap.size := Nat.lt_of_lt_of_le hb hnx.size
      have hcr : ∀ j, j < k → wr.cell? ⟨b, off + j, none⟩ = some (.string (ss.getD j ByteArray.empty)) := fun j hj => (hnx.cell (by exact hb)).trans (hc j (by omega))
      have hpm : p / 2 % k < k := Nat.mod_lt _ h0
      have hpc := hcr _ hpm
      have hpi : 0 ≤ (p : Int) / 2 % (k : Int) := Int.emod_nonneg _ (by omega)
      have hpj : (p : Int) / 2 % (k : Int) < (k : Int) := Int.emod_lt_of_pos _ (by omega)
      have hct : (wr.alloc (.cells (tblCells w.heap.size) 50)).cell? ⟨wr.heap.size, 256, none⟩ = some (.map (some w.heap.size)) := tbl_cell _ _
      have HC : Hid (∀ j, j < k → wr.cell? ⟨b, off + j, none⟩ = some (.string (ss.getD j ByteArray.empty))) := hcr
      clear hcr hc
      rcases hpick with ⟨hp, hqe⟩ | ⟨hp, rfl⟩
      · rw [hqe] at hpc
        clear hqe
        go_wp2_with (first | (refine wpList_tbl rfl (.tmp 56) rfl w.heap.size rfl ?_) | go_in)
        go_loop [17, 18, 19] (fun x y i => ∃ m : Nat, m ≤ k ∧ i = .int .i64 m ∧ x = .int .u8 (want ss lo zs q m).1 ∧ y = .bool (want ss lo zs q m).2) (fun _ _ i => k - (intOf i).toNat)
        case atStart => exact ⟨0, Nat.zero_le _, rfl, rfl, rfl⟩
        case round =>
          obtain ⟨m, hm, rfl, rfl, rfl⟩ := hrel
          by_cases hlt2 : m < k
          · obtain ⟨s, hs⟩ : ∃ s, s = ss.getD m ByteArray.empty := ⟨_, rfl⟩
            have hcm : wr.cell? ⟨b, off + m, none⟩ = some (.string s) := by rw [hs]; exact HC.out m hlt2
            have HS : Hid (s = ss.getD m ByteArray.empty) := hs
            clear hs
            go_wp2_with (go_at_call 9; refine (hops m _ (by omega) (hnx.alloc hnx.size _)).mono ?_; rintro e w' ⟨rfl, rfl⟩)
            all_goals
              go_round
              case rel =>
                first
                  | (have ht : (s.toList == q.toList) = true := by assumption
                     exact ⟨m + 1, by omega, by go_num, by rw [want_hit HS ht], by rw [want_hit HS ht]⟩)
                  | (have ht : (s.toList == q.toList) = false := by assumption
                     exact ⟨m + 1, by omega, by go_num, by rw [want_miss HS ht], by rw [want_miss HS ht]⟩)
              case measure => simp [intOf]; omega
          · have : m = k := by omega
            subst this
            go_wp2_with (first
              | (go_at_call 10; refine (opcode_want _ _ m ss lo zs q _ hq hct (hown.alloc _)).mono ?_; rintro e w' ⟨rfl, rfl⟩)
              | (at_len; refine wpList_len_own _ rfl (.tmp 110) 48 rfl 9 55 Yba.underlying48 _ w.heap.size m _ rfl (hown.alloc _) ?_)
              | (at_len; refine wpList_len_own _ rfl (.tmp 112) 48 rfl 9 55 Yba.underlying48 _ (w.heap.size + 1) m _ rfl (hown2.alloc _) ?_))
            go_loopw [22] (fun i wx => ∃ j nd : Nat, j ≤ m ∧ i = .int .i64 j ∧ wx = (wr.alloc (.cells (tblCells w.heap.size) 50)).drewN nd) (fun i _ => m - (intOf i).toNat)
            case atStart => exact ⟨0, 0, Nat.zero_le _, rfl, rfl⟩
            case round =>
              obtain ⟨j, nd, hj, rfl, rfl⟩ := hrel
              by_cases hlt3 : j < m
              · obtain ⟨s, hs⟩ : ∃ s, s = ss.getD j ByteArray.empty := ⟨_, rfl⟩
                have hcm : wr.cell? ⟨b, off + j, none⟩ = some (.string s) := by rw [hs]; exact HC.out j hlt3
                have hkey : keyOf Yba.prog 9 (.string s) = some (keyAt ss j) := by rw [hs]; exact key_ok (size_at hsz j)
                clear hs
                obtain ⟨c, hl1, hl2⟩ := look_two (hown.alloc (.cells (tblCells w.heap.size) 50)) (hown2.alloc _) hkey
                have hlt3' : (j : Int) < (m : Int) := by omega
                go_wp2
                go_quiet (fail)
                go_wp2
                go_roundw
                case rel => exact ⟨j + 1, _, by omega, by go_num, rfl⟩
                case measure => simp [intOf]; omega
              · go_wp2
                go_ret
                exact ⟨rfl, below_drewN (hnx.alloc hnx.size _) _⟩
      · clear hpc hpm hpi hpj
        go_wp2_with (first | (refine wpList_tbl rfl (.tmp 56) rfl w.heap.size rfl ?_) | go_in)
        go_loop [17, 18, 19] (fun x y i => ∃ m : Nat, m ≤ k ∧ i = .int .i64 m ∧ x = .int .u8 (want ss lo zs q m).1 ∧ y = .bool (want ss lo zs q m).2) (fun _ _ i => k - (intOf i).toNat)
        case atStart => exact ⟨0, Nat.zero_le _, rfl, rfl, rfl⟩
        case round =>
          obtain ⟨m, hm, rfl, rfl, rfl⟩ := hrel
          by_cases hlt2 : m < k
          · obtain ⟨s, hs⟩ : ∃ s, s = ss.getD m ByteArray.empty := ⟨_, rfl⟩
            have hcm : wr.cell? ⟨b, off + m, none⟩ = some (.string s) := by rw [hs]; exact HC.out m hlt2
            have HS : Hid (s = ss.getD m ByteArray.empty) := hs
            clear hs
            go_wp2_with (go_at_call 9; refine (hops m _ (by omega) (hnx.alloc hnx.size _)).mono ?_; rintro e w' ⟨rfl, rfl⟩)
            all_goals
              go_round
              case rel =>
                first
                  | (have ht : (s.toList == q.toList) = true := by assumption
                     exact ⟨m + 1, by omega, by go_num, by rw [want_hit HS ht], by rw [want_hit HS ht]⟩)
                  | (have ht : (s.toList == q.toList) = false := by assumption
                     exact ⟨m + 1, by omega, by go_num, by rw [want_miss HS ht], by rw [want_miss HS ht]⟩)
              case measure => simp [intOf]; omega
          · have : m = k := by omega
            subst this
            go_wp2_with (first
              | (go_at_call 10; refine (opcode_want _ _ m ss lo zs q _ hq hct (hown.alloc _)).mono ?_; rintro e w' ⟨rfl, rfl⟩)
              | (at_len; refine wpList_len_own _ rfl (.tmp 110) 48 rfl 9 55 Yba.underlying48 _ w.heap.size m _ rfl (hown.alloc _) ?_)
              | (at_len; refine wpList_len_own _ rfl (.tmp 112) 48 rfl 9 55 Yba.underlying48 _ (w.heap.size + 1) m _ rfl (hown2.alloc _) ?_))
            go_loopw [22] (fun i wx => ∃ j nd : Nat, j ≤ m ∧ i = .int .i64 j ∧ wx = (wr.alloc (.cells (tblCells w.heap.size) 50)).drewN nd) (fun i _ => m - (intOf i).toNat)
            case atStart => exact ⟨0, 0, Nat.zero_le _, rfl, rfl⟩
            case round =>
              obtain ⟨j, nd, hj, rfl, rfl⟩ := hrel
              by_cases hlt3 : j < m
              · obtain ⟨s, hs⟩ : ∃ s, s = ss.getD j ByteArray.empty := ⟨_, rfl⟩
                have hcm : wr.cell? ⟨b, off + j, none⟩ = some (.string s) := by rw [hs]; exact HC.out j hlt3
                have hkey : keyOf Yba.prog 9 (.string s) = some (keyAt ss j) := by rw [hs]; exact key_ok (size_at hsz j)
                clear hs
                obtain ⟨c, hl1, hl2⟩ := look_two (hown.alloc (.cells (tblCells w.heap.size) 50)) (hown2.alloc _) hkey
                have hlt3' : (j : Int) < (m : Int) := by omega
                go_wp2
                go_quiet (fail)
                go_wp2
                go_roundw
                case rel => exact ⟨j + 1, _, by omega, by go_num, rfl⟩
                case measure => simp [intOf]; omega
              · go_wp2
                go_ret
                exact ⟨rfl, below_drewN (hnx.alloc hnx.size _) _⟩

end Go.Proofs.Ybulkdifi.lawB
