/-
  LAW A: the main walk.
-/
import Derived.Test.YbulkdifiAMain
import Derived.Deep.QuietTactic
import Derived.BigQuiet
namespace Go.Proofs.Ybulkdifi.lawA
open Go.RowKit

set_option maxHeartbeats 800000 in
set_option maxRecDepth 100000 in
theorem walk_some (a : Option Addr) (n cap : Nat) (zs : List Int) (w : World) (hn : n ≤ 1048576)
    (hc : ∀ j, j < n → ∃ b off, a = some ⟨b, off, none⟩ ∧ b < w.heap.size ∧ w.cell? ⟨b, off + j, none⟩ = some (.int .u8 (zs.getD j 0))) (hwz : ∀ k, 0 ≤ zs.getD k 0 ∧ zs.getD k 0 ≤ 255) :
    Calls Yba.prog 3 #[.bool false, .bool false, .slice a n cap] w fun e w' => e = .returned (.bool true) ∧ Below w.heap.size w w' := by
  have heq := eq24
  have hne := ne24
  have hnp := ne27
  have hmm := @run_makeMap Yba.prog
  have hst := st_start w
  go_enter Yba.func3, Yba.ntmps3
  go_wp2_with (first
    | (go_at_call 6; refine (newReg _).mono ?_; rintro e w' ⟨rfl, rfl⟩)
    | (refine wpList_alloc51 rfl rfl ?_)
    | (refine wpList_tab rfl (.tmp 39) rfl (w.heap.size + 1 + 1) rfl ?_))
  go_loopw [44, 13, 14] (fun i _ _ wr => ∃ k : Nat, k ≤ n ∧ i = .int .i64 k ∧ St w wr (Sk zs k) none) (fun i _ _ _ => n - (intOf i).toNat)
  case atStart => exact ⟨0, Nat.zero_le _, rfl, hst⟩
  case round =>
    obtain ⟨k, hk, rfl, hs⟩ := hrel
    by_cases hlt : k < n
    · obtain ⟨b, off, rfl, hb, hcj⟩ := hc k hlt
      obtain ⟨c, hce, hc255⟩ : ∃ c : Nat, zs.getD k 0 = (c : Int) ∧ c ≤ 255 := by
        have := hwz k
        exact ⟨(zs.getD k 0).toNat, by omega, by omega⟩
      have hcx : wr.cell? ⟨b, off + k, none⟩ = some (.int .u8 c) := by rw [← hce]; exact (hs.2.2.2.cell (p := ⟨b, off + k, none⟩) (by exact hb)).trans hcj
      have HS : Hid (zs.getD k 0 = (c : Int)) := hce
      clear hce hst hcj hc
      have hm : c % 128 < 128 := Nat.mod_lt _ (by omega)
      have g1 := hs.cellH hm
      have g2 := hs.cellN hm
      have g3 := hs.cellW (i := 128 + c % 128) (by omega)
      have f1 := hs.frT (c % 128 * 2)
      have f2 := hs.frT (c % 128 * 2 + 1)
      have f3 := hs.frW (128 + c % 128)
      have H1 : Hid (St w wr (Sk zs k) none) := hs
      clear hs
      go_wp2
      go_roundw
      case rel =>
        refine ⟨k + 1, by omega, by go_num, ?_⟩
        rw [Sk, HS.out, Int.toNat_natCast]
        exact H1.out.step hm
      case measure => simp [intOf]; omega
    · have : k = n := by omega
      subst this
      generalize hSe : Sk zs k = S at hs
      clear hSe hst
      have hs1 := hs.stored (some ⟨w.heap.size + 1 + 1 + 1, 0, none⟩)
      have e1 := hs.cellR
      have e2 := hs.frR
      have e3 := hs1.cellR
      have HT : Hid (wr.heap[w.heap.size + 1 + 1 + 1]? = some (.cells (tab S (w.heap.size + 1 + 1)) 50 (0, 0))) := hs.2.2.1
      have HT1 := hs1.2.2.1
      have HT2 : Hid _ := HT1
      clear HT1
      have H1 : Hid (St w _ S _) := hs1
      clear hs hs1
      go_wp2_with (first
        | (go_at_call 8; refine (store_some _ _ _ (w.heap.size + 1 + 1) S (0, 0) _ _ e1 e2 HT.out).mono ?_; rintro e w' ⟨rfl, rfl⟩)
        | (go_at_call 5; refine (list_any _ _ (w.heap.size + 1 + 1) S (0, 0) _ e3 HT2.out).mono ?_; rintro e w5 ⟨ao, cp, rfl, hao, hnil, hb5⟩; have hs5 := H1.out.below hb5; have e5 := hs5.cellR; have HT5 : Hid _ := hs5.2.2.1; clear hb5 e1 e2 e3)
        | (go_at_call 7; refine (load_some _ _ _ (w.heap.size + 1 + 1) S (0, 0) _ e5 HT5.out).mono ?_; rintro e w5 ⟨rfl, rfl⟩))
      have HS : Hid (St w w5 S _) := hs5
      clear e5 HT HT2 H1 HT5 hs5 hc hwz hmm
      go_loopw [16] (fun i wx => ∃ j nd : Nat, j ≤ 128 ∧ i = .int .i64 j ∧ wx = w5.drewN nd) (fun i _ => 128 - (intOf i).toNat)
      case atStart => exact ⟨0, 0, Nat.zero_le _, rfl, rfl⟩
      case round =>
        obtain ⟨j, nd, hj, rfl, rfl⟩ := hrel
        by_cases hlt2 : j < 128
        · have g1 := HS.out.cellH hlt2
          have g2 := HS.out.cellW (i := 128 + j) (by omega)
          have e2 : wAt S (128 + j) = S j := by rw [wAt, show 128 + j - 128 = j by omega]; simp
          rw [e2] at g2
          clear e2
          have hlt2' : (j : Int) < 128 := by omega
          cases hSj : S j
          · rw [hSj] at g1 g2
            have g1' : w5.cell? ⟨w.heap.size + 1 + 1 + 1, j * 2, none⟩ = some .nilIface := g1
            clear g1 hSj
            go_wp2
            go_quiet (fail)
            go_wp2
            go_roundw
            case rel => exact ⟨j + 1, _, by omega, by go_num, rfl⟩
            case measure => simp [intOf]; omega
          · rw [hSj] at g1 g2
            have g1' : w5.cell? ⟨w.heap.size + 1 + 1 + 1, j * 2, none⟩ = some (.iface 53 (.agg #[.nilIface])) := g1
            clear g1 hSj
            go_wp2
            go_quiet (fail)
            go_wp2
            go_roundw
            case rel => exact ⟨j + 1, _, by omega, by go_num, rfl⟩
            case measure => simp [intOf]; omega
        · go_wp2
          have hN := L_le S 128
          go_loop [17, 18] (fun x y => ∃ m : Nat, m ≤ 256 ∧ y = .int .i64 m ∧ x = .int .i64 (L S (m - 128)).length) (fun _ y => 256 - (intOf y).toNat)
          case atStart => exact ⟨0, Nat.zero_le _, rfl, rfl⟩
          case round =>
            obtain ⟨m, hm, rfl, rfl⟩ := hrel
            by_cases hlt3 : m < 256
            · have g2 := HS.out.cellW hlt3
              have hlt3' : (m : Int) < 256 := by omega
              cases hA : wAt S m
              · rw [hA] at g2
                have HA : Hid (wAt S m = false) := hA
                clear hA
                go_wp2
                go_round
                case rel => exact ⟨m + 1, by omega, by go_num, by rw [wAt_miss HA.out]⟩
                case measure => simp [intOf]; omega
              · rw [hA] at g2
                obtain ⟨t, rfl, hS⟩ := wAt_hit hA
                have HA : Hid (S t = true) := hS
                clear hA hS
                obtain ⟨g, rfl, hcg, hlg⟩ := hao t (by omega) HA.out
                rw [show t + 128 - 128 = t by omega]
                have hlg' : ((L S t).length : Int) < ((L S 128).length : Int) := by omega
                have hbn : (128 + (t : Int) != (t : Int) + 128) = false := by simp; omega
                have hng : ¬ (L S 128).length ≤ (L S t).length := by omega
                clear hao hnil
                go_wp2
                go_round
                case rel => exact ⟨t + 128 + 1, by omega, by go_num, by rw [show t + 128 + 1 - 128 = t + 1 by omega, L_hit HA.out]; simp⟩
                case measure => simp [intOf]; omega
            · obtain rfl : m = 256 := by omega
              by_cases hL : L S 128 = []
              · obtain rfl := hnil hL
                clear hao hnil
                go_wp2
                go_ret
                exact ⟨rfl, below_drewN HS.out.2.2.2 nd⟩
              · have h1 : ((L S 128).length == 0) = false := by simpa using hL
                have h2 : (((L S 128).length : Int) == 0) = false := by simpa using hL
                clear hao hnil hL
                go_wp2
                go_ret
                exact ⟨rfl, below_drewN HS.out.2.2.2 nd⟩

end Go.Proofs.Ybulkdifi.lawA
