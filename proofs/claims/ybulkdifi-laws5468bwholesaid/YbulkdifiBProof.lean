/-
  LAW B: the statement.
-/
import Derived.Test.YbulkdifiBWalks2
import Derived.ProofKit
import Derived.OpenShut
import Derived.ShutString
import Derived.ChangeOld
import Derived.Below
import Derived.SliceStrings
namespace Go.Proofs.Ybulkdifi.lawB
open Go.ChangeShapes Go.WideShapes Go.ChangeAt Go.RowKit
open Go.ChangeMaps (open_string shut_string)

theorem own : ownKnob Yba.prog.godebug = none := by kernel_rfl
theorem laidOut : laidOutB Yba.prog = true := by kernel_rfl

/-- What the walk is told of a slice of bytes that came in. -/
def IsRow (k : IntKind) (w : World) (a : Option Addr) (len cap : Nat) (zs : List Int) : Prop :=
  (a = none ∧ len = 0 ∧ cap = 0 ∧ zs = []) ∨
  ∃ x, a = some x ∧ len ≤ cap ∧ cap ≤ maxLen ∧ zs.length = cap ∧ (∀ i, i < zs.length → w.cell? (x.add i) = some (.int k (zs.getD i 0))) ∧ ∀ n ∈ zs, (Lit.int k n).wf = true

/-- What the walk is told of a slice of strings that came in. -/
def IsStrs (w : World) (a : Option Addr) (len cap : Nat) (ss : List ByteArray) : Prop :=
  (a = none ∧ len = 0 ∧ cap = 0 ∧ ss = []) ∨
  ∃ x, a = some x ∧ len ≤ cap ∧ cap ≤ maxLen ∧ ss.length = cap ∧ (∀ i, i < ss.length → w.cell? (x.add i) = some (.string (ss.getD i ByteArray.empty))) ∧ ∀ s ∈ ss, s.size ≤ maxLen

theorem lt_of_cell {w : World} {a : Addr} {v : Value} (h : w.cell? a = some v) : a.block < w.heap.size := by
  obtain ⟨e, n, hs, _⟩ := World.shape?_of_cell? h
  by_cases hlt : a.block < w.heap.size
  · exact hlt
  · simp [World.cell?, Array.getElem?_eq_none (Nat.le_of_not_lt hlt)] at h

theorem ops_of {w : World} {a : Option Addr} {lo cap : Nat} {zs : List Int} (hlo : lo ≤ 1048576) (h : IsRow .u8 w a lo cap zs) : Ops w a lo cap zs ∧ ∀ i, (Lit.int .u8 (opAt lo zs i)).wf = true := by
  rcases h with ⟨rfl, rfl, rfl, rfl⟩ | ⟨x, rfl, hl, hm, hz, hc, hw⟩
  · exact ⟨fun i wr _ _ => bop_none _ _ _ _ _, fun i => opAt_wf (lo := 0) (zs := []) (Nat.le_refl _) (fun n hn => by cases hn) i⟩
  · refine ⟨fun i wr hi hb => ?_, fun i => opAt_wf (by omega) hw i⟩
    by_cases h0 : lo = 0
    · subst h0; exact bop_none _ _ _ _ _
    · obtain ⟨b, off, spot⟩ := x
      have hspot : spot = none := by simpa [Addr.add] using World.cell?_spot (hc 0 (by omega))
      subst hspot
      have hb0 : b < w.heap.size := lt_of_cell (hc 0 (by omega))
      exact bop_some b off lo cap zs i wr hi (by omega) hlo (by omega) (fun j hj => (hb.cell (p := ⟨b, off + j, none⟩) hb0).trans (by rw [← add_plain]; exact hc j hj))

theorem walk (a0 : Bool) (a1 : Option Addr) (len1 cap1 : Nat) (z1 : List ByteArray) (a2 : Option Addr) (len2 cap2 : Nat) (z2 : List Int) (a3 : ByteArray) (a4 : Int) (w : World) (w1 : IsStrs w a1 len1 cap1 z1) (w2 : IsRow .u8 w a2 len2 cap2 z2) (w3 : a3.size ≤ maxLen) (w4 : (Lit.int .u8 a4).wf = true) :
    Calls Yba.prog 4 #[.bool a0, .slice a1 len1 cap1, .slice a2 len2 cap2, .string a3, .int .u8 a4] w fun e w' => e = .returned (.bool true) ∧ Below w.heap.size w w' := by
  obtain ⟨p, rfl, hp⟩ : ∃ p : Nat, a4 = p ∧ p ≤ 255 := by
    have := bounds_u8 w4
    exact ⟨a4.toNat, by omega, by omega⟩
  have hm1 : len1 ≤ maxLen := by rcases w1 with ⟨_, rfl, _⟩ | ⟨_, _, h1, h2, _⟩ <;> omega
  have hm2 : len2 ≤ maxLen := by rcases w2 with ⟨_, rfl, _⟩ | ⟨_, _, h1, h2, _⟩ <;> omega
  by_cases hn : 1048576 < len1
  · exact walk_long _ _ _ _ _ _ _ _ _ _ hn hm1
  by_cases hlo : 1048576 < len2
  · exact walk_longO _ _ _ _ _ _ _ _ _ _ (by omega) hlo hm2
  obtain ⟨hops, hwf⟩ := ops_of (by omega) w2
  by_cases h0 : len1 = 0
  · subst h0
    cases a0
    · exact walk_none a1 cap1 z1 a2 len2 cap2 z2 a3 p w (by omega) hp w3
    · exact walk_nil0 a1 cap1 a2 len2 cap2 a3 p w (by omega) hp
  rcases w1 with ⟨_, rfl, _⟩ | ⟨x, rfl, hl, hm, hz, hc, hw⟩
  · exact absurd rfl h0
  obtain ⟨b, off, spot⟩ := x
  have hspot : spot = none := by simpa [Addr.add] using World.cell?_spot (hc 0 (by omega))
  subst hspot
  have hb0 : b < w.heap.size := lt_of_cell (hc 0 (by omega))
  have hc' : ∀ j, j < z1.length → w.cell? ⟨b, off + j, none⟩ = some (.string (z1.getD j ByteArray.empty)) := fun j hj => by rw [← add_plain]; exact hc j hj
  cases a0
  · by_cases hpk : p % 2 = 1
    · exact walk_some b off len1 cap1 z1 a2 len2 cap2 z2 a3 _ p w (by omega) (by omega) (by omega) hb0 hc' hw (by omega) hops hwf (size_at hw _) hp (.inl ⟨hpk, rfl⟩)
    · exact walk_some b off len1 cap1 z1 a2 len2 cap2 z2 a3 a3 p w (by omega) (by omega) (by omega) hb0 hc' hw (by omega) hops hwf w3 hp (.inr ⟨by omega, rfl⟩)
  · exact walk_nil b off len1 cap1 z1 a2 len2 cap2 a3 p w (by omega) (by omega) (by omega) hc' (by omega) hp

set_option maxRecDepth 100000 in
theorem lifted (os : Os) (started : os.Started) (H : Type) (enc : TypeId × Value → H) :
    ReturnsInHanded {} Yba.checked os 4 .any (Rows.lawS5468BWholeSpec.pre6 enc Yba.prog Yba.f4 Rows.lawS5468BWholeRow.domain false) (Rows.lawS5468BWholeSpec.post enc Yba.prog Yba.f4 false true false false) := by
  refine returnsInHanded_of_change (C := Yba.checked) own started (by kernel_rfl) Yba.func4
    (ChangeSpec.witness6 (enc := enc) (C := Yba.checked) false ⟨#[], #[.bool false, .slice none 0 0, .slice none 0 0, .string ByteArray.empty, .int .u8 0], []⟩ 8 (by kernel_rfl) (by kernel_rfl) (by kernel_rfl) (by kernel_rfl)) ?_
  intro W base args ds gs before hval0 hW hcnd _
  have hval : ∀ (j : Nat) t v, Yba.f4.params[j]? = some t → args[j]? = some v → Value.okWide Yba.prog W .any base t v := hval0
  have hW' := hW
  obtain ⟨p, q, hA0, hV, rfl, hfz, hnd⟩ := hW
  have hA : DataW.TrodAll enc Yba.prog W 0 (fun _ => true) true Yba.f4.params.toList args.toList ds p := hA0
  rw [Yba.params4] at hA hval
  obtain ⟨v0, vs0, d0, ds0, p0, q0, hargs, rfl, rfl, h0, r0⟩ := trodAll_cons hA
  obtain ⟨v1, vs1, d1, ds1, p1, q1, rfl, rfl, rfl, h1, r1⟩ := trodAll_cons r0
  obtain ⟨v2, vs2, d2, ds2, p2, q2, rfl, rfl, rfl, h2, r2⟩ := trodAll_cons r1
  obtain ⟨v3, vs3, d3, ds3, p3, q3, rfl, rfl, rfl, h3, r3⟩ := trodAll_cons r2
  obtain ⟨v4, vs4, d4, ds4, p4, q4, rfl, rfl, rfl, h4, r4⟩ := trodAll_cons r3
  obtain ⟨rfl, rfl, rfl⟩ := trodAll_nil r4
  obtain rfl : args = #[v0, v1, v2, v3, v4] := by cases args; simp_all
  obtain ⟨rfl, rfl⟩ := trodVars_none hV
  obtain ⟨a0, rfl, rfl, rfl⟩ := open_bool Yba.underlying4 (hval 0 4 v0 rfl rfl) h0
  obtain ⟨a1, len1, cap1, rfl⟩ := okWide_slice Yba.underlying57 (hval 1 57 v1 rfl rfl)
  have k1 := h1
  have lt1 : ∀ x ∈ p1, x.block < W.heap.size := by obtain ⟨m, hm⟩ := k1; exact DataW.trod_lt m _ _ _ hm
  obtain ⟨z1, w1⟩ : ∃ ss, IsStrs W a1 len1 cap1 ss := by
    obtain ⟨fuel, hf⟩ := h1
    rcases open_strings Yba.underlying57 Yba.underlying9 (by kernel_rfl) hf with ⟨hcs, _⟩ | ⟨x, l, c, zs, hcs, _, hl, hm, hz, _, hcell, hwz⟩
    · simp [Value.cells] at hcs
      obtain ⟨rfl, rfl, rfl⟩ := hcs
      exact ⟨[], .inl ⟨rfl, rfl, rfl, rfl⟩⟩
    · simp [Value.cells] at hcs
      obtain ⟨rfl, rfl, rfl⟩ := hcs
      exact ⟨zs, .inr ⟨_, rfl, hl, hm, by simpa using hz, hcell, hwz⟩⟩
  obtain ⟨a2, len2, cap2, rfl⟩ := okWide_slice Yba.underlying22 (hval 2 22 v2 rfl rfl)
  have k2 := h2
  have lt2 : ∀ x ∈ p2, x.block < W.heap.size := by obtain ⟨m, hm⟩ := k2; exact DataW.trod_lt m _ _ _ hm
  obtain ⟨z2, w2⟩ : ∃ zs, IsRow .u8 W a2 len2 cap2 zs := by
    obtain ⟨fuel, hf⟩ := h2
    rcases open_ints Yba.underlying22 Yba.underlying5 (by kernel_rfl) hf with ⟨hcs, _⟩ | ⟨x, l, c, zs, hcs, _, hl, hm, hz, _, hcell, hwz⟩
    · simp [Value.cells] at hcs
      obtain ⟨rfl, rfl, rfl⟩ := hcs
      exact ⟨[], .inl ⟨rfl, rfl, rfl, rfl⟩⟩
    · simp [Value.cells] at hcs
      obtain ⟨rfl, rfl, rfl⟩ := hcs
      exact ⟨zs, .inr ⟨_, rfl, hl, hm, by simpa using hz, hcell, hwz⟩⟩
  obtain ⟨a3, rfl, rfl, rfl, w3⟩ := open_string Yba.underlying9 (hval 3 9 v3 rfl rfl) h3
  obtain ⟨a4, rfl, rfl, rfl, w4⟩ := open_int Yba.underlying5 (hval 4 5 v4 rfl rfl) h4
  clear hA0 hval0
  refine (walk a0 a1 len1 cap1 z1 a2 len2 cap2 z2 a3 a4 W w1 w2 w3 w4).mono fun e W' ⟨he, bel⟩ => ?_
  subst he
  exact ⟨_, rfl, _, _, _, [], _, [], hW', trodAll_mk1 (shut_bool Yba.underlying4 _), (trodAll_cons_mk (shut_bool Yba.underlying4 _) (trodAll_cons_mk (Below.trod laidOut (by kernel_rfl) (of_decide_eq_true (by kernel_rfl)) k1 bel lt1) (trodAll_cons_mk (Below.trod laidOut (by kernel_rfl) (of_decide_eq_true (by kernel_rfl)) k2 bel lt2) (trodAll_cons_mk (shut_string Yba.underlying9 w3) (trodAll_cons_mk (shut_int Yba.underlying5 w4) trodAll_mk0))))), rfl, bel.frame _, fun h => by cases h⟩

theorem over : Rows.lawS5468BWholeRow.holds Yba.pinned (OpenSpec.ofChange Rows.lawS5468BWholeSpec) :=
  OpenClaim.holds_of_wide 4 Yba.f4 rfl rfl rfl rfl rfl rfl rfl ⟨rfl, rfl, rfl, rfl, rfl⟩ rfl rfl rfl rfl rfl (by kernel_rfl) Yba.func4 (by kernel_rfl)
    (of_decide_eq_true (by kernel_rfl)) (by unfold Func.isWrapper; first | (rw [if_pos (by decide +kernel)]; kernel_rfl) | (rw [if_neg (by decide +kernel)]; exact ⟨rfl, rfl⟩))
    (fun os started H enc _ => lifted os started H enc)

theorem proved : Rows.LawS5468BWholeSaid := over
end Go.Proofs.Ybulkdifi.lawB
