/-
  binary.AppendUvarint's contract, onto a nil slice; after the shelf's proof, at this program.
-/
import Derived.Test.YbulkdifwUv
import Derived.OwnWalk
import Derived.Laws.IdiomStrings
namespace Go.Proofs.Ybulkdifw.uv
open Go.RowKit

/-- The number that bytes spell, seven bits a byte, the least first. -/
def val : List UInt8 → Nat
  | [] => 0
  | b :: t => b.toNat % 128 + 128 * val t

theorem val_snoc (b : UInt8) : ∀ l : List UInt8, val (l ++ [b]) = val l + 128 ^ l.length * (b.toNat % 128)
  | [] => by simp [val]
  | c :: t => by
    rw [List.cons_append, val, val_snoc b t, val, List.length_cons, Nat.pow_succ, Nat.mul_add, ← Nat.mul_assoc, Nat.mul_comm (128 ^ t.length) 128]
    omega

/-- Bytes that spell v: all but the last bear the bit 128. -/
def Good (l : List UInt8) (v : Nat) : Prop := val l = v ∧ l.length ≤ 10 ∧ ∃ pre b, l = pre ++ [b] ∧ (∀ c ∈ pre, 128 ≤ c.toNat) ∧ b.toNat < 128

def Part (v : Nat) (pre : List UInt8) (y : Nat) : Prop := (∀ c ∈ pre, 128 ≤ c.toNat) ∧ val pre + 128 ^ pre.length * y = v ∧ (pre = [] ∨ 1 ≤ y)

theorem part_len {v : Nat} {pre : List UInt8} {y : Nat} (h : Part v pre y) (hv : v < 18446744073709551616) : pre.length ≤ 9 := by
  obtain ⟨_, h2, h3⟩ := h
  rcases h3 with rfl | h3
  · simp
  · by_cases hc : pre.length ≤ 9
    · exact hc
    · have h4 : 128 ^ 10 ≤ 128 ^ pre.length := Nat.pow_le_pow_right (by omega) (by omega)
      have h5 : 128 ^ pre.length * 1 ≤ 128 ^ pre.length * y := Nat.mul_le_mul_left _ h3
      have h6 : (128 : Nat) ^ 10 = 1180591620717411303424 := by decide
      omega

theorem toUInt8_nat {a : Nat} (h : a < 256) : (a.toUInt8).toNat = a := by
  show a % 256 = a
  omega

theorem part_step {v : Nat} {pre : List UInt8} {y : Nat} (h : Part v pre y) (hy : 128 ≤ y) : Part v (pre ++ [(y % 128 + 128).toUInt8]) (y / 128) := by
  obtain ⟨h1, h2, _⟩ := h
  have e : ((y % 128 + 128).toUInt8).toNat = y % 128 + 128 := toUInt8_nat (by omega)
  refine ⟨fun c hc => ?_, ?_, .inr (by omega)⟩
  · rcases List.mem_append.1 hc with hc | hc
    · exact h1 c hc
    · rw [List.mem_singleton.1 hc, e]; omega
  · rw [val_snoc, e, show (y % 128 + 128) % 128 = y % 128 by omega, List.length_append, List.length_singleton, Nat.pow_succ, Nat.mul_assoc, Nat.add_assoc, ← Nat.mul_add, show y % 128 + 128 * (y / 128) = y by omega]
    exact h2

theorem part_last {v : Nat} {pre : List UInt8} {y : Nat} (h : Part v pre y) (hv : v < 18446744073709551616) (hy : y < 128) : Good (pre ++ [y.toUInt8]) v := by
  have hl := part_len h hv
  obtain ⟨h1, h2, _⟩ := h
  have e : (y.toUInt8).toNat = y := toUInt8_nat (by omega)
  refine ⟨?_, by simp; omega, pre, _, rfl, h1, by rw [e]; exact hy⟩
  rw [val_snoc, e, Nat.mod_eq_of_lt hy]; exact h2

def cells (l : List UInt8) : List Value := l.map fun b => Value.int .u8 (b.toNat : Int)
theorem cells_snoc (pre : List UInt8) {a : Nat} (h : a < 256) : cells (pre ++ [a.toUInt8]) = cells pre ++ [Value.int .u8 (a : Int)] := by
  simp [cells, toUInt8_nat h]

set_option maxRecDepth 100000 in
theorem or128_fin : ∀ a : Fin 256, (a.val ||| 128) = a.val % 128 + 128 := by decide
theorem or128 (a : Int) (h₀ : 0 ≤ a) (h₁ : a < 256) : bits .or .u8 a 128 = a % 128 + 128 := by
  have := u8_or_nat a.toNat 128 (by omega) (by omega)
  have e : ((a.toNat : Nat) : Int) = a := by omega
  rw [e, or128_fin ⟨a.toNat, by omega⟩] at this
  rw [show (128 : Int) = ((128 : Nat) : Int) from rfl, this]
  show ((a.toNat % 128 + 128 : Nat) : Int) = _
  omega

theorem Yba.info5 : (Yba.prog.info? 5).map (fun i => (i.zero, i.size, i.bytes)) = some (some (.int .u8 0), 1, 1) := by kernel_rfl

set_option maxHeartbeats 1000000 in
set_option maxRecDepth 100000 in
theorem app_own (v : Nat) (hv : v < 18446744073709551616) (w : World) :
    Calls Yba.prog 6 #[.slice none 0 0, .int .u64 v] w fun e w' => ∃ v' l, e = .returned v' ∧ Good l v ∧ w'.ownsRow w.heap.size 5 1 v' l.length (cells l) ∧ Below w.heap.size w w' := by
  obtain ⟨i0, hi, hz0, hz1, hz2⟩ := info_parts Yba.info5
  go_enter Yba.func6, Yba.ntmps6
  go_wp2
  go_loopw [0, 1] (fun vb vx wr => ∃ (y : Nat) (pre : List UInt8), vx = .int .u64 y ∧ y < 18446744073709551616 ∧ Part v pre y ∧ wr.ownsRow w.heap.size 5 1 vb pre.length (cells pre) ∧ Below w.heap.size w wr)
    (fun _ vx _ => (intOf vx).toNat)
  case atStart => exact ⟨v, [], rfl, hv, ⟨by simp, by simp [val], .inl rfl⟩, World.ownsRow_nil _ _ _ _, Below.refl _ _⟩
  case round =>
    obtain ⟨y, pre, rfl, hy, hpart, hown1, hnx⟩ := hrel
    have hpl := part_len hpart hv
    have HP : Hid (Part v pre y) := hpart
    clear hpart
    by_cases h128 : 128 ≤ y
    · have hor : bits .or .u8 ((y : Int) % 256) 128 = ((y % 128 + 128 : Nat) : Int) := by
        rw [or128 _ (by omega) (by omega)]
        omega
      go_wp2_with (at_builtin; refine wpList_append_own _ rfl _ _ 27 rfl w.heap.size 5 i0 (.int .u8 0) 1 1 Yba.underlying27 hi hz0 hz1 hz2 rfl (by decide) _ _ _ rfl (hown1.alloc _) ⟨wr.heap.size, 0, none⟩ 1 1 [Value.int .u8 ((y % 128 + 128 : Nat) : Int)] rfl rfl ?c1 ?c2 ?c3 ?c4 ?c5 ?_)
      case c1 =>
        intro j u hj
        match j, hj with
        | 0, hj => simp at hj; subst hj; simp [Addr.add]
      case c2 => intro u hu; simp at hu; subst hu; rfl
      case c3 => unfold maxLen; omega
      case c4 => omega
      case c5 => have := hnx.size; simp; omega
      intro v' w1 hown' hgrow _
      have hnx1 : Below w.heap.size w w1 := (hnx.alloc (by have := hnx.size; omega) _).grown hgrow (by have := hnx.size; simp; omega) (fun k hk => (hown1.lt k hk).1)
      go_wp2
      go_roundw
      case rel =>
        refine ⟨y / 128, pre ++ [(y % 128 + 128).toUInt8], by go_num, by omega, part_step HP.out h128, ?_, hnx1⟩
        have ec : ((y % 128 + 128 : Nat) : Int) = (y : Int) % 128 + 128 := by omega
        rw [cells_snoc pre (by omega), List.length_append, List.length_singleton, ec]
        exact hown'
      case measure => simp [intOf]; omega
    · go_wp2_with (at_builtin; refine wpList_append_own _ rfl _ _ 27 rfl w.heap.size 5 i0 (.int .u8 0) 1 1 Yba.underlying27 hi hz0 hz1 hz2 rfl (by decide) _ _ _ rfl (hown1.alloc _) ⟨wr.heap.size, 0, none⟩ 1 1 [Value.int .u8 (y : Int)] rfl rfl ?c1 ?c2 ?c3 ?c4 ?c5 ?_)
      case c1 =>
        intro j u hj
        match j, hj with
        | 0, hj => simp at hj; subst hj; simp [Addr.add]
      case c2 => intro u hu; simp at hu; subst hu; rfl
      case c3 => unfold maxLen; omega
      case c4 => omega
      case c5 => have := hnx.size; simp; omega
      intro v' w1 hown' hgrow _
      have hnx1 : Below w.heap.size w w1 := (hnx.alloc (by have := hnx.size; omega) _).grown hgrow (by have := hnx.size; simp; omega) (fun k hk => (hown1.lt k hk).1)
      go_wp2
      go_ret
      refine ⟨v', pre ++ [y.toUInt8], rfl, part_last HP.out hv (by omega), ?_, hnx1⟩
      rw [cells_snoc pre (by omega), List.length_append, List.length_singleton]
      exact hown'

/-- What comes back is a slice over a new row whose cells are the bytes. -/
theorem app_any (v : Nat) (hv : v < 18446744073709551616) (w : World) :
    Calls Yba.prog 6 #[.slice none 0 0, .int .u64 v] w fun e w' => ∃ (g cap : Nat) (l : List UInt8), e = .returned (.slice (some ⟨g, 0, none⟩) l.length cap) ∧ Good l v ∧
      (∀ j (hj : j < l.length), w'.cell? ((⟨g, 0, none⟩ : Addr).add j) = some (.int .u8 (l[j].toNat : Int))) ∧ Below w.heap.size w w' := by
  refine (app_own v hv w).mono ?_
  rintro e w' ⟨v', l, rfl, hgood, hown, hb⟩
  have hcells := hown
  obtain ⟨_, ⟨rfl, hn⟩ | ⟨g, cap, cur, rfl, _, _, _⟩⟩ := hown
  · obtain ⟨_, _, pre, b, rfl, _⟩ := hgood
    simp at hn
  · refine ⟨g, cap, l, rfl, hgood, fun j hj => ?_, hb⟩
    exact hcells.cells (g := g) rfl j _ (by rw [cells, List.getElem?_map, List.getElem?_eq_getElem hj]; rfl)

end Go.Proofs.Ybulkdifw.uv
