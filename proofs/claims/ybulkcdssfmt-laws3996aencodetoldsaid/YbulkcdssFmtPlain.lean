import Derived.Test.YbulkcdssFmtEncodeFn
import Derived.Laws.RangeString
namespace Go.Proofs.YbulkcdssFmt
open Go.RowKit
set_option linter.unusedVariables false

/-- The text of the signs C 0, C 1 .. -/
def txt (C : Nat → Nat) (M : Nat) : ByteArray := strOfNums ((List.range M).map fun i => (C i : Int))

theorem txt_size (C : Nat → Nat) (M : Nat) : (txt C M).size = M := by unfold txt; rw [strOfNums_size]; simp

theorem txt_data (C : Nat → Nat) (M : Nat) : (txt C M).data.toList = (List.range M).map fun i => UInt8.ofNat (C i) := by
  unfold txt; rw [strOfNums_data, List.map_map]; rfl

theorem txt_at (C : Nat → Nat) (M i : Nat) (hi : i < M) (h : i < (txt C M).size) (hc : C i < 128) : ((txt C M)[i]'h).toNat = C i := by
  have e : (txt C M)[i]'h = UInt8.ofNat (C i) := by
    show (txt C M).data[i] = _
    have := txt_data C M
    have h2 : (txt C M).data.toList[i]? = some (UInt8.ofNat (C i)) := by rw [this]; simp [hi]
    rw [Array.getElem?_toList] at h2
    exact (Array.getElem?_eq_some_iff.1 h2).2
  rw [e, UInt8.toNat_ofNat']
  omega

theorem idx_from_all (C : Nat → Nat) (M : Nat) (hC : ∀ i, i < M → hexB (C i) = true ∧ C i < 128) : ∀ f pos, Lib.idxFuncFrom (fun x => !hexB x) true (txt C M) f pos = -1
  | 0, _ => rfl
  | f + 1, pos => by
    unfold Lib.idxFuncFrom
    by_cases h : pos < (txt C M).size
    · have hM : pos < M := by rw [txt_size] at h; exact h
      have ha := txt_at C M pos hM h (hC pos hM).2
      rw [if_pos h, decode_ascii _ pos h (by rw [ha]; exact (hC pos hM).2)]
      simp only [ha, (hC pos hM).1]
      rw [if_neg (by decide)]
      exact idx_from_all C M hC f _
    · rw [if_neg h]

theorem idx_all (C : Nat → Nat) (M : Nat) (hC : ∀ i, i < M → hexB (C i) = true ∧ C i < 128) : Lib.idxFunc (fun x => !hexB x) true (txt C M) = -1 := idx_from_all C M hC _ _

theorem idx_from_some (C : Nat → Nat) (M p : Nat) (hC : ∀ i, i < M → C i < 128) (hp : p < M) (hn : hexB (C p) = false) :
    ∀ f pos, pos ≤ p → M ≤ pos + f → ∃ k : Nat, k < M ∧ Lib.idxFuncFrom (fun x => !hexB x) true (txt C M) f pos = k
  | 0, pos, h1, h2 => by omega
  | f + 1, pos, h1, h2 => by
    unfold Lib.idxFuncFrom
    have h : pos < (txt C M).size := by rw [txt_size]; omega
    have hM : pos < M := by omega
    have ha := txt_at C M pos hM h (hC pos hM)
    rw [if_pos h, decode_ascii _ pos h (by rw [ha]; exact hC pos hM)]
    simp only [ha]
    by_cases hx : hexB (C pos) = true
    · rw [if_neg (by simp [hx])]
      have hne : pos ≠ p := fun e => by rw [e, hn] at hx; cases hx
      exact idx_from_some C M p hC hp hn f (pos + 1) (by omega) (by omega)
    · rw [if_pos (by simpa using hx)]
      exact ⟨pos, hM, rfl⟩

theorem idx_some (C : Nat → Nat) (M p : Nat) (hC : ∀ i, i < M → C i < 128) (hp : p < M) (hn : hexB (C p) = false) : ∃ k : Nat, k < M ∧ Lib.idxFunc (fun x => !hexB x) true (txt C M) = k :=
  idx_from_some C M p hC hp hn _ 0 (Nat.zero_le _) (by rw [txt_size]; omega)

theorem v_small : ∀ c : Fin 128, hexB c.val = true → Lib.Hx.v (UInt8.ofNat c.val) = nib c.val ∧ nib c.val ≤ 15 := by decide +kernel

theorem v_nib (c : Nat) (h : c < 128) (hx : hexB c = true) : Lib.Hx.v (UInt8.ofNat c) = nib c ∧ nib c ≤ 15 := v_small ⟨c, h⟩ hx

/-- The octets that the text spells. -/
def octets (C : Nat → Nat) (k : Nat) : List UInt8 := (List.range k).map fun i => UInt8.ofNat (nib (C (2 * i)) * 16 + nib (C (2 * i + 1)))

theorem decode_all : ∀ (k : Nat) (C : Nat → Nat), (∀ i, i < 2 * k → hexB (C i) = true ∧ C i < 128) → Lib.Hx.decode ((List.range (2 * k)).map fun i => UInt8.ofNat (C i)) = (octets C k, .ok)
  | 0, C, _ => Lib.Hx.decode_nil
  | k + 1, C, h => by
    have h0 := h 0 (by omega)
    have h1 := h 1 (by omega)
    have e0 := v_nib (C 0) h0.2 h0.1
    have e1 := v_nib (C 1) h1.2 h1.1
    have ih := decode_all k (fun i => C (i + 2)) (fun i hi => h (i + 2) (by omega))
    have el : (List.range (2 * (k + 1))).map (fun i => UInt8.ofNat (C i)) = UInt8.ofNat (C 0) :: UInt8.ofNat (C 1) :: (List.range (2 * k)).map (fun i => UInt8.ofNat (C (i + 2))) := by
      rw [show 2 * (k + 1) = 2 * k + 1 + 1 by omega, List.range_succ_eq_map, List.range_succ_eq_map]
      simp [List.map_map, Function.comp_def]
    rw [el, Lib.Hx.decode_two, if_neg (by omega), if_neg (by omega), ih]
    refine Prod.ext ?_ rfl
    show UInt8.ofNat (Lib.Hx.v (UInt8.ofNat (C 0)) * 16 + Lib.Hx.v (UInt8.ofNat (C 1))) :: octets (fun i => C (i + 2)) k = octets C (k + 1)
    rw [e0.1, e1.1]
    unfold octets
    rw [List.range_succ_eq_map, List.map_cons, List.map_map]
    rfl

theorem octets_length (C : Nat → Nat) (k : Nat) : (octets C k).length = k := by simp [octets]

/-- The i-th of the 22 hex digits. -/
def dig (d : Nat) : Nat := [48, 49, 50, 51, 52, 53, 54, 55, 56, 57, 97, 98, 99, 100, 101, 102, 65, 66, 67, 68, 69, 70].getD (d % 22) 48
theorem dig_small : ∀ d : Fin 22, hexB (dig d.val) = true ∧ dig d.val < 128 := by decide +kernel
theorem dig_hex (d : Nat) : hexB (dig d) = true ∧ dig d < 128 := by
  have e : dig d = dig (d % 22) := by unfold dig; rw [Nat.mod_mod]
  rw [e]
  exact dig_small ⟨d % 22, Nat.mod_lt _ (by omega)⟩

/-- The text with the junk in it. -/
def junkC (p : Nat) (Z : Nat → Nat) (i : Nat) : Nat := if i < p then dig (Z i) else if i = p then 103 else dig (Z (i - 1))
theorem junkC_lt (p : Nat) (Z : Nat → Nat) (i : Nat) : junkC p Z i < 128 := by
  unfold junkC
  split
  · exact (dig_hex _).2
  · split
    · omega
    · exact (dig_hex _).2
theorem junkC_at (p : Nat) (Z : Nat → Nat) : hexB (junkC p Z p) = false := by
  have e : junkC p Z p = 103 := by unfold junkC; rw [if_neg (by omega), if_pos rfl]
  rw [e]; decide
end Go.Proofs.YbulkcdssFmt
