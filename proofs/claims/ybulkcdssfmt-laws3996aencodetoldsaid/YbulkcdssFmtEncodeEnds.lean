import Derived.Test.YbulkcdssFmtPlain
namespace Go.Proofs.YbulkcdssFmt
open Go.RowKit Go.Extern.Stop Go.Stop Go.Extern
set_option linter.unusedVariables false

/-- The signs of the text. -/
def signs (jk : Bool) (k ps : Nat) (Z : Nat → Nat) (j : Nat) : Nat := if jk then junkC (ps % (k + 1)) Z j else dig (Z j)
/-- Their number. -/
def count (jk : Bool) (k : Nat) : Nat := if jk then k + 1 else k

theorem signs_lt (jk : Bool) (k ps : Nat) (Z : Nat → Nat) (j : Nat) : signs jk k ps Z j < 128 := by
  unfold signs
  split
  · exact junkC_lt _ _ _
  · exact (dig_hex _).2
theorem count_le (jk : Bool) (k : Nat) : count jk k ≤ k + 1 := by unfold count; split <;> omega

theorem signs_hex (k ps : Nat) (Z : Nat → Nat) (j : Nat) : hexB (signs false k ps Z j) = true ∧ signs false k ps Z j < 128 := dig_hex (Z j)

theorem signs_decode (k ps : Nat) (Z : Nat → Nat) (h : k % 2 = 0) : Lib.Hx.decode (txt (signs false k ps Z) (count false k)).data.toList = (octets (signs false k ps Z) (k / 2), .ok) := by
  rw [txt_data]
  have e : count false k = 2 * (k / 2) := by show k = _; omega
  rw [e]
  exact decode_all _ _ fun i _ => signs_hex k ps Z i

theorem encode_bad (F : Interp) (jk : Bool) (k ps : Nat) (Z : Nat → Nat) (N : Int) (g : Nat) (W : World) (ev : Value) (hF : F.answers W.tape) (hg : W.cell? ⟨g, 0, none⟩ = some (.int .i64 N)) (hE : W.cell? ⟨6, 0, none⟩ = some ev)
    (hk : k ≤ 4096) (bad : jk = true ∨ k % 2 = 1 ∨ N ≠ ((k / 2 : Nat) : Int)) :
    Calls Ybaf.prog 15 #[.string (txt (signs jk k ps Z) (count jk k)), .pointer (some ⟨g, 0, none⟩)] W (Fails W) := by
  have hs := txt_size (signs jk k ps Z) (count jk k)
  have hle := count_le jk k
  cases jk with
  | true =>
    have hp : ps % (k + 1) < k + 1 := Nat.mod_lt _ (by omega)
    obtain ⟨q, hq, hidx⟩ := idx_some (signs true k ps Z) (count true k) (ps % (k + 1)) (fun i _ => signs_lt true k ps Z i) hp (junkC_at _ _)
    exact encode_err _ N g W hg (hex_sign F _ q W hF (by omega) hidx (by omega))
  | false =>
    have hidx := idx_all (signs false k ps Z) (count false k) fun i _ => signs_hex k ps Z i
    have hc : count false k = k := rfl
    rw [hc] at hs
    by_cases hodd : k % 2 = 1
    · refine encode_err _ N g W hg (hex_odd F _ W hF (by rw [hc, hs]; omega) hidx ?_)
      rw [hc, hs, bne_iff_ne]; omega
    · have hN : N ≠ ((k / 2 : Nat) : Int) := by
        rcases bad with h | h | h
        · cases h
        · omega
        · exact h
      refine encode_want F _ N g W ev _ hF hg hE (by rw [hc, hs]; omega) hidx ?_ (signs_decode k ps Z (by omega)) ?_
      · rw [hc, hs]; simp; omega
      · rw [octets_length, bne_iff_ne]; exact fun h => hN h.symm

theorem octet_num (a b : Nat) (ha : a ≤ 15) (hb : b ≤ 15) : ((UInt8.ofNat (a * 16 + b)).toNat : Int) = (a : Int) * 16 + (b : Int) := by
  rw [UInt8.toNat_ofNat']; omega

theorem encode_fine (k ps : Nat) (Z : Nat → Nat) (g : Nat) (W : World) (ev : Value) (hg : W.cell? ⟨g, 0, none⟩ = some (.int .i64 ((k / 2 : Nat) : Int))) (hE : W.cell? ⟨6, 0, none⟩ = some ev)
    (hk : k ≤ 4096) (heven : k % 2 = 0) :
    Calls Ybaf.prog 15 #[.string (txt (signs false k ps Z) (count false k)), .pointer (some ⟨g, 0, none⟩)] W fun e w' => ∃ G c : Nat, e = .returned (.tuple #[.slice (some ⟨G, 0, none⟩) (k / 2) c, .nilIface]) ∧ W.heap.size ≤ G ∧
      (∀ i, i < k / 2 → w'.cell? ⟨G, i, none⟩ = some (.int .u8 ((nib (signs false k ps Z (2 * i)) : Int) * 16 + (nib (signs false k ps Z (2 * i + 1)) : Int)))) ∧ Below W.heap.size W w' := by
  have hs := txt_size (signs false k ps Z) (count false k)
  have hidx := idx_all (signs false k ps Z) (count false k) fun i _ => signs_hex k ps Z i
  have hc : count false k = k := rfl
  rw [hc] at hs
  refine (encode_good _ _ g W ev _ hg hE (by rw [hc, hs]; omega) hidx (by rw [hc, hs]; simp; omega) (signs_decode k ps Z heven) (by rw [octets_length]; simp)).mono ?_
  rintro e w' ⟨G, rfl, hG, hrow, hb⟩
  refine ⟨G, _, by rw [octets_length], hG, fun i hi => ?_, hb⟩
  rw [hrow.cell (by rw [hc, hs]; exact hi)]
  have h1 := v_nib _ (signs_hex k ps Z (2 * i)).2 (signs_hex k ps Z (2 * i)).1
  have h2 := v_nib _ (signs_hex k ps Z (2 * i + 1)).2 (signs_hex k ps Z (2 * i + 1)).1
  unfold Lib.Hx.rowP
  rw [if_pos (by rw [octets_length]; omega)]
  have e : (octets (signs false k ps Z) (k / 2))[i - 0]?.getD 0 = UInt8.ofNat (nib (signs false k ps Z (2 * i)) * 16 + nib (signs false k ps Z (2 * i + 1))) := by
    simp [octets, hi]
  rw [e, octet_num _ _ h1.2 h2.2]
end Go.Proofs.YbulkcdssFmt
