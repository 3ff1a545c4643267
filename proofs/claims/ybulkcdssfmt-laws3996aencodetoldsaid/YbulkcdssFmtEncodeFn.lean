import Derived.Test.YbulkcdssFmtHexIn
import Derived.Laws.EntriesVeiled
namespace Go.Proofs.YbulkcdssFmt
open Go.RowKit Go.Extern.Stop Go.Stop Go.Extern
set_option linter.unusedVariables false

/-- What a call ends in that fails: nil, and an error. -/
def Fails (w : World) (e : Ending) (w' : World) : Prop := ∃ a : Addr, e = .returned (.tuple #[.slice none 0 0, .iface 85 (.pointer (some a))]) ∧ Below w.heap.size w w'

set_option maxHeartbeats 1000000 in
theorem encode_err (s : ByteArray) (N : Int) (g : Nat) (w : World) (hc : w.cell? ⟨g, 0, none⟩ = some (.int .i64 N)) (hH : Hid (Calls Ybaf.prog 16 #[.string s] w (Fails w))) :
    Calls Ybaf.prog 15 #[.string s, .pointer (some ⟨g, 0, none⟩)] w (Fails w) := by
  go_enter Ybaf.func15, Ybaf.ntmps15
  go_wp2_with fail
  refine hH.out.mono ?_
  rintro e w1 ⟨a, rfl, hb⟩
  have HB : Hid (Below w.heap.size w w1) := hb
  clear hb
  go_wp2
  go_ret2
  exact ⟨_, rfl, HB.out⟩

set_option maxHeartbeats 1000000 in
theorem encode_want (F : Interp) (s : ByteArray) (N : Int) (g : Nat) (w : World) (ev : Value) (bs : List UInt8) (hF : F.answers w.tape) (hc : w.cell? ⟨g, 0, none⟩ = some (.int .i64 N)) (hE : w.cell? ⟨6, 0, none⟩ = some ev)
    (hs : s.size ≤ 8192) (hk : Hid (Lib.idxFunc (fun x => !hexB x) true s = -1)) (hodd : ((s.size : Int) % 2 != 0) = false) (hD : Hid (Lib.Hx.decode s.data.toList = (bs, .ok))) (hne : ((bs.length : Int) != N) = true) :
    Calls Ybaf.prog 15 #[.string s, .pointer (some ⟨g, 0, none⟩)] w (Fails w) := by
  have hg : g < w.heap.size := by
    apply Decidable.byContradiction
    intro hn
    simp [World.cell?, Array.getElem?_eq_none (Nat.le_of_not_lt hn)] at hc
  go_enter Ybaf.func15, Ybaf.ntmps15
  go_wp2_with fail
  refine (hex_even s _ ev bs hE hs hk hodd hD).mono ?_
  rintro e w1 ⟨G, rfl, hG, hrow, hb⟩
  have hc1 : w1.cell? ⟨g, 0, none⟩ = some (.int .i64 N) := by rw [hb.cell (p := ⟨g, 0, none⟩) hg]; exact hc
  have HB : Hid (Below w.heap.size w w1) := hb
  clear hb hrow
  go_wp2_with fail
  refine (errorf_want F s.size (wrap64 (2 * N)) w1.heap.size _ (by show F.answers w1.tape; rw [HB.out.tape]; exact hF) (by simp) (by simp)).mono ?_
  rintro e w3 ⟨rfl, hb3⟩
  have HB3 : Hid (Below w.heap.size w w3) := (HB.out.alloc HB.out.size _).trans (hb3.mono (by have := HB.out.size; simp; omega))
  clear hb3 HB
  go_wp2
  go_ret2
  exact ⟨_, rfl, HB3.out⟩

set_option maxHeartbeats 1000000 in
theorem encode_good (s : ByteArray) (N : Int) (g : Nat) (w : World) (ev : Value) (bs : List UInt8) (hc : w.cell? ⟨g, 0, none⟩ = some (.int .i64 N)) (hE : w.cell? ⟨6, 0, none⟩ = some ev)
    (hs : s.size ≤ 8192) (hk : Hid (Lib.idxFunc (fun x => !hexB x) true s = -1)) (hodd : ((s.size : Int) % 2 != 0) = false) (hD : Hid (Lib.Hx.decode s.data.toList = (bs, .ok))) (hne : ((bs.length : Int) != N) = false) :
    Calls Ybaf.prog 15 #[.string s, .pointer (some ⟨g, 0, none⟩)] w fun e w' => ∃ G : Nat, e = .returned (.tuple #[.slice (some ⟨G, 0, none⟩) bs.length (s.size / 2), .nilIface]) ∧ w.heap.size ≤ G ∧
      w'.rowIs G 5 (s.size / 2) (Lib.Hx.rowP (fun _ => .int .u8 0) 0 bs) ∧ Below w.heap.size w w' := by
  have hg : g < w.heap.size := by
    apply Decidable.byContradiction
    intro hn
    simp [World.cell?, Array.getElem?_eq_none (Nat.le_of_not_lt hn)] at hc
  go_enter Ybaf.func15, Ybaf.ntmps15
  go_wp2_with fail
  refine (hex_even s _ ev bs hE hs hk hodd hD).mono ?_
  rintro e w1 ⟨G, rfl, hG, hrow, hb⟩
  have hc1 : w1.cell? ⟨g, 0, none⟩ = some (.int .i64 N) := by rw [hb.cell (p := ⟨g, 0, none⟩) hg]; exact hc
  have HB : Hid (Below w.heap.size w w1) := hb
  have HR := (show Hid _ from hrow)
  clear hb hrow
  go_wp2
  go_ret2
  exact ⟨G, rfl, hG, HR.out, HB.out⟩

/-- The value of a hex digit. -/
def nib (c : Nat) : Nat := if 48 ≤ c ∧ c ≤ 57 then c - 48 else if 97 ≤ c ∧ c ≤ 102 then c - 87 else if 65 ≤ c ∧ c ≤ 70 then c - 55 else 0

set_option maxHeartbeats 400000 in
theorem nib_any (c : Nat) (w : World) (hc : c ≤ 255) : Calls Ybaf.prog 9 #[.int .u8 c] w fun e w' => e = .returned (.int .u8 (nib c)) ∧ w' = w := by
  by_cases h1 : 48 ≤ c ∧ c ≤ 57
  · have e : nib c = c - 48 := by simp [nib, h1]
    rw [e]
    obtain ⟨h1, h1'⟩ := h1
    clear e
    go_enter Ybaf.func9, Ybaf.ntmps9
    go_wp2
    go_ret
    exact ⟨congrArg (fun n => Ending.returned (.int .u8 n)) (by omega), rfl⟩
  · by_cases h2 : 97 ≤ c ∧ c ≤ 102
    · have e : nib c = c - 87 := by unfold nib; rw [if_neg h1, if_pos h2]
      rw [e]
      obtain ⟨h2, h2'⟩ := h2
      clear e h1
      go_enter Ybaf.func9, Ybaf.ntmps9
      go_wp2
      go_ret
      exact ⟨congrArg (fun n => Ending.returned (.int .u8 n)) (by omega), rfl⟩
    · by_cases h3 : 65 ≤ c ∧ c ≤ 70
      · have e : nib c = c - 55 := by unfold nib; rw [if_neg h1, if_neg h2, if_pos h3]
        rw [e]
        obtain ⟨h3, h3'⟩ := h3
        clear e h1 h2
        go_enter Ybaf.func9, Ybaf.ntmps9
        go_wp2
        go_ret
        exact ⟨congrArg (fun n => Ending.returned (.int .u8 n)) (by omega), rfl⟩
      · have e : nib c = 0 := by unfold nib; rw [if_neg h1, if_neg h2, if_neg h3]
        rw [e]
        clear e
        have HH : Hid (¬ (48 ≤ c ∧ c ≤ 57) ∧ ¬ (97 ≤ c ∧ c ≤ 102) ∧ ¬ (65 ≤ c ∧ c ≤ 70)) := ⟨h1, h2, h3⟩
        clear h1 h2 h3
        go_enter Ybaf.func9, Ybaf.ntmps9
        go_wp2
        all_goals first | (exfalso; have := HH.out; omega) | (go_ret; exact ⟨rfl, rfl⟩)
end Go.Proofs.YbulkcdssFmt
