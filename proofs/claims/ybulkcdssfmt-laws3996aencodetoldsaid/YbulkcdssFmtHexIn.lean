import Derived.Test.YbulkcdssFmtShelf
import Derived.Test.YbulkcdssFmtErrorf
import Derived.Laws.IdiomStrings
namespace Go.Proofs.YbulkcdssFmt
open Go.RowKit Go.Extern.Stop Go.Stop Go.Extern
set_option linter.unusedVariables false

theorem runes_keep (s : ByteArray) : ∀ (bound i : Nat) (acc : Array Value), 0 < acc.size → (Conv.runesFrom s bound i acc)[0]? = acc[0]?
  | 0, _, acc, _ => by simp [Conv.runesFrom]
  | bound + 1, i, acc, h => by
    unfold Conv.runesFrom
    split
    · rw [runes_keep s bound _ _ (by simp)]
      rw [Array.getElem?_push, if_neg (by omega)]
    · rfl

theorem runes_first (s : ByteArray) (h : 0 < s.size) : ∃ r : Int, (Conv.runesFrom s s.size 0 #[])[0]? = some (.int .i32 r) := by
  obtain ⟨n, hn⟩ : ∃ n, s.size = n + 1 := ⟨s.size - 1, by omega⟩
  refine ⟨Int.ofNat (Utf8.decode s 0).1, ?_⟩
  rw [hn]
  unfold Conv.runesFrom
  rw [if_pos (by omega)]
  rw [runes_keep s n _ _ (by simp)]
  simp

/-- '[]rune(s)' of a string that is not empty: there is a first rune. -/
theorem runes_of (s : ByteArray) (w : World) (h : 0 < s.size) (hb : s.size ≤ 8192) :
    ∃ (n c : Nat) (r : Int) (w2 : World), (convert 9 76 (.string s)).run Ybaf.prog w = .ok (.slice (some ⟨w.heap.size, 0, none⟩) n c) w2 ∧ 0 < n ∧ n ≤ 8192 ∧
      w2.cell? ⟨w.heap.size, 0, none⟩ = some (.int .i32 r) ∧ Below w.heap.size w w2 := by
  obtain ⟨r, hr⟩ := runes_first s h
  have hz := size_runesFrom s s.size 0 #[]
  have hz' : (Conv.runesFrom s s.size 0 #[]).size ≤ s.size := by simpa using hz
  have h0 : 0 < (Conv.runesFrom s s.size 0 #[]).size := (Array.getElem?_eq_some_iff.1 hr).1
  refine ⟨_, _, r, _, run_runes_of_string (P := Ybaf.prog) w 9 76 21 s Ybaf.underlying9 Ybaf.underlying76 Ybaf.underlying21 (by omega), h0, by omega, ?_, ((Below.refl _ _).drew).alloc (Nat.le_refl _) _⟩
  have hh : ∀ o : Obj, (w.drew.alloc o).heap[w.heap.size]? = some o := fun o => by
    show (w.heap.push o)[w.heap.size]? = _
    simp
  unfold World.cell?
  rw [hh]
  simp only [Array.getElem?_append, h0, if_true]
  exact hr

def hexB (x : Nat) : Bool := decide (48 ≤ x ∧ x ≤ 57) || (decide (97 ≤ x ∧ x ≤ 102) || decide (65 ≤ x ∧ x ≤ 70))

set_option maxHeartbeats 400000 in
theorem isHex_any (x : Nat) (w : World) (hx : x ≤ 1114111) : Calls Ybaf.prog 25 #[.int .i32 x] w fun e w' => e = .returned (.bool (hexB x)) ∧ w' = w := by
  go_enter Ybaf.func25, Ybaf.ntmps25
  go_wp2
  all_goals
    go_ret
    exact ⟨congrArg (fun b => Ending.returned (.bool b)) (by unfold hexB; rw [Bool.eq_iff_iff]; simp; omega), rfl⟩

set_option maxHeartbeats 400000 in
theorem notHex_any (x : Nat) (w : World) (hx : x ≤ 1114111) : Calls Ybaf.prog 24 #[.int .i32 x] w fun e w' => e = .returned (.bool (!hexB x)) ∧ w' = w := by
  go_enter Ybaf.func24, Ybaf.ntmps24
  go_wp2_with fail
  refine (isHex_any x _ hx).mono ?_
  rintro e w1 ⟨rfl, rfl⟩
  go_wp2
  go_ret
  exact ⟨rfl, rfl⟩

theorem notHex_pred (w : World) : PredAtRunes Ybaf.prog 24 #[] (fun x => !hexB x) w := fun W x hx _ => by
  refine (notHex_any x W hx).mono ?_
  rintro e w' ⟨rfl, rfl⟩
  exact ⟨rfl, 0, rfl⟩

theorem index_any (s : ByteArray) (w : World) :
    Calls Ybaf.prog 23 #[.string s, .func (.func 24) #[] #[]] w fun e w' => e = .returned (.int .i64 (Lib.idxFunc (fun x => !hexB x) true s)) ∧ Below w.heap.size w w' :=
  Ybaf.strings_IndexFunc_runes 24 #[] (enters_of Ybaf.func24 (by kernel_rfl) rfl) (fun x => !hexB x) s w (notHex_pred w)

set_option maxHeartbeats 1000000 in
/-- textval.Hex at a text with a sign that is no hex digit. -/
theorem hex_sign (F : Interp) (s : ByteArray) (k : Nat) (w : World) (hF : F.answers w.tape) (hs : s.size ≤ 8192) (hk : Hid (Lib.idxFunc (fun x => !hexB x) true s = k)) (hlt : k < s.size) :
    Calls Ybaf.prog 16 #[.string s] w fun e w' => ∃ a : Addr, e = .returned (.tuple #[.slice none 0 0, .iface 85 (.pointer (some a))]) ∧ Below w.heap.size w w' := by
  go_enter Ybaf.func16, Ybaf.ntmps16
  go_wp2_with fail
  refine (index_any s _).mono ?_
  rintro e w1 ⟨rfl, hb⟩
  rw [hk.out]
  obtain ⟨n, c, r, w2, hr, h0, hn, hc, hb2⟩ := runes_of (s.extract k s.size) w1 (by simp; omega) (by simp; omega)
  have HB : Hid (Below w.heap.size w w2) := hb.trans (hb2.mono hb.size)
  clear hb hb2
  go_wp2_with fail
  refine (errorf_q F r k w2.heap.size _ (by show F.answers w2.tape; rw [HB.out.tape]; exact hF) (by simp) (by simp)).mono ?_
  rintro e w3 ⟨rfl, hb3⟩
  have HB3 : Hid (Below w.heap.size w w3) := (HB.out.alloc HB.out.size _).trans (hb3.mono (by have := HB.out.size; simp; omega))
  clear hb3 HB hr hc
  go_wp2
  go_ret2
  exact ⟨_, rfl, HB3.out⟩

set_option maxHeartbeats 1000000 in
/-- textval.Hex at an odd number of hex digits. -/
theorem hex_odd (F : Interp) (s : ByteArray) (w : World) (hF : F.answers w.tape) (hs : s.size ≤ 8192) (hk : Hid (Lib.idxFunc (fun x => !hexB x) true s = -1)) (hodd : ((s.size : Int) % 2 != 0) = true) :
    Calls Ybaf.prog 16 #[.string s] w fun e w' => ∃ a : Addr, e = .returned (.tuple #[.slice none 0 0, .iface 85 (.pointer (some a))]) ∧ Below w.heap.size w w' := by
  go_enter Ybaf.func16, Ybaf.ntmps16
  go_wp2_with fail
  refine (index_any s _).mono ?_
  rintro e w1 ⟨rfl, hb⟩
  rw [hk.out]
  have HB : Hid (Below w.heap.size w w1) := hb
  clear hb
  go_wp2_with fail
  refine (errorf_odd F s.size w1.heap.size _ (by show F.answers w1.tape; rw [HB.out.tape]; exact hF) (by simp)).mono ?_
  rintro e w3 ⟨rfl, hb3⟩
  have HB3 : Hid (Below w.heap.size w w3) := (HB.out.alloc HB.out.size _).trans (hb3.mono (by have := HB.out.size; simp; omega))
  clear hb3 HB
  go_wp2
  go_ret2
  exact ⟨_, rfl, HB3.out⟩

set_option maxHeartbeats 1000000 in
/-- textval.Hex at an even number of hex digits. -/
theorem hex_even (s : ByteArray) (w : World) (ev : Value) (bs : List UInt8) (hE : w.cell? ⟨6, 0, none⟩ = some ev) (hs : s.size ≤ 8192) (hk : Hid (Lib.idxFunc (fun x => !hexB x) true s = -1)) (hodd : ((s.size : Int) % 2 != 0) = false)
    (hD : Hid (Lib.Hx.decode s.data.toList = (bs, .ok))) :
    Calls Ybaf.prog 16 #[.string s] w fun e w' => ∃ G : Nat, e = .returned (.tuple #[.slice (some ⟨G, 0, none⟩) bs.length (s.size / 2), .nilIface]) ∧ w.heap.size ≤ G ∧
      w'.rowIs G 5 (s.size / 2) (Lib.Hx.rowP (fun _ => .int .u8 0) 0 bs) ∧ Below w.heap.size w w' := by
  have h6 : 6 < w.heap.size := by
    apply Decidable.byContradiction
    intro hn
    simp [World.cell?, Array.getElem?_eq_none (Nat.le_of_not_lt hn)] at hE
  go_enter Ybaf.func16, Ybaf.ntmps16
  go_wp2_with fail
  refine (index_any s _).mono ?_
  rintro e w1 ⟨rfl, hb⟩
  rw [hk.out]
  have HB : Hid (Below w.heap.size w w1) := hb
  clear hb
  go_wp2_with fail
  refine (Ybaf.hex_DecodeString s _ ev (by rw [HB.out.cell (p := ⟨6, 0, none⟩) h6]; exact hE) (by omega)).mono ?_
  rw [hD.out]
  rintro e w2 ⟨rfl, hrow, hb2⟩
  have HB2 : Hid (Below w.heap.size w w2) := HB.out.trans (hb2.mono HB.out.size)
  clear hb2
  have HR := (show Hid _ from hrow)
  clear hrow
  go_wp2
  go_ret2
  exact ⟨w1.heap.size, rfl, HB.out.size, HR.out, HB2.out⟩
end Go.Proofs.YbulkcdssFmt
