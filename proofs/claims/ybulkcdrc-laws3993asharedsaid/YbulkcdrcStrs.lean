import Derived.Test.YbulkcdrcRows
import Derived.WalkKit
import Derived.ProofKit
import Derived.SizedLaws
import Derived.SliceStrings
namespace Go.Proofs.Ybulkcdrc
open Go.ChangeShapes Go.WideShapes Go.ChangeAt Go.RowKit

theorem own : ownKnob Yba.prog.godebug = none := by kernel_rfl
theorem laidOut : laidOutB Yba.prog = true := by kernel_rfl

theorem mem_weightsAll {H : Type} {P : Program} {e : TypeId} {x : Nat} : ∀ {l : List (DataW H)} {d : DataW H}, d ∈ l → x ∈ d.weights P e → x ∈ DataW.weightsAll P e l
  | a :: l, d, hd, hx => by
    simp only [DataW.weightsAll, List.mem_append]
    rcases List.mem_cons.1 hd with rfl | h
    · exact Or.inl hx
    · exact Or.inr (mem_weightsAll h hx)

/-- The reach, of each string in a slice that came in. -/
theorem sized_strs {H : Type} {P : Program} {ts : List TypeId} {ds : List (DataW H)} (h : (DataW.weightsEach P ts ds).all (· ≤ reachBytes) = true) {j : Nat} {t e : TypeId} {l : List ByteArray} {spare : List (DataW H)}
    (ht : ts[j]? = some t) (hd : ds[j]? = some (.slice (strs l) spare)) (hu : P.underlying t = some (.slice e)) {s : ByteArray} (hs : s ∈ l) : s.size ≤ reachBytes := by
  have hm : s.size ∈ DataW.weightsEach P ts ds := by
    refine DataW.weights_mem_each ht hd _ ?_
    simp only [DataW.weights, hu, List.mem_cons, List.mem_append]
    refine Or.inr (Or.inl (mem_weightsAll (d := .lit (.string s.data.toList)) (List.mem_map.2 ⟨s, hs, rfl⟩) ?_))
    show s.size ∈ [s.data.toList.length]
    rw [List.mem_singleton, Array.length_toList]; rfl
  simpa using List.all_eq_true.1 h _ hm

theorem lt_of_cell {w : World} {b o : Nat} {v : Value} (h : w.cell? ⟨b, o, none⟩ = some v) : b < w.heap.size := by
  apply Decidable.byContradiction
  intro hn
  simp [World.cell?, Array.getElem?_eq_none (Nat.le_of_not_lt hn)] at h

/-- WHAT THE WALK IS TOLD OF A SLICE OF STRINGS THAT CAME IN: its strings, and where they lie. -/
structure IsStrs (w : World) (a0 : Option Addr) (n b off : Nat) (S : Nat → ByteArray) : Prop where
  addr : Hid (0 < n → a0 = some ⟨b, off, none⟩)
  lt : 0 < n → b < w.heap.size
  max : n ≤ maxLen
  cell : ∀ i, i < n → w.cell? ⟨b, off + i, none⟩ = some (.string (S i))
  size : ∀ i, i < n → (S i).size ≤ 140737488351232

theorem isStrs_open {H : Type} {enc : TypeId × Value → H} {w : World} {a0 : Option Addr} {len cap fuel : Nat} {x : DataW H × List MemPlace} {ts : List TypeId} {ds : List (DataW H)} {j : Nat}
    (h : DataW.trod enc Yba.prog w 0 (fun _ => true) true fuel 22 [.slice a0 len cap] = some x)
    (hsz : (DataW.weightsEach Yba.prog ts ds).all (· ≤ reachBytes) = true) (ht : ts[j]? = some 22) (hd : ds[j]? = some x.1) : ∃ b off S, IsStrs w a0 len b off S := by
  rcases open_strings Yba.underlying22 Yba.underlying9 (by kernel_rfl) h with ⟨hcs, _⟩ | ⟨a, l, c, ss, hcs, _, hl, hm, hz, hx, hcell, _⟩
  · simp at hcs
    obtain ⟨rfl, rfl, rfl⟩ := hcs
    exact ⟨0, 0, fun _ => ByteArray.empty, fun h => by omega, fun h => by omega, Nat.zero_le _, fun i hi => by omega, fun i hi => by omega⟩
  · simp at hcs
    obtain ⟨rfl, rfl, rfl⟩ := hcs
    simp at hz
    subst hx
    obtain ⟨b, off, spot⟩ := a
    refine ⟨b, off, fun i => ss.getD i ByteArray.empty, fun h => ?_, fun h => ?_, by omega, fun i hi => ?_, fun i hi => ?_⟩
    · have hc := hcell 0 (by omega)
      have hspot : spot = none := by simpa [Addr.add] using World.cell?_spot hc
      rw [hspot]
    · have hc := hcell 0 (by omega)
      have hspot : spot = none := by simpa [Addr.add] using World.cell?_spot hc
      subst hspot
      exact lt_of_cell (o := off) (by simpa [Addr.add] using hc)
    · have hc := hcell i (by omega)
      have hspot : spot = none := by simpa [Addr.add] using World.cell?_spot (hcell 0 (by omega))
      subst hspot
      have e : (⟨b, off, none⟩ : Addr).add i = ⟨b, off + i, none⟩ := by simp [Addr.add]
      rw [← e]; exact hc
    · have := sized_strs hsz ht hd Yba.underlying22 (s := ss.getD i ByteArray.empty) (by
        have hi' : i < (ss.take len).length := by simp; omega
        have e : ss.getD i ByteArray.empty = (ss.take len)[i] := by simp [List.getElem_take, List.getElem?_eq_getElem (show i < ss.length by omega)]
        rw [e]; exact List.getElem_mem hi')
      simpa [reachBytes] using this
end Go.Proofs.Ybulkcdrc
