import Derived.Test.YbulkcdrcRows
import Derived.Test.YbulkcdrcStrs
import Derived.Test.YbulkcdrcShared
import Derived.OpenShut
import Derived.ShutString
import Derived.ChangeOld
namespace Go.Proofs.Ybulkcdrc
open Go.ChangeShapes Go.WideShapes Go.ChangeAt Go.RowKit
set_option linter.unusedVariables false

/-- WHAT THE WALK IS TOLD OF A SLICE OF BYTES THAT CAME IN. -/
structure IsBytes (w : World) (a0 : Option Addr) (n b off : Nat) (Z : Nat → Nat) : Prop where
  addr : Hid (0 < n → a0 = some ⟨b, off, none⟩)
  lt : 0 < n → b < w.heap.size
  max : n ≤ maxLen
  cell : ∀ i, i < n → w.cell? ⟨b, off + i, none⟩ = some (.int .u8 (Z i))
  le : ∀ i, i < n → Z i ≤ 255

theorem isBytes_open {H : Type} {enc : TypeId × Value → H} {w : World} {a0 : Option Addr} {len cap fuel : Nat} {x : DataW H × List MemPlace}
    (h : DataW.trod enc Yba.prog w 0 (fun _ => true) true fuel 34 [.slice a0 len cap] = some x) : ∃ b off Z, IsBytes w a0 len b off Z := by
  rcases open_ints Yba.underlying34 Yba.underlying5 (by kernel_rfl) h with ⟨hcs, _⟩ | ⟨a, l, c, zs, hcs, _, hl, hm, hz, _, hcell, hwz⟩
  · simp at hcs
    obtain ⟨rfl, rfl, rfl⟩ := hcs
    exact ⟨0, 0, fun _ => 0, fun h => by omega, fun h => by omega, Nat.zero_le _, fun i hi => by omega, fun i hi => by omega⟩
  · simp at hcs
    obtain ⟨rfl, rfl, rfl⟩ := hcs
    simp at hz
    obtain ⟨b, off, spot⟩ := a
    have hw : ∀ i, i < len → 0 ≤ zs.getD i 0 ∧ zs.getD i 0 ≤ 255 := fun i hi => by
      have hm : zs.getD i 0 ∈ zs := by
        rw [List.getD_eq_getElem?_getD, List.getElem?_eq_getElem (show i < zs.length by omega)]
        exact List.getElem_mem _
      have := hwz _ hm
      exact bounds_u8 this
    refine ⟨b, off, fun i => (zs.getD i 0).toNat, fun h => ?_, fun h => ?_, by omega, fun i hi => ?_, fun i hi => ?_⟩
    · have hc := hcell 0 (by omega)
      have hspot : spot = none := by simpa [Addr.add] using World.cell?_spot hc
      rw [hspot]
    · have hc := hcell 0 (by omega)
      have hspot : spot = none := by simpa [Addr.add] using World.cell?_spot hc
      subst hspot
      exact lt_of_cell (o := off) (by simpa [Addr.add] using hc)
    · have hc := hcell i (by omega)
      have hspot : spot = none := by simpa [Addr.add] using World.cell?_spot (hcell 0 (by omega))
      subst hspot
      have e : (⟨b, off, none⟩ : Addr).add i = ⟨b, off + i, none⟩ := by simp [Addr.add]
      rw [← e, hc]
      have := hw i hi
      show some (Value.int .u8 (zs.getD i 0)) = some (Value.int .u8 ((zs.getD i 0).toNat : Int))
      rw [Int.toNat_of_nonneg this.1]
    · have := hw i hi
      show (zs.getD i 0).toNat ≤ 255
      omega

theorem shared_walk (a0 a1 : Option Addr) (b off n cap b1 off1 m cap1 : Nat) (S : Nat → ByteArray) (Z : Nat → Nat) (w : World) (h : IsStrs w a0 n b off S) (h1 : IsBytes w a1 m b1 off1 Z) :
    Calls Yba.prog 4 #[.slice a0 n cap, .slice a1 m cap1] w fun e w' => e = .returned (.bool true) ∧ Below w.heap.size w w' := by
  by_cases hn : n ≤ 1024 ∧ m ≤ 1024
  · by_cases h0 : n = 0
    · exact shared_small a0 a1 b off n cap b1 off1 m cap1 1 S Z w hn.1 hn.2 (by omega) (by omega) (by omega) (fun h => by omega) (fun _ => rfl) h.lt h.cell h.size h.addr h1.lt h1.cell h1.le h1.addr
    · exact shared_small a0 a1 b off n cap b1 off1 m cap1 n S Z w hn.1 hn.2 (by omega) (by omega) (by omega) (fun _ => rfl) (fun h => by omega) h.lt h.cell h.size h.addr h1.lt h1.cell h1.le h1.addr
  · exact shared_great a0 a1 n cap m cap1 w (by have := h.max; unfold maxLen at this; omega) (by have := h1.max; unfold maxLen at this; omega) (by omega)

set_option maxRecDepth 100000 in
theorem shared_lifted (os : Os) (started : os.Started) (H : Type) (enc : TypeId × Value → H) :
    ReturnsInHanded {} Yba.checked os 4 .any (Rows.lawS3993ASharedSpec.pre6 enc Yba.prog Yba.f4 Rows.lawS3993ASharedRow.domain false) (Rows.lawS3993ASharedSpec.post enc Yba.prog Yba.f4 false true false false) := by
  refine returnsInHanded_of_change_sized (C := Yba.checked) own started (by kernel_rfl) Yba.func4
    (ChangeSpec.witness6 (enc := enc) (C := Yba.checked) false ⟨#[], #[.slice none 0 0, .slice none 0 0], []⟩ 8 (by kernel_rfl) (by kernel_rfl) (by kernel_rfl) (by kernel_rfl)) ?_
  intro W base args ds gs before hval0 hW hcnd hsz0 _
  have hval : ∀ (j : Nat) t v, Yba.f4.params[j]? = some t → args[j]? = some v → Value.okWide Yba.prog W .any base t v := hval0
  have hsz : (DataW.weightsEach Yba.prog (Yba.f4.params.toList ++ Rows.lawS3993ASharedSpec.plain.varTypes Yba.prog) (ds ++ gs)).all (· ≤ reachBytes) = true := hsz0
  have hW' := hW
  obtain ⟨p, q, hA0, hV, rfl, hfz, hnd⟩ := hW
  have hA : DataW.TrodAll enc Yba.prog W 0 (fun _ => true) true Yba.f4.params.toList args.toList ds p := hA0
  rw [Yba.params4] at hA hval hsz
  obtain ⟨v0, vs0, d0, ds0, p0, q0, hargs, rfl, rfl, h0, r0⟩ := trodAll_cons hA
  obtain ⟨v1, vs1, d1, ds1, p1, q1, rfl, rfl, rfl, h1, r1⟩ := trodAll_cons r0
  obtain ⟨rfl, rfl, rfl⟩ := trodAll_nil r1
  obtain rfl : args = #[v0, v1] := by cases args; simp_all
  obtain ⟨rfl, rfl⟩ := trodVars_none hV
  obtain ⟨a0, len0, cap0, rfl⟩ := okWide_slice Yba.underlying22 (hval 0 22 v0 rfl rfl)
  obtain ⟨a1, len1, cap1, rfl⟩ := okWide_slice Yba.underlying34 (hval 1 34 v1 rfl rfl)
  have k0 := h0
  have lt0 : ∀ x ∈ p0, x.block < W.heap.size := by obtain ⟨m, hm⟩ := k0; exact DataW.trod_lt m _ _ _ hm
  have k1 := h1
  have lt1 : ∀ x ∈ p1, x.block < W.heap.size := by obtain ⟨m, hm⟩ := k1; exact DataW.trod_lt m _ _ _ hm
  obtain ⟨b, off, S, w0⟩ : ∃ b off S, IsStrs W a0 len0 b off S := by
    obtain ⟨fuel, hf⟩ := h0
    exact isStrs_open (by simpa [Value.cells] using hf) hsz (j := 0) rfl rfl
  obtain ⟨b1, off1, Z, w1⟩ : ∃ b off Z, IsBytes W a1 len1 b off Z := by
    obtain ⟨fuel, hf⟩ := h1
    exact isBytes_open (by simpa [Value.cells] using hf)
  clear hA0 hval0
  refine (shared_walk a0 a1 b off len0 cap0 b1 off1 len1 cap1 S Z W w0 w1).mono fun e W' ⟨he, bel⟩ => ?_
  subst he
  exact ⟨_, rfl, _, _, _, [], _, [], hW', trodAll_mk1 (shut_bool Yba.underlying4 _), (trodAll_cons_mk (Below.trod laidOut (by kernel_rfl) (of_decide_eq_true (by kernel_rfl)) k0 bel lt0) (trodAll_cons_mk (Below.trod laidOut (by kernel_rfl) (of_decide_eq_true (by kernel_rfl)) k1 bel lt1) trodAll_mk0)), rfl, bel.frame _, fun h => by cases h⟩

theorem shared_over : Rows.lawS3993ASharedRow.holds Yba.pinned (OpenSpec.ofChange Rows.lawS3993ASharedSpec) :=
  OpenClaim.holds_of_wide 4 Yba.f4 rfl rfl rfl rfl rfl rfl rfl ⟨rfl, rfl, rfl, rfl, rfl⟩ rfl rfl rfl rfl rfl (by kernel_rfl) Yba.func4 (by kernel_rfl)
    (of_decide_eq_true (by kernel_rfl)) (by unfold Func.isWrapper; first | (rw [if_pos (by decide +kernel)]; kernel_rfl) | (rw [if_neg (by decide +kernel)]; exact ⟨rfl, rfl⟩))
    (fun os started H enc _ => shared_lifted os started H enc)

/-- THE STATEMENT. -/
theorem shared_proved : Rows.LawS3993ASharedSaid := shared_over
end Go.Proofs.Ybulkcdrc
