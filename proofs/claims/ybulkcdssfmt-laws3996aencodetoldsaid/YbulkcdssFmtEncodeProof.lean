import Derived.Test.YbulkcdssFmtRows
import Derived.Test.YbulkcdssFmtTie
import Derived.Test.YbulkcdssFmtCards
import Derived.Test.YbulkcdssFmtBase
import Derived.Test.YbulkcdssFmtEncodeWalk
import Derived.ShutString
import Derived.ChangeOld
namespace Go.Proofs.YbulkcdssFmt
open Go.ChangeShapes Go.WideShapes Go.ChangeAt Go.RowKit
open Go.Extern.Stop Go.Stop Go.Extern
set_option linter.unusedVariables false

theorem encode_any_law (F : Interp) (a0 : Option Addr) (b off n cap : Nat) (Z : Nat → Nat) (N : Int) (mt jk : Bool) (ps : Nat) (w : World) (ev : Value) (hF : F.answers w.tape) (hE : w.cell? ⟨6, 0, none⟩ = some ev)
    (hps : ps ≤ 255) (h : IsBytes w a0 n b off Z) :
    Calls Ybaf.prog 4 #[.slice a0 n cap, .int .i64 N, .bool mt, .bool jk, .int .u8 ps] w fun e w' => e = .returned (.bool true) ∧ Below w.heap.size w w' := by
  by_cases hn : n ≤ 4096
  · exact encode_law F a0 b off n cap Z N mt jk ps w ev hF hE hn hps h.addr h.le h.lt h.cell
  · exact encode_great a0 n cap N mt jk ps w (by omega) (by have := h.max; unfold maxLen at this; omega)

/-- The listed variable's cell is there. -/
theorem laid_cell {W : World} (h : laidMetH Ybaf.prog Rows.lawS3996AEncodeRow.laid W) : ∃ ev, W.cell? ⟨6, 0, none⟩ = some ev := by
  have h' : laidMet Ybaf.prog Rows.lawS3996AEncodeRow.laid W := h
  obtain ⟨ps, ⟨g0, t0, cs0, f0, p0, q0, hg0, ht0, hv0, hd0, _, e0⟩, _, _⟩ := h'
  have hg : Ybaf.prog.globalNamed _ = some 6 := (by kernel_rfl : Ybaf.prog.globalNamed (Rows.lawS3996AEncodeRow.laid.map (·.1)).head! = some 6)
  obtain rfl := Option.some.inj (hg0.symm.trans hg)
  have ht : (Ybaf.prog.globals[6]?).map (·.type) = some 32 := by kernel_rfl
  obtain rfl := Option.some.inj (ht0.symm.trans ht)
  obtain ⟨l0⟩ := cs0
  cases l0 with
  | nil => cases f0 <;> simp [DataW.trod, Ybaf.underlying32] at hd0
  | cons c r => exact ⟨c, by simpa using World.var?_cell hg0 hv0 0⟩

set_option maxRecDepth 100000 in
set_option maxHeartbeats 1600000 in
theorem encode_lifted (os : Os) (started : os.Started) (H : Type) (enc : TypeId × Value → H) :
    ReturnsInTold none {} Ybaf.checked os 4 .any Input.okWide ((OpenSpec.ofChange Rows.lawS3996AEncodeSpec).preRow enc Ybaf.prog Ybaf.f4 [] false Rows.lawS3996AEncodeRow.laid)
      (fun F => ((OpenSpec.ofChange Rows.lawS3996AEncodeSpec).at F).post enc Ybaf.prog Ybaf.f4 false true false false) (aloneAtReturn Ybaf.prog) nothingAlways := by
  refine returnsInTold_of_row (C := Ybaf.checked) (s := OpenSpec.ofChange Rows.lawS3996AEncodeSpec) (by kernel_rfl) own started (by kernel_rfl) Ybaf.func4
    (OpenSpec.witness_stopped_at (enc := enc) (C := Ybaf.checked) false (errWorld Ybaf.prog os errText) #[.slice none 0 0, .int .i64 0, .bool false, .bool false, .int .u8 0] rfl (by kernel_rfl) (by kernel_rfl) (by kernel_rfl)
      (OpenSpec.preRow_of_B rfl 8 (by kernel_rfl) (by kernel_rfl) (laid_met os _))) ?_
  intro F W base args ds gs before _ hF hval0 hW _ _ _ hL _
  have hval : ∀ (j : Nat) t v, Ybaf.f4.params[j]? = some t → args[j]? = some v → Value.okWide Ybaf.prog W .any base t v := hval0
  have hW' := hW
  obtain ⟨p, q, hA0, hV, rfl, hfz, hnd⟩ := hW
  have hA : DataW.TrodAll enc Ybaf.prog W 0 (fun _ => true) true Ybaf.f4.params.toList args.toList ds p := hA0
  rw [Ybaf.params4] at hA hval
  obtain ⟨v0, vs0, d0, ds0, p0, q0, hargs, rfl, rfl, h0, r0⟩ := trodAll_cons hA
  obtain ⟨v1, vs1, d1, ds1, p1, q1, rfl, rfl, rfl, h1, r1⟩ := trodAll_cons r0
  obtain ⟨v2, vs2, d2, ds2, p2, q2, rfl, rfl, rfl, h2, r2⟩ := trodAll_cons r1
  obtain ⟨v3, vs3, d3, ds3, p3, q3, rfl, rfl, rfl, h3, r3⟩ := trodAll_cons r2
  obtain ⟨v4, vs4, d4, ds4, p4, q4, rfl, rfl, rfl, h4, r4⟩ := trodAll_cons r3
  obtain ⟨rfl, rfl, rfl⟩ := trodAll_nil r4
  obtain rfl : args = #[v0, v1, v2, v3, v4] := by cases args; simp_all
  obtain ⟨rfl, rfl⟩ := trodVars_none hV
  obtain ⟨a0, len0, cap0, rfl⟩ := okWide_slice Ybaf.underlying22 (hval 0 22 v0 rfl rfl)
  have k0 := h0
  have lt0 : ∀ x ∈ p0, x.block < W.heap.size := by obtain ⟨m, hm⟩ := k0; exact DataW.trod_lt m _ _ _ hm
  obtain ⟨b, off, Z, w0⟩ : ∃ b off Z, IsBytes W a0 len0 b off Z := by
    obtain ⟨fuel, hf⟩ := h0
    exact isBytes_open (by simpa [Value.cells] using hf)
  obtain ⟨N, rfl, rfl, rfl, wN⟩ := open_int Ybaf.underlying3 (hval 1 3 v1 rfl rfl) h1
  obtain ⟨mt, rfl, rfl, rfl⟩ := open_bool Ybaf.underlying4 (hval 2 4 v2 rfl rfl) h2
  obtain ⟨jk, rfl, rfl, rfl⟩ := open_bool Ybaf.underlying4 (hval 3 4 v3 rfl rfl) h3
  obtain ⟨ps, rfl, rfl, rfl, wps⟩ := open_int Ybaf.underlying5 (hval 4 5 v4 rfl rfl) h4
  have bps := bounds_u8 wps
  obtain ⟨n4, rfl⟩ := Int.eq_ofNat_of_zero_le bps.1
  obtain ⟨ev, hE⟩ := laid_cell hL
  clear hA0 hval0
  refine (encode_any_law F.told a0 b off len0 cap0 Z N mt jk n4 W ev hF hE (by omega) w0).mono fun e W' ⟨he, bel⟩ => ?_
  subst he
  exact ⟨_, rfl, _, _, _, [], _, [], hW', trodAll_mk1 (shut_bool Ybaf.underlying4 _), (trodAll_cons_mk (Below.trod laidOut (by kernel_rfl) (of_decide_eq_true (by kernel_rfl)) k0 bel lt0) (trodAll_cons_mk (shut_int Ybaf.underlying3 wN) (trodAll_cons_mk (shut_bool Ybaf.underlying4 _) (trodAll_cons_mk (shut_bool Ybaf.underlying4 _) (trodAll_cons_mk (shut_int Ybaf.underlying5 wps) trodAll_mk0))))), rfl, bel.frame _, fun h => by cases h⟩

theorem encode_proved : Rows.LawS3996AEncodeToldSaid :=
  Claim7.holds_of_told_tied_any_at .later 4 Ybaf.f4 _ _ [] _ _ _ _ _ (by kernel_rfl) rfl rfl rfl laidOutP (by kernel_rfl) rfl ⟨rfl, rfl, rfl, rfl, rfl, rfl, rfl⟩ rfl rfl (by kernel_rfl) (by kernel_rfl) Ybaf.func4 (by kernel_rfl)
    (of_decide_eq_true (by kernel_rfl)) (of_decide_eq_true (by kernel_rfl)) (by kernel_rfl) rfl stopKnobsAre.symm (by kernel_rfl)
    (by kernel_rfl) (by kernel_rfl) (by kernel_rfl) (by kernel_rfl) (by kernel_rfl) (by kernel_rfl) (by kernel_rfl) (by kernel_rfl) (by kernel_rfl) rfl (by kernel_rfl) rfl rfl
    rfl rfl
    rfl (by kernel_rfl) (by kernel_rfl) (by kernel_rfl) (by decide) (by kernel_rfl) lawS3996AEncode_row_tie
    (OpenClaim.moreEntering_of (by kernel_rfl) (by kernel_rfl) (by kernel_rfl) (by kernel_rfl) (by kernel_rfl) (by kernel_rfl) (by kernel_rfl) (by kernel_rfl) (by kernel_rfl) (by kernel_rfl))
    ⟨_, WideRow.started_initial, quietAt _⟩
    (fun os started _ H enc _ => encode_lifted os started H enc)
end Go.Proofs.YbulkcdssFmt
