import Derived.Test.YbulkcdssFmtEncodeEnds
import Derived.Test.YbulkcdssFmtField
import Derived.Deep.DeepCutAuto
import Derived.Deep.RegionHeld3
import Derived.Laws.CopyOwn
import Derived.BigQuiet
import Derived.Deep.QuietTactic
namespace Go.Proofs.YbulkcdssFmt
open Go.RowKit Go.Extern.Stop Go.Stop Go.Extern
set_option linter.unusedVariables false

/-- What the first k digits have laid. -/
def digTo (Z : Nat → Nat) (k : Nat) (j : Nat) : Value := if j < k then .int .u8 (dig (Z j)) else .int .u8 0

theorem tab22_at (d : Nat) (h : d % 22 < (⟨#[48, 49, 50, 51, 52, 53, 54, 55, 56, 57, 97, 98, 99, 100, 101, 102, 65, 66, 67, 68, 69, 70]⟩ : ByteArray).size) :
    (((⟨#[48, 49, 50, 51, 52, 53, 54, 55, 56, 57, 97, 98, 99, 100, 101, 102, 65, 66, 67, 68, 69, 70]⟩ : ByteArray)[d % 22]'h).toNat : Int) = (dig d : Int) := by
  have key : ∀ x : Fin 22, (((⟨#[48, 49, 50, 51, 52, 53, 54, 55, 56, 57, 97, 98, 99, 100, 101, 102, 65, 66, 67, 68, 69, 70]⟩ : ByteArray)[x.val]'x.isLt).toNat : Int) = (dig x.val : Int) := by decide +kernel
  have e : dig d = dig (d % 22) := by unfold dig; rw [Nat.mod_mod]
  rw [e]
  exact key ⟨d % 22, h⟩

theorem dig_step {Z : Nat → Nat} {k m B : Nat} {wr : World} (h : wr.rowIs B 5 m (digTo Z k)) {x : Int} (hx : x = (dig (Z k) : Int)) : (wr.setCell ⟨B, k, none⟩ (.int .u8 x)).rowIs B 5 m (digTo Z (k + 1)) :=
  (h.set k _).congr fun j _ => by
    unfold digTo
    by_cases e : j = k
    · subst e; rw [if_pos rfl, if_pos (by omega), hx]
    · rw [if_neg e]
      by_cases e2 : j < k
      · rw [if_pos e2, if_pos (by omega)]
      · rw [if_neg e2, if_neg (by omega)]

theorem or_small : ∀ a b : Fin 16, (a.val * 16 ||| b.val) = a.val * 16 + b.val := by decide +kernel

/-- 'a<<4 | b' of two digits' values. -/
theorem or_digits (a b : Nat) (ha : a ≤ 15) (hb : b ≤ 15) : bits .or .u8 ((a : Int) * 16) (b : Int) = (a : Int) * 16 + (b : Int) := by
  have e := u8_or_nat (a * 16) b (by omega) (by omega)
  rw [or_small ⟨a, by omega⟩ ⟨b, by omega⟩] at e
  rw [show ((a : Int) * 16) = ((a * 16 : Nat) : Int) by omega, e]
  simp

theorem size5 : (Ybaf.prog.info? 5).map (·.size) = some 1 := by kernel_rfl

/-- The row with the digits from p on moved up by one. -/
def shifted (Z : Nat → Nat) (p j : Nat) : Value := if j ≤ p then .int .u8 (dig (Z j)) else .int .u8 (dig (Z (j - 1)))

/-- 'copy(s[p+1:], s[p:])', p before the end. -/
theorem junk_copy {Z : Nat → Nat} {p k B : Nat} {W : World} (hp : p < k) (h : W.rowIs B 5 (k + 1) (digTo Z k)) :
    ∃ w2, (Builtin.copy_ #[22, 22] 3 #[.slice (some ⟨B, p + 1, none⟩) (k - p) (k - p), .slice (some ⟨B, p, none⟩) (k + 1 - p) (k + 1 - p)]).run Ybaf.prog W.drew = .ok (goInt ((k - p : Nat) : Int)) w2 ∧
      w2.rowIs B 5 (k + 1) (shifted Z p) ∧ Only B W w2 := by
  have hcell := fun i (hi : i < k + 1) => h.cell hi
  obtain ⟨c, hb, hcs, hc⟩ := h
  obtain ⟨cs, hcs'⟩ : ∃ cs : List Value, cs = (List.range (k - p)).map fun i => .int .u8 (dig (Z (p + i))) := ⟨_, rfl⟩
  have hl : cs.length = k - p := by simp [hcs']
  have hrun := run_copy_row (P := Ybaf.prog) W.drew 22 22 3 5 B (p + 1) (k - p) (k - p) ⟨B, p, none⟩ (k + 1 - p) (k + 1 - p) c 5 cs Ybaf.underlying22 size5 hb (by rw [hl]; show k - p = min _ _; omega)
    (fun j v hj => by
      have hjn : j < k - p := by have := (List.getElem?_eq_some_iff.1 hj).1; omega
      have e : (⟨B, p, none⟩ : Addr).add j = ⟨B, p + j, none⟩ := by simp [Addr.add]
      rw [e]
      show W.cell? ⟨B, p + j, none⟩ = some v
      rw [hcell (p + j) (by omega)]
      simp [hcs', hjn] at hj
      rw [← hj]
      simp [digTo, show p + j < k by omega])
    (by rw [hl, hcs]; omega)
    (fun v hv => by
      simp [hcs'] at hv
      obtain ⟨a, _, rfl⟩ := hv
      rfl)
  rw [hl] at hrun
  refine ⟨_, hrun, ⟨_, setRow_heap _ _ _ _ 5 _ hb, ?_, fun i hi => ?_⟩, ?_⟩
  · simp [hl, hcs]; omega
  · rw [List.getElem?_toArray, List.append_assoc, List.getElem?_append]
    by_cases h1 : i < p + 1
    · rw [if_pos (by simp [hcs]; omega), List.getElem?_take, if_pos h1, Array.getElem?_toList, hc i hi]
      unfold shifted digTo
      rw [if_pos (by omega), if_pos (by omega)]
    · rw [if_neg (by simp [hcs]; omega), List.getElem?_append, if_pos (by simp [hl, hcs]; omega)]
      have e : i - (c.toList.take (p + 1)).length = i - (p + 1) := by simp [hcs]; omega
      rw [e, hcs', List.getElem?_map, List.getElem?_range (by omega)]
      unfold shifted
      rw [if_neg (by omega)]
      simp only [Option.map_some, show p + (i - (p + 1)) = i - 1 by omega]
  · exact ⟨rfl, rfl, rfl, by simp [World.setRow], fun k hk => setRow_other _ _ _ _ hk⟩

theorem junk_row {Z : Nat → Nat} {p k B : Nat} {W : World} (hp : p ≤ k) (h : W.rowIs B 5 (k + 1) (shifted Z p)) : (W.setCell ⟨B, p, none⟩ (.int .u8 103)).rowIs B 5 (k + 1) (fun j => .int .u8 (junkC p Z j)) :=
  (h.set p _).congr fun j _ => by
    unfold junkC shifted
    by_cases e : j = p
    · subst e; rw [if_pos rfl, if_neg (by omega), if_pos rfl]; rfl
    · rw [if_neg e]
      by_cases e2 : j < p
      · rw [if_pos (by omega), if_pos e2]
      · rw [if_neg (by omega), if_neg e2, if_neg e]

theorem junk_none {Z : Nat → Nat} {k B : Nat} {W : World} (h : W.rowIs B 5 (k + 1) (digTo Z k)) : (W.setCell ⟨B, k, none⟩ (.int .u8 103)).rowIs B 5 (k + 1) (fun j => .int .u8 (junkC k Z j)) :=
  (h.set k _).congr fun j hj => by
    unfold junkC digTo
    by_cases e : j = k
    · subst e; rw [if_pos rfl, if_neg (by omega), if_pos rfl]; rfl
    · rw [if_neg e, if_pos (by omega), if_pos (by omega)]

set_option maxRecDepth 100000 in
set_option maxHeartbeats 2000000 in
theorem encode_law (F : Interp) (a0 : Option Addr) (b off n cap : Nat) (Z : Nat → Nat) (N : Int) (mt jk : Bool) (ps : Nat) (w : World) (ev : Value) (hF : F.answers w.tape) (hE : w.cell? ⟨6, 0, none⟩ = some ev)
    (hn : n ≤ 4096) (hps : ps ≤ 255) (ha : Hid (0 < n → a0 = some ⟨b, off, none⟩)) (hZ : ∀ i, i < n → Z i ≤ 255)
    (hb : 0 < n → b < w.heap.size) (hcell : ∀ i, i < n → w.cell? ⟨b, off + i, none⟩ = some (.int .u8 (Z i))) :
    Calls Ybaf.prog 4 #[.slice a0 n cap, .int .i64 N, .bool mt, .bool jk, .int .u8 ps] w fun e w' => e = .returned (.bool true) ∧ Below w.heap.size w w' := by
  have hd : decide ((4096 : Int) < (n : Int)) = false := by simp; omega
  have hmk : ∀ w : World, (Instr.makeSlice 22 (.int .i64 0) (.int .i64 ((n : Int) + 1))).run Ybaf.prog w = .ok (.slice (some ⟨w.heap.size, 0, none⟩) 0 (n + 1)) (w.alloc (.cells (madeCells #[.int .u8 0] (n + 1)) 5)) := fun w => by
    obtain ⟨i, hi, hz0, hz1, hz2⟩ := info_parts info5
    have h := run_make (P := Ybaf.prog) w 22 5 i (.int .u8 0) Ybaf.underlying22 hi hz0 .i64 .i64 0 ((n : Int) + 1) (by omega) (by omega) (by rw [hz2]; omega) (by omega)
    rw [hz1] at h
    have e : ((n : Int) + 1).toNat = n + 1 := by omega
    simpa [e, Value.cells] using h
  go_enter Ybaf.func4, Ybaf.ntmps4
  go_wp2
  go_loopw [11, 29] (fun o i wr => ∃ k : Nat, k ≤ n ∧ i = .int .i64 k ∧ o = .slice (some ⟨w.heap.size, 0, none⟩) k (n + 1) ∧ wr.rowIs w.heap.size 5 (n + 1) (digTo Z k) ∧ Below w.heap.size w wr) (fun _ i _ => n - (intOf i).toNat)
  case atStart => exact ⟨0, Nat.zero_le _, rfl, rfl, (World.rowIs_made w _ _ _).congr fun j _ => by simp [digTo], (Below.refl _ w).alloc (Nat.le_refl _) _⟩
  case round =>
    obtain ⟨k, hk, rfl, rfl, hrw, hbel⟩ := hrel
    by_cases hlt : k < n
    · have hz := hZ k hlt
      have hc1 : wr.cell? ⟨b, off + k, none⟩ = some (.int .u8 (Z k)) := by rw [hbel.cell (hb (by omega))]; exact hcell k hlt
      have hc2 := fun o => (hrw.alloc o).cell (i := k) (by omega)
      have hf2 := fun o => (hrw.alloc o).frozen k
      obtain rfl := ha.out (by omega)
      clear hZ hcell hmk ha
      go_wp2
      go_roundw
      case rel => exact ⟨k + 1, by omega, by go_num, rfl, dig_step (hrw.alloc _) (tab22_at _ _), (hbel.alloc hbel.size _).setCell (Nat.le_refl _) _⟩
      case measure => simp [intOf]; omega
    · have e : k = n := by omega
      subst e
      clear hmk
      go_upto_if 41 with (fail)
      go_cut [11] from 41 to 61 (fun s w' => s = .slice (some ⟨w.heap.size, 0, none⟩) (count jk k) (k + 1) ∧ Below w.heap.size w w' ∧ ∀ j, j < count jk k → w'.cell? ⟨w.heap.size, j, none⟩ = some (.int .u8 (signs jk k ps Z j)))
      case first =>
        cases jk
        · go_wp2
          go_meet
          case rel =>
            refine ⟨rfl, hbel, fun j hj => ?_⟩
            have hj' : j < k := hj
            rw [hrw.cell (by omega)]
            simp [digTo, hj', signs]
        · have hc2 := fun o => (hrw.alloc o).cell (i := k) (by omega)
          have hf2 := fun o => (hrw.alloc o).frozen k
          go_upto_region 12 with (fail)
          have hrW : ((wr.alloc (.cells #[.int .u8 0] 5)).setCell ⟨w.heap.size, k, none⟩ (.int .u8 0)).rowIs w.heap.size 5 (k + 1) (digTo Z k) := ((hrw.alloc _).set k _).congr fun j _ => by
            by_cases e : j = k
            · subst e; rw [if_pos rfl]; simp [digTo]
            · rw [if_neg e]
          have hbW : Below w.heap.size w ((wr.alloc (.cells #[.int .u8 0] 5)).setCell ⟨w.heap.size, k, none⟩ (.int .u8 0)) := (hbel.alloc hbel.size _).setCell (Nat.le_refl _) _
          generalize (wr.alloc (.cells #[.int .u8 0] 5)).setCell ⟨w.heap.size, k, none⟩ (.int .u8 0) = W at hrW hbW ⊢
          obtain ⟨p, hp⟩ : ∃ p, p = ps % (k + 1) := ⟨_, rfl⟩
          have hpk : p ≤ k := by have := Nat.mod_lt ps (show 0 < k + 1 by omega); omega
          have ep : ((ps : Int) % ((k : Int) + 1)) = (p : Int) := by rw [hp]; simp
          rw [ep]
          have HP : Hid (p = ps % (k + 1)) := hp
          clear hp ep hc2 hf2 hrw hbel hcell hZ
          by_cases hlt2 : p < k
          · have j1 : (0 : Int) ≤ (p : Int) ∧ (p : Int) < (k : Int) := by omega
            obtain ⟨w2, hcopy, hr2, ho2⟩ := junk_copy hlt2 hrW
            have c3 := hr2.cell (i := p) (by omega)
            have f3 := hr2.frozen p
            go_region
            go_wp2
            go_meet
            case rel =>
              refine ⟨rfl, (hbW.trans ho2.below).setCell (Nat.le_refl _) _, fun j hj => ?_⟩
              have hj' : j < k + 1 := hj
              rw [(junk_row (by omega) hr2).cell hj', HP.out]
              rfl
          · have e : p = k := by omega
            subst e
            have c3 := hrW.cell (i := p) (by omega)
            have f3 := hrW.frozen p
            have hcn := fun (w : World) (dp sp : Option Addr) (dc sl sc : Nat) => run_copy_none (P := Ybaf.prog) w 22 22 3 5 dp sp 0 dc sl sc Ybaf.underlying22 size5 (by simp)
            go_region
            go_wp2
            go_meet
            case rel =>
              refine ⟨rfl, (hbW.setCell (Nat.le_refl _) _).drew, fun j hj => ?_⟩
              have hj' : j < p + 1 := hj
              have h2 := (junk_none hrW).drew.cell hj'
              rw [h2]
              have e2 : ps % (p + 1) = p := HP.out.symm
              show _ = some (Value.int .u8 ((junkC (ps % (p + 1)) Z j : Nat) : Int))
              rw [e2]
      case rest =>
        obtain ⟨rfl, hbc, hcc⟩ := hcut
        obtain ⟨N2, hN2⟩ : ∃ N2 : Int, N2 = (if mt then ((k : Int) / 2) else N) := ⟨_, rfl⟩
        have HN : Hid (N2 = (if mt then ((k : Int) / 2) else N)) := hN2
        have HW : Hid (∀ j, j < count jk k → wc.cell? ⟨w.heap.size, j, none⟩ = some (.int .u8 (signs jk k ps Z j))) := hcc
        have hBlt : 0 < count jk k → w.heap.size < wc.heap.size := fun h => World.block_lt_of_cell? wc _ (hcc 0 h)
        clear hN2 hcc hrw hbel hcell hZ hb ha
        go_upto_if 62 with (fail)
        go_cut [1] from 62 to 65 (fun s w' => s = .int .i64 N2 ∧ w' = wc)
        case first =>
          cases mt
          · go_wp2
            go_meet
            case rel => exact ⟨by rw [HN.out]; rfl, rfl⟩
          · go_wp2
            go_meet
            case rel => exact ⟨by rw [HN.out]; rfl, rfl⟩
        case rest =>
          obtain ⟨rfl, rfl⟩ := hcut
          go_wp2_with fail
          refine (hexOctets_any ⟨#[120]⟩ N2 _).mono ?_
          rintro e w1 ⟨rfl, hc1, hb1, hl1⟩
          have h6 : 6 < w.heap.size := World.block_lt_of_cell? w ⟨6, 0, none⟩ hE
          have HBW : Hid (∀ o, Below w.heap.size w (w1.alloc o)) := fun o => (hbc.trans (hb1.mono hbc.size)).alloc (by have := hbc.size; have := hb1.size; omega) o
          have HCW : Hid (∀ o, ∀ j, j < count jk k → (w1.alloc o).cell? ⟨w.heap.size, j, none⟩ = some (.int .u8 (signs jk k ps Z j))) := fun o j hj => by
            have hlt := hBlt (by omega)
            rw [((Below.refl _ w1).alloc (Nat.le_refl _) o).cell (p := ⟨w.heap.size, j, none⟩) (by show w.heap.size < w1.heap.size; omega), hb1.cell (p := ⟨w.heap.size, j, none⟩) hlt]
            exact HW.out j hj
          have HGW : Hid (∀ o, (w1.alloc o).cell? ⟨wc.heap.size, 0, none⟩ = some (.int .i64 N2)) := fun o => by
            rw [((Below.refl _ w1).alloc (Nat.le_refl _) o).cell (p := ⟨wc.heap.size, 0, none⟩) hl1]; exact hc1
          have gt : ∀ o, (convert 22 9 (.slice (some ⟨w.heap.size, 0, none⟩) (count jk k) (k + 1))).run Ybaf.prog (w1.alloc o) = .ok (.string (txt (signs jk k ps Z) (count jk k))) (w1.alloc o) := fun o =>
            run_convert_bytes_arg (P := Ybaf.prog) (w1.alloc o) 22 5 Ybaf.underlying22 Ybaf.underlying5 w.heap.size 0 (count jk k) (k + 1) ((List.range (count jk k)).map fun i => (signs jk k ps Z i : Int)) (by simp) (fun i hi => by
              rw [Nat.zero_add, HCW.out o i hi]; simp [hi]) 9 Ybaf.underlying9
          have q24 := fun (w : World) => run_eql_func_nil (P := Ybaf.prog) w Ybaf.underlying24
          have HT : Hid (∀ o, F.answers (w1.alloc o).tape) := fun o => by show F.answers w1.tape; rw [hb1.tape, hbc.tape]; exact hF
          have HEW : Hid (∀ o, (w1.alloc o).cell? ⟨6, 0, none⟩ = some ev) := fun o => by rw [(HBW.out o).cell (p := ⟨6, 0, none⟩) h6]; exact hE
          clear hc1 hb1 HW hbc
          have nilq := fun (w : World) (a : Option Addr) (n c : Nat) => Lib.run_eql_slice_nil (P := Ybaf.prog) w 22 5 a n c 0 0 Ybaf.underlying22
          go_wp2_with fail
          by_cases good : jk = false ∧ k % 2 = 0 ∧ N2 = ((k / 2 : Nat) : Int)
          · obtain ⟨rfl, heven, rfl⟩ := good
            refine (encode_fine k ps Z wc.heap.size _ ev (HGW.out _) (HEW.out _) hn heven).mono ?_
            rintro e w2 ⟨G, c, rfl, hG, hgc, hb2⟩
            have HB2 : Hid (Below w.heap.size w w2) := (HBW.out _).trans (hb2.mono (HBW.out _).size)
            have hc2 : ∀ j, j < k → w2.cell? ⟨w.heap.size, j, none⟩ = some (.int .u8 (signs false k ps Z j)) := fun j hj => by
              have hlt := hBlt (by show 0 < k; omega)
              rw [hb2.cell (p := ⟨w.heap.size, j, none⟩) (by show w.heap.size < (w1.alloc _).heap.size; simp; omega)]
              exact HCW.out _ j hj
            have t1 : ((k : Int) % 2 != 0) = false := by simp; omega
            have t2 : ((k : Int) / 2 != ((k / 2 : Nat) : Int)) = false := by simp
            obtain ⟨h, hh⟩ : ∃ h, h = k / 2 := ⟨_, rfl⟩
            rw [← hh] at hgc t2 ⊢
            rw [show count false k = k from rfl]
            have hk2 : 2 * h ≤ k := by omega
            have HGC : Hid (∀ i, i < h → w2.cell? ⟨G, i, none⟩ = some (.int .u8 ((nib (signs false k ps Z (2 * i)) : Int) * 16 + (nib (signs false k ps Z (2 * i + 1)) : Int)))) := hgc
            have HC2 : Hid (∀ j, j < k → w2.cell? ⟨w.heap.size, j, none⟩ = some (.int .u8 (signs false k ps Z j))) := hc2
            clear hb2 hgc hc2 hh gt q24 heven HGW HEW HT HCW HBW hBlt
            go_wp2
            go_loopw [18] (fun i wr => ∃ t q : Nat, t ≤ h ∧ i = .int .i64 t ∧ wr = w2.drewN q) (fun i _ => h - (intOf i).toNat)
            case atStart => exact ⟨0, 0, Nat.zero_le _, rfl, rfl⟩
            case round =>
              obtain ⟨t, q, ht, rfl, rfl⟩ := hrel
              by_cases hth : t < h
              · have c1 := HC2.out (2 * t) (by omega)
                have c2 := HC2.out (2 * t + 1) (by omega)
                have c3 := HGC.out t hth
                have b1 : signs false k ps Z (2 * t) ≤ 255 := by have := signs_lt false k ps Z (2 * t); omega
                have b2 : signs false k ps Z (2 * t + 1) ≤ 255 := by have := signs_lt false k ps Z (2 * t + 1); omega
                have n1 : nib (signs false k ps Z (2 * t)) ≤ 15 := (v_nib _ (signs_hex k ps Z _).2 (signs_hex k ps Z _).1).2
                have n2 : nib (signs false k ps Z (2 * t + 1)) ≤ 15 := (v_nib _ (signs_hex k ps Z _).2 (signs_hex k ps Z _).1).2
                have x1 : IntKind.i64.wrap (2 * (t : Int)) = 2 * (t : Int) := by rw [IntKind.wrap_i64]; omega
                have x2 : IntKind.i64.wrap (2 * (t : Int) + 1) = 2 * (t : Int) + 1 := by rw [IntKind.wrap_i64]; omega
                have x3 : (0 : Int) ≤ 2 * (t : Int) ∧ 2 * (t : Int) < (k : Int) := by omega
                have x4 : (0 : Int) ≤ 2 * (t : Int) + 1 ∧ 2 * (t : Int) + 1 < (k : Int) := by omega
                have x5 : (2 * (t : Int)).toNat = 2 * t := by omega
                have x6 : (2 * (t : Int) + 1).toNat = 2 * t + 1 := by omega
                go_wp2
                go_quiet ((go_at_call 9; refine (nib_any _ _ ?_).mono ?_; (first | exact b1 | exact b2); (rintro e w' ⟨rfl, rfl⟩; exact ⟨rfl, _, rfl⟩)))
                have o1 := or_digits _ _ n1 n2
                go_wp2
                go_roundw
                case rel => exact ⟨t + 1, _, by omega, by go_num, rfl⟩
                case measure => simp [intOf]; omega
              · go_wp2
                go_ret
                exact ⟨rfl, HB2.out.trans ⟨rfl, rfl, rfl, Nat.le_refl _, fun _ _ => rfl⟩⟩
          · refine (encode_bad F jk k ps Z N2 wc.heap.size _ ev (HT.out _) (HGW.out _) (HEW.out _) hn ?_).mono ?_
            · cases jk
              · by_cases h2 : k % 2 = 0
                · exact Or.inr (Or.inr fun h3 => good ⟨rfl, h2, h3⟩)
                · exact Or.inr (Or.inl (by omega))
              · exact Or.inl rfl
            · rintro e w2 ⟨a, rfl, hb2⟩
              have HB2 : Hid (Below w.heap.size w w2) := (HBW.out _).trans (hb2.mono (HBW.out _).size)
              clear hb2
              have HG : Hid (¬ (jk = false ∧ k % 2 = 0 ∧ N2 = ((k / 2 : Nat) : Int))) := good
              clear good gt q24
              cases jk
              · by_cases h2 : k % 2 = 0
                · have t1 : ((k : Int) % 2 != 0) = false := by simp; omega
                  have t2 : ((k : Int) / 2 != N2) = true := by rw [bne_iff_ne]; exact fun h => HG.out ⟨rfl, h2, by rw [← h]; omega⟩
                  clear h2
                  go_wp2
                  go_ret
                  exact ⟨rfl, HB2.out⟩
                · have t1 : ((k : Int) % 2 != 0) = true := by rw [bne_iff_ne]; omega
                  clear h2
                  go_wp2
                  go_ret
                  exact ⟨rfl, HB2.out⟩
              · go_wp2
                go_ret
                exact ⟨rfl, HB2.out⟩

theorem encode_great (a0 : Option Addr) (n cap : Nat) (N : Int) (mt jk : Bool) (ps : Nat) (w : World) (hn : 4096 < n) (hm : n ≤ 9223372036854775807) :
    Calls Ybaf.prog 4 #[.slice a0 n cap, .int .i64 N, .bool mt, .bool jk, .int .u8 ps] w fun e w' => e = .returned (.bool true) ∧ Below w.heap.size w w' := by
  have hd : decide ((4096 : Int) < (n : Int)) = true := by simp; omega
  go_enter Ybaf.func4, Ybaf.ntmps4
  go_wp2
  go_ret
  exact ⟨rfl, Below.refl _ _⟩
end Go.Proofs.YbulkcdssFmt
