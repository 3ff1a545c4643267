import Derived.Test.YbulkcdrcExact
import Derived.Deep.DeepCutAuto
namespace Go.Proofs.Ybulkcdrc
open Go.RowKit
set_option linter.unusedVariables false

/-- The display of the j-th of the pool's types. -/
def dispOf (n : Nat) (S : Nat → ByteArray) (j : Nat) : ByteArray := if j < n then S j else ⟨#[]⟩

theorem laid_step' {B n k : Nat} {nm ds : Nat → ByteArray} {c kd : Int} {w wr : World} (h : Laid B n k nm ds c kd w wr) {x y : ByteArray} (hx : nm k = x) (hy : ds k = y) :
    Laid B n (k + 1) nm ds c kd w ((wr.alloc (.cells (tyCells x y c kd) 31)).setCell ⟨B, k, none⟩ (.pointer (some ⟨B + 1 + k, 0, none⟩))) := by
  subst hx; subst hy; exact laid_step h

/-- The row of picks as far as the k-th. -/
def picksTo (B N : Nat) (Z : Nat → Nat) (k j : Nat) : Value := if j < k then .pointer (some ⟨B + Z j % N, 0, none⟩) else .pointer none

structure Picked (B N m k T : Nat) (Z : Nat → Nat) (w1 wr : World) : Prop where
  row : wr.rowIs T 24 m (picksTo B N Z k)
  bel : Below T w1 wr
  size : wr.heap.size = T + 1

theorem picked_start (B N m : Nat) (Z : Nat → Nat) (w1 : World) : Picked B N m 0 w1.heap.size Z w1 (w1.alloc (.cells (madeCells #[.pointer none] m) 24)) :=
  ⟨(World.rowIs_made w1 (.pointer none) m 24).congr fun i _ => by simp [picksTo], (Below.refl _ _).alloc (Nat.le_refl _) _, by simp⟩

theorem picked_step {B N m k T : Nat} {Z : Nat → Nat} {w1 wr : World} (h : Picked B N m k T Z w1 wr) : Picked B N m (k + 1) T Z w1 (wr.setCell ⟨T, k, none⟩ (.pointer (some ⟨B + Z k % N, 0, none⟩))) := by
  refine ⟨(h.row.set k _).congr fun i hi => ?_, h.bel.setCell (Nat.le_refl _) _, by simpa using h.size⟩
  unfold picksTo
  by_cases e : i = k
  · subst e; rw [if_pos rfl, if_pos (by omega)]
  · rw [if_neg e]
    by_cases e2 : i < k
    · rw [if_pos e2, if_pos (by omega)]
    · rw [if_neg e2, if_neg (by omega)]

theorem Picked.pointer {B N m T : Nat} {Z : Nat → Nat} {w1 wr : World} (h : Picked B N m m T Z w1 wr) {i : Nat} (hi : i < m) : wr.cell? ⟨T, i, none⟩ = some (.pointer (some ⟨B + Z i % N, 0, none⟩)) := by
  rw [h.row.cell hi]; simp [picksTo, hi]

/-- All that the last two loops read. -/
structure Ready2 (B N n m b off b1 off1 G : Nat) (S : Nat → ByteArray) (Z : Nat → Nat) (w w' : World) : Prop where
  bel : Below B w w'
  pool : ∀ i, i < n → w'.cell? ⟨b, off + i, none⟩ = some (.string (S i))
  picks : ∀ i, i < m → w'.cell? ⟨b1, off1 + i, none⟩ = some (.int .u8 (Z i))
  ptypes : ∀ i, i < N → w'.cell? ⟨B, i, none⟩ = some (.pointer (some ⟨B + 1 + i, 0, none⟩))
  types : ∀ i, i < m → w'.cell? ⟨B + 1 + N, i, none⟩ = some (.pointer (some ⟨B + 1 + Z i % N, 0, none⟩))
  name : ∀ i, i < N → w'.cell? ⟨B + 1 + i, 0, none⟩ = some (.string (⟨#[110]⟩ ++ dispOf n S i))
  disp : ∀ i, i < N → w'.cell? ⟨B + 1 + i, 1, none⟩ = some (.string (dispOf n S i))
  got : ∀ i, i < m → w'.cell? ⟨G, i, none⟩ = some (.string (dispOf n S (Z i % N)))

theorem ready2_of {B N n m b off b1 off1 : Nat} {S : Nat → ByteArray} {Z : Nat → Nat} {c kd : Int} {w wr wp w' : World} (hb : 0 < n → b < B) (hcell : ∀ i, i < n → w.cell? ⟨b, off + i, none⟩ = some (.string (S i)))
    (hb1 : 0 < m → b1 < B) (hcell1 : ∀ i, i < m → w.cell? ⟨b1, off1 + i, none⟩ = some (.int .u8 (Z i)))
    (h : Laid B N N (fun j => ⟨#[110]⟩ ++ dispOf n S j) (dispOf n S) c kd w wr) (hp : Picked (B + 1) N m m (B + 1 + N) Z wr wp)
    (hg : w'.rowIs wp.heap.size 9 m (fun j => .string (dispOf n S (Z j % N)))) (hbg : Below wp.heap.size wp w') : Ready2 B N n m b off b1 off1 wp.heap.size S Z w w' := by
  have hs := hp.size
  have hB : Below (B + 1 + N) wr w' := hp.bel.trans (hbg.mono (by omega))
  refine ⟨h.bel.trans (hB.mono (by omega)), fun i hi => ?_, fun i hi => ?_, fun i hi => ?_, fun i hi => ?_, fun i hi => ?_, fun i hi => ?_, fun i hi => hg.cell hi⟩
  · have hb0 := hb (by omega)
    rw [hB.cell (by show b < _; omega), h.bel.cell (by exact hb0)]; exact hcell i hi
  · have hb0 := hb1 (by omega)
    rw [hB.cell (by show b1 < _; omega), h.bel.cell (by exact hb0)]; exact hcell1 i hi
  · rw [hB.cell (by show B < _; omega)]; exact h.pointer hi
  · rw [hbg.cell (by show B + 1 + N < _; omega)]; exact hp.pointer hi
  · rw [hB.cell (by show B + 1 + i < _; omega)]; exact h.name hi
  · rw [hB.cell (by show B + 1 + i < _; omega)]; exact h.disp hi

set_option maxRecDepth 100000 in
set_option maxHeartbeats 2000000 in
theorem shared_small (a0 a1 : Option Addr) (b off n cap b1 off1 m cap1 N : Nat) (S : Nat → ByteArray) (Z : Nat → Nat) (w : World) (hn : n ≤ 1024) (hm : m ≤ 1024)
    (hN1 : 1 ≤ N) (hN2 : N ≤ 1024) (hN3 : n ≤ N) (hN4 : Hid (0 < n → N = n)) (hN5 : Hid (n = 0 → N = 1))
    (hb : 0 < n → b < w.heap.size) (hcell : ∀ i, i < n → w.cell? ⟨b, off + i, none⟩ = some (.string (S i))) (hS : ∀ i, i < n → (S i).size ≤ 140737488351232) (ha : Hid (0 < n → a0 = some ⟨b, off, none⟩))
    (hb1 : 0 < m → b1 < w.heap.size) (hcell1 : ∀ i, i < m → w.cell? ⟨b1, off1 + i, none⟩ = some (.int .u8 (Z i))) (hZ : ∀ i, i < m → Z i ≤ 255) (ha1 : Hid (0 < m → a1 = some ⟨b1, off1, none⟩)) :
    Calls Yba.prog 4 #[.slice a0 n cap, .slice a1 m cap1] w fun e w' => e = .returned (.bool true) ∧ Below w.heap.size w w' := by
  have hmk := run_make_row' (P := Yba.prog) 23 24 (.pointer none) 8 Yba.underlying23 info24 rfl .i64 .i64 N (by omega) (by omega)
  have hmk2 := run_make_row' (P := Yba.prog) 23 24 (.pointer none) 8 Yba.underlying23 info24 rfl .i64 .i64 m (by omega) (by omega)
  have hd : decide ((1024 : Int) < (n : Int)) = false := by simp; omega
  have hd1 : decide ((1024 : Int) < (m : Int)) = false := by simp; omega
  go_enter Yba.func4, Yba.ntmps4
  go_upto_if 28 with (fail)
  go_cut [5] from 27 to 28 (fun s w' => s = .int .i64 N ∧ w' = w)
  case first =>
    by_cases h0 : n = 0
    · have e := hN5.out h0
      subst h0; subst e
      go_wp2
      go_meet
      case rel => exact ⟨rfl, rfl⟩
    · have e := hN4.out (by omega)
      subst e
      have h0' : ((N : Int) == 0) = false := by simp; omega
      go_wp2
      go_meet
      case rel => exact ⟨rfl, rfl⟩
  case rest =>
    obtain ⟨rfl, rfl⟩ := hcut
    go_wp2
    go_loopw [7, 8] (fun i s wr => ∃ k : Nat, k ≤ N ∧ i = .int .i64 k ∧ Laid wc.heap.size N k (fun j => ⟨#[110]⟩ ++ dispOf n S j) (dispOf n S) 0 0 wc wr)
      (fun i _ _ => N - (intOf i).toNat)
    case atStart => exact ⟨0, Nat.zero_le _, rfl, laid_start N _ _ _ _ wc⟩
    case round =>
      obtain ⟨k, hk, rfl, hlaid⟩ := hrel
      have hsz := hlaid.size
      by_cases hlt : k < N
      · have hc3 := fun o => (hlaid.row.alloc o).cell hlt
        have hf3 := fun o => (hlaid.row.alloc o).frozen k
        by_cases hkn : k < n
        · have hc1 : wr.cell? ⟨b, off + k, none⟩ = some (.string (S k)) := (hlaid.bel.cell (by exact hb (by omega))).trans (hcell k hkn)
          have hs := hS k hkn
          obtain rfl := ha.out (by omega)
          have R := laid_step' hlaid (x := ⟨#[110]⟩ ++ S k) (y := S k) (by simp [dispOf, hkn]) (by simp [dispOf, hkn])
          clear hmk hmk2 hcell hS hcell1 hZ hlaid
          go_wp2
          go_roundw
          case rel => exact ⟨k + 1, by omega, by go_num, R⟩
          case measure => simp [intOf]; omega
        · have R := laid_step' hlaid (x := ⟨#[110]⟩ ++ ⟨#[]⟩) (y := ⟨#[]⟩) (by simp [dispOf, hkn]) (by simp [dispOf, hkn])
          clear hmk hmk2 hcell hS hcell1 hZ hlaid
          go_wp2
          go_roundw
          case rel => exact ⟨k + 1, by omega, by go_num, R⟩
          case measure => simp [intOf]; omega
      · have e : k = N := by omega
        subst e
        rename World => w1
        go_wp2
        go_loopw [10] (fun i wp => ∃ j : Nat, j ≤ m ∧ i = .int .i64 j ∧ Picked (wc.heap.size + 1) k m j (wc.heap.size + 1 + k) Z w1 wp) (fun i _ => m - (intOf i).toNat)
        case atStart => exact ⟨0, Nat.zero_le _, rfl, by rw [← hsz]; exact picked_start _ _ _ _ _⟩
        case round =>
          obtain ⟨j, hj, rfl, hpick⟩ := hrel
          rename World => wp
          by_cases hjm : j < m
          · have hc1 : wp.cell? ⟨b1, off1 + j, none⟩ = some (.int .u8 (Z j)) := by
              have hb0 := hb1 (by omega)
              rw [hpick.bel.cell (by show b1 < _; omega), hlaid.bel.cell (by exact hb0)]; exact hcell1 j hjm
            have hz := hZ j hjm
            have hzm : Z j % k < k := Nat.mod_lt _ (by omega)
            have hc2 : wp.cell? ⟨wc.heap.size, Z j % k, none⟩ = some (.pointer (some ⟨wc.heap.size + 1 + Z j % k, 0, none⟩)) := by
              rw [hpick.bel.cell (by show wc.heap.size < _; omega)]; exact hlaid.pointer hzm
            have hc3 := hpick.row.cell hjm
            have hf3 := hpick.row.frozen j
            have R := picked_step hpick
            obtain rfl := ha1.out (by omega)
            clear hmk hmk2 hcell hS hcell1 hZ hlaid hpick
            go_wp2
            go_roundw
            case rel => exact ⟨j + 1, by omega, by go_num, R⟩
            case measure => simp [intOf]; omega
          · have e : j = m := by omega
            subst e
            go_wp2_with fail
            refine (names_any (wc.heap.size + 1 + k) j (fun i => wc.heap.size + 1 + Z i % k) (fun i => dispOf n S (Z i % k)) wp hm (by have := hpick.size; omega)
              (fun i hi => by have := hpick.size; have : Z i % k < k := Nat.mod_lt _ (by omega); omega) (fun i hi => hpick.pointer hi)
              (fun i hi => by
                have hlt : Z i % k < k := Nat.mod_lt _ (by omega)
                rw [hpick.bel.cell (by show wc.heap.size + 1 + Z i % k < _; omega)]; exact hlaid.disp hlt)).mono ?_
            rintro e w' ⟨rfl, hg, hbg, hszg⟩
            have R := ready2_of hb hcell hb1 hcell1 hlaid hpick hg hbg
            obtain ⟨G, hG⟩ : ∃ G, G = wp.heap.size := ⟨_, rfl⟩
            rw [← hG] at R ⊢
            clear hG hg hbg hszg hpick hlaid hcell hcell1 hsz hmk hmk2
            have hpe := neq_same
            go_wp2
            go_loopw [12] (fun i wr => ∃ i' q : Nat, i' ≤ j ∧ i = .int .i64 i' ∧ wr = w'.drewN q) (fun i _ => j - (intOf i).toNat)
            case atStart => exact ⟨0, 0, Nat.zero_le _, rfl, rfl⟩
            case round =>
              obtain ⟨i', q, hi', rfl, rfl⟩ := hrel
              by_cases hij : i' < j
              · have hz := hZ i' hij
                have hzm : Z i' % k < k := Nat.mod_lt _ (by omega)
                have c1 := R.picks i' hij
                have c2 := R.types i' hij
                have c3 := R.ptypes (Z i' % k) hzm
                have c4 := R.got i' hij
                obtain rfl := ha1.out (by omega)
                by_cases hzn : Z i' % k < n
                · have c5 := R.pool _ hzn
                  rw [show dispOf n S (Z i' % k) = S (Z i' % k) by simp [dispOf, hzn]] at c4
                  obtain rfl := ha.out (by omega)
                  clear hS hZ R ha ha1
                  go_wp2
                  go_quiet (fail)
                  go_wp2
                  go_roundw
                  case rel => exact ⟨i' + 1, _, by omega, by go_num, rfl⟩
                  case measure => simp [intOf]; omega
                · rw [show dispOf n S (Z i' % k) = ⟨#[]⟩ by simp [dispOf, hzn]] at c4
                  clear hS hZ R ha ha1
                  go_wp2
                  go_quiet (fail)
                  go_wp2
                  go_roundw
                  case rel => exact ⟨i' + 1, _, by omega, by go_num, rfl⟩
                  case measure => simp [intOf]; omega
              · clear hZ
                go_wp2
                go_loopw [15] (fun i wr => ∃ t : Nat, t ≤ k ∧ i = .int .i64 t ∧ wr = w'.drewN q) (fun i _ => k - (intOf i).toNat)
                case atStart => exact ⟨0, Nat.zero_le _, rfl, rfl⟩
                case round =>
                  obtain ⟨t, ht, rfl, rfl⟩ := hrel
                  by_cases htk : t < k
                  · have c1 := R.ptypes t htk
                    have c2 := R.name t htk
                    have c3 := R.disp t htk
                    by_cases htn : t < n
                    · have c4 := R.pool t htn
                      have c5 := hS t htn
                      rw [show dispOf n S t = S t by simp [dispOf, htn]] at c2 c3
                      obtain rfl := ha.out (by omega)
                      clear hS R ha ha1
                      go_wp2
                      go_roundw
                      case rel => exact ⟨t + 1, by omega, by go_num, trivial⟩
                      case measure => simp [intOf]; omega
                    · rw [show dispOf n S t = ⟨#[]⟩ by simp [dispOf, htn]] at c2 c3
                      clear hS R ha ha1
                      go_wp2
                      go_roundw
                      case rel => exact ⟨t + 1, by omega, by go_num, trivial⟩
                      case measure => simp [intOf]; omega
                  · go_wp2
                    go_ret
                    exact ⟨rfl, R.bel.trans ⟨rfl, rfl, rfl, Nat.le_refl _, fun _ _ => rfl⟩⟩

theorem shared_great (a0 a1 : Option Addr) (n cap m cap1 : Nat) (w : World) (hn : n ≤ 9223372036854775807) (hm : m ≤ 9223372036854775807) (h : 1024 < n ∨ 1024 < m) :
    Calls Yba.prog 4 #[.slice a0 n cap, .slice a1 m cap1] w fun e w' => e = .returned (.bool true) ∧ Below w.heap.size w w' := by
  by_cases h0 : 1024 < n
  · have hd : decide ((1024 : Int) < (n : Int)) = true := by simp; omega
    clear h
    go_enter Yba.func4, Yba.ntmps4
    go_wp2
    go_ret
    exact ⟨rfl, Below.refl _ _⟩
  · have hd : decide ((1024 : Int) < (n : Int)) = false := by simp; omega
    have hd1 : decide ((1024 : Int) < (m : Int)) = true := by simp; omega
    clear h
    go_enter Yba.func4, Yba.ntmps4
    go_wp2
    go_ret
    exact ⟨rfl, Below.refl _ _⟩
end Go.Proofs.Ybulkcdrc
