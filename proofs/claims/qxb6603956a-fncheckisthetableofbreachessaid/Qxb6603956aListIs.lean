/-
  SEAT b6603956a: chkListIs: a sorted list that holds each participant as often as the outcomes that the kind picks.
-/
import Derived.Test.Qxb6603956aChk
namespace Go.Proofs.Qxb6603956a
open Go.RowKit
set_option maxRecDepth 100000

theorem below_drewN {B : Nat} {a w : World} (h : Below B a w) (k : Nat) : Below B a (w.drewN k) := ⟨h.os, h.tape, h.output, h.size, h.block⟩

set_option maxHeartbeats 1600000 in
theorem chkListIs_true (g L cL b n c : Nat) (kd : Int) (z P T D : Nat → Int) (w : World) (hL : L ≤ 4096) (hn : n ≤ 4096) (hg : g < w.heap.size) (hb : b < w.heap.size)
    (hz : ∀ i, i < L → w.cell? ⟨g, i, none⟩ = some (.int .i64 (z i))) (ht : Trip w b n P T D)
    (h1 : cntIf (fun i => picks kd (T i) (D i)) n = L) (h2 : ∀ i, i + 1 < L → z i ≤ z (i + 1)) (h3 : ∀ i, i < L → cntIf (fun j => picks kd (T j) (D j) && P j == z i) n = cntIf (fun j => z j == z i) L) :
    Calls Try.prog 13 #[.slice (some ⟨g, 0, none⟩) L cL, .slice (some ⟨b, 0, none⟩) n c, .int .i64 kd] w fun e w' => e = .returned (.bool true) ∧ Below w.heap.size w w' := by
  go_enter Try.func13, Try.ntmps13
  go_wp2_with fail
  refine (chkHowMany_any b n c kd P T D w hn hb ht).mono ?_
  rintro e w1 ⟨rfl, hb1⟩
  rw [h1]
  have HB1 : Hid (Below w.heap.size w w1) := hb1
  clear hb1
  go_wp2_with fail
  go_loopw [7] (fun i wr => ∃ k : Nat, k ≤ L ∧ i = .int .i64 (k + 1) ∧ Below w.heap.size w wr) (fun i _ => L + 1 - (intOf i).toNat)
  case atStart => exact ⟨0, Nat.zero_le _, rfl, HB1.out⟩
  case round =>
    obtain ⟨k, hk, rfl, hbel⟩ := hrel
    by_cases hlt : k + 1 < L
    · have c0 : wr.cell? ⟨g, k, none⟩ = some (.int .i64 (z k)) := (hbel.cell (p := ⟨g, k, none⟩) hg).trans (hz k (by omega))
      have c1 : wr.cell? ⟨g, k + 1, none⟩ = some (.int .i64 (z (k + 1))) := (hbel.cell (p := ⟨g, k + 1, none⟩) hg).trans (hz (k + 1) hlt)
      have hzz := h2 k hlt
      have hi1 : (k : Int) + 1 < (L : Int) := by omega
      have hi0 : (k : Int) < (L : Int) := by omega
      have HB : Hid (Below w.heap.size w wr) := hbel
      clear hbel
      go_wp2_with fail
      go_quiet (fail)
      go_wp2_with fail
      go_roundw
      case rel => exact ⟨k + 1, by omega, by go_num, below_drewN HB.out _⟩
      case measure => simp [intOf]; omega
    · have HB : Hid (Below w.heap.size w wr) := hbel
      clear hbel
      have hlt' : decide ((k : Int) + 1 < (L : Int)) = false := decide_eq_false (by omega)
      go_wp2_with fail
      go_loopw [8] (fun i wx => ∃ q : Nat, q ≤ L ∧ i = .int .i64 q ∧ Below w.heap.size w wx) (fun i _ => L - (intOf i).toNat)
      case atStart => exact ⟨0, Nat.zero_le _, rfl, HB.out⟩
      case round =>
        obtain ⟨q, hq, rfl, hbel⟩ := hrel
        obtain ⟨wo, rfl⟩ : ∃ wo : World, wo = wr := ⟨_, rfl⟩
        by_cases hqL : q < L
        · have HBo : Hid (Below w.heap.size w wo) := hbel
          clear hbel
          have hiq : (q : Int) < (L : Int) := by omega
          go_wp2_with fail
          go_loopw [9, 10] (fun t i wx => ∃ r : Nat, r ≤ L ∧ i = .int .i64 r ∧ t = .int .i64 (cntIf (fun j => z j == z q) r) ∧ Below w.heap.size w wx) (fun _ i _ => L - (intOf i).toNat)
          case atStart => exact ⟨0, Nat.zero_le _, rfl, rfl, HBo.out⟩
          case round =>
            obtain ⟨r, hr, rfl, rfl, hbel⟩ := hrel
            have hle := cntIf_le (fun j => z j == z q) r
            by_cases hrL : r < L
            · have c0 : wr.cell? ⟨g, r, none⟩ = some (.int .i64 (z r)) := (hbel.cell (p := ⟨g, r, none⟩) hg).trans (hz r hrL)
              have c1 : wr.cell? ⟨g, q, none⟩ = some (.int .i64 (z q)) := (hbel.cell (p := ⟨g, q, none⟩) hg).trans (hz q hqL)
              have hir : (r : Int) < (L : Int) := by omega
              have HS : Hid (cntIf (fun j => z j == z q) (r + 1) = cntIf (fun j => z j == z q) r + (if (z r == z q) then 1 else 0)) := rfl
              have HB : Hid (Below w.heap.size w wr) := hbel
              clear hbel
              cases hp : (z r == z q) with
              | true =>
                rw [hp] at HS
                go_wp2_with fail
                go_quiet (fail)
                go_wp2_with fail
                go_roundw
                case rel => exact ⟨r + 1, by omega, by go_num, by rw [HS.out]; go_num, below_drewN HB.out _⟩
                case measure => simp [intOf]; omega
              | false =>
                rw [hp] at HS
                go_wp2_with fail
                go_quiet (fail)
                go_wp2_with fail
                go_roundw
                case rel => exact ⟨r + 1, by omega, by go_num, by rw [HS.out]; go_num, below_drewN HB.out _⟩
                case measure => simp [intOf]; omega
            · obtain rfl : r = L := by omega
              have c1 : wr.cell? ⟨g, q, none⟩ = some (.int .i64 (z q)) := (hbel.cell (p := ⟨g, q, none⟩) hg).trans (hz q hqL)
              have ht' := ht.below hbel hb
              have hbr : b < wr.heap.size := Nat.lt_of_lt_of_le hb hbel.size
              have HT : Hid (Trip wr b n P T D ∧ Below w.heap.size w wr ∧ b < wr.heap.size) := ⟨ht', hbel, hbr⟩
              have h3' := h3 q hqL
              clear ht' hbel hbr
              go_wp2_with fail
              refine (chkHowManyOf_any b n c kd (z q) P T D wr hn HT.out.2.2 HT.out.1).mono ?_
              rintro e w3 ⟨rfl, hb3⟩
              rw [h3']
              have HB3 : Hid (Below w.heap.size w w3) := HT.out.2.1.trans (hb3.mono HT.out.2.1.size)
              clear hb3 h3'
              go_wp2_with fail
              go_roundw
              case rel => exact ⟨q + 1, by omega, by go_num, HB3.out⟩
              case measure => simp [intOf]; omega
        · go_wp2_with fail
          go_ret
          exact ⟨rfl, hbel⟩
end Go.Proofs.Qxb6603956a
