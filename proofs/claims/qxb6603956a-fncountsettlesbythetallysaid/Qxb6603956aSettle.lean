/-
  SEAT b6603956a: THE WALK OF FnCountSettlesByTheTally.
-/
import Derived.Test.Qxb6603956aTally
namespace Go.Proofs.Qxb6603956a
open Go.RowKit

/-- The counter still counts the yes votes. -/
theorem yes_counts {Z : Nat → Int} {n j : Nat} {v : Int} (hj : j < n) :
    yesOf Z j v (cntIf (fun i => Z i == 1) n) = cntIf (fun i => putVote Z j v i == 1) n := by
  unfold yesOf
  by_cases hz : Z j = 0
  · have hs := cntIf_set (p := fun i => Z i == 1) (q := fun i => putVote Z j v i == 1) hj (fun i _ hne => by simp [putVote, hne])
    have e1 : (Z j == 1) = false := by rw [hz]; rfl
    have e2 : putVote Z j v j = v := by unfold putVote; rw [if_pos ⟨hz, rfl⟩]
    simp only [e1, e2] at hs
    by_cases hv : v = 1
    · rw [if_pos ⟨hz, hv⟩]
      simp [hv] at hs
      rw [hv]
      omega
    · rw [if_neg (fun h => hv h.2)]
      simp [hv] at hs
      omega
  · rw [if_neg (fun h => hz h.1)]
    have e3 : putVote Z j v = Z := by funext i; unfold putVote; rw [if_neg (fun h => hz h.1)]
    rw [e3]

theorem dec_old {Z : Nat → Int} {n j : Nat} {v yes : Int} (hz : (Z j == 0) = false) : decOf Z j v yes n = 0 := by
  unfold decOf; rw [if_neg (by simpa using hz)]
theorem dec_no {Z : Nat → Int} {n j : Nat} {yes : Int} (hz : (Z j == 0) = true) : decOf Z j 2 yes n = 2 := by
  unfold decOf; rw [if_pos (by simpa using hz), if_neg (by decide), if_pos rfl]
theorem dec_other {Z : Nat → Int} {n j : Nat} {v yes : Int} (h1 : (v == 1) = false) (h2 : (v == 2) = false) : decOf Z j v yes n = 0 := by
  unfold decOf; rw [if_neg (c := v = 1) (by simpa using h1), if_neg (c := v = 2) (by simpa using h2)]; split <;> rfl
theorem dec_yes {Z : Nat → Int} {n j : Nat} (hj : j < n) (hz : (Z j == 0) = true) (a : Bool) (ha : (cntIf (fun i => putVote Z j 1 i == 1) n == n) = a) :
    decOf Z j 1 (cntIf (fun i => Z i == 1) n) n = if a = true then 1 else 0 := by
  have hz' : Z j = 0 := by simpa using hz
  have h := yes_counts (Z := Z) (v := 1) hj
  unfold yesOf at h
  rw [if_pos ⟨hz', rfl⟩] at h
  unfold decOf
  rw [if_pos hz', if_pos rfl, h, ← ha]
  by_cases e : cntIf (fun i => putVote Z j 1 i == 1) n = n
  · rw [if_pos (by omega), if_pos (by simpa using e)]
  · rw [if_neg (by omega), if_neg (by simpa using e)]

theorem early_long (a0 : Option Addr) (n c : Nat) (a1 a2 a3 : Int) (w : World) (h : 1048576 < n) (hm : n ≤ 9223372036854775807) :
    Calls Try.prog 4 #[.slice a0 n c, .int .i64 a1, .int .i64 a2, .int .u8 a3] w fun e w' => e = .returned (.bool true) ∧ Below w.heap.size w w' := by
  go_enter Try.func4, Try.ntmps4
  go_wp2
  go_ret
  exact ⟨rfl, Below.refl _ _⟩

theorem early_neg (a0 : Option Addr) (n c : Nat) (a1 a2 a3 : Int) (w : World) (hn : n ≤ 1048576) (h : a2 < 0) :
    Calls Try.prog 4 #[.slice a0 n c, .int .i64 a1, .int .i64 a2, .int .u8 a3] w fun e w' => e = .returned (.bool true) ∧ Below w.heap.size w w' := by
  go_enter Try.func4, Try.ntmps4
  go_wp2
  go_ret
  exact ⟨rfl, Below.refl _ _⟩

theorem early_far (a0 : Option Addr) (n c : Nat) (a1 a2 a3 : Int) (w : World) (hn : n ≤ 1048576) (h0 : 0 ≤ a2) (h : (n : Int) ≤ a2) :
    Calls Try.prog 4 #[.slice a0 n c, .int .i64 a1, .int .i64 a2, .int .u8 a3] w fun e w' => e = .returned (.bool true) ∧ Below w.heap.size w w' := by
  go_enter Try.func4, Try.ntmps4
  go_wp2
  go_ret
  exact ⟨rfl, Below.refl _ _⟩

set_option maxRecDepth 100000 in
set_option maxHeartbeats 800000 in
theorem early_off (b off n c j : Nat) (a1 a3 : Int) (Z : Nat → Int) (w : World) (hn : n ≤ 1048576) (hj : j < n) (hc : ∀ i, i < n → w.cell? ⟨b, off + i, none⟩ = some (.int .u8 (Z i))) (hy : (a1 != (cntIf (fun i => Z i == 1) n : Int)) = true) :
    Calls Try.prog 4 #[.slice (some ⟨b, off, none⟩) n c, .int .i64 a1, .int .i64 j, .int .u8 a3] w fun e w' => e = .returned (.bool true) ∧ Below w.heap.size w w' := by
  go_enter Try.func4, Try.ntmps4
  go_wp2_with (first | (go_at_call 15; refine (cntYes_any b off n c Z _ hn hc).mono ?_; rintro e w' ⟨rfl, rfl⟩) | go_in)
  go_ret
  exact ⟨rfl, Below.refl _ _⟩

/-- A row of another type's number, filled from a row that reads the same. -/
theorem fill_step {w : World} {B t n j : Nat} {k : IntKind} {Z : Nat → Int} (h : w.rowIs B t n (fun i => if i < j then .int k (Z i) else .int k 0)) :
    (w.setCell ⟨B, j, none⟩ (.int k (Z j))).rowIs B t n (fun i => if i < j + 1 then .int k (Z i) else .int k 0) := by
  refine (h.set j (.int k (Z j))).congr fun i _ => ?_
  by_cases e : i = j
  · subst e; simp
  · by_cases hlt : i < j
    · rw [if_neg e, if_pos hlt, if_pos (by omega)]
    · rw [if_neg e, if_neg hlt, if_neg (by omega)]

set_option maxRecDepth 100000 in
set_option maxHeartbeats 1600000 in
theorem settle_main (b off n c j : Nat) (v : Int) (Z : Nat → Int) (w : World) (hn : n ≤ 1048576) (hj : j < n) (hc : ∀ i, i < n → w.cell? ⟨b, off + i, none⟩ = some (.int .u8 (Z i))) (fr : Bool) (hfr : (Z j == 0) = fr) :
    Calls Try.prog 4 #[.slice (some ⟨b, off, none⟩) n c, .int .i64 (cntIf (fun i => Z i == 1) n), .int .i64 j, .int .u8 v] w fun e w' => e = .returned (.bool true) ∧ Below w.heap.size w w' := by
  have hle := cntIf_le (fun i => Z i == 1) n
  have hmk := run_make_row' (P := Try.prog) 39 40 (.int .u8 0) 1 Try.underlying39 info40 rfl .i64 .i64 n (by omega) (by omega)
  go_enter Try.func4, Try.ntmps4
  go_wp2_with (first | (go_at_call 15; refine (cntYes_any b off n c Z _ hn hc).mono ?_; rintro e w' ⟨rfl, rfl⟩) | (go_at_call 14; go_in))
  refine (cloneBytes_some ⟨b, off, none⟩ n c Z w hn (fun i hi => by rw [Go.WideShapes.add_plain]; exact hc i hi)).mono ?_
  rintro e w1 ⟨v1, rfl, hcl⟩
  rcases hcl with ⟨h, _⟩ | ⟨rfl, hs1, hrow1, hb1⟩
  · exact absurd h (by simp)
  have R1 : Hid (w1.rowIs w.heap.size 5 n (fun i => .int .u8 (Z i)) ∧ Below w.heap.size w w1) := ⟨hrow1, hb1⟩
  have R2 : Hid ((w1.alloc (.cells (madeCells #[.int .u8 0] n) 40)).heap.size = w.heap.size + 2 ∧ (w1.alloc (.cells (madeCells #[.int .u8 0] n) 40)).rowIs w.heap.size 5 n (fun i => .int .u8 (Z i)) ∧ (w1.alloc (.cells (madeCells #[.int .u8 0] n) 40)).rowIs (w.heap.size + 1) 40 n (fun i => if i < 0 then .int .u8 (Z i) else .int .u8 0) ∧ Below w.heap.size w (w1.alloc (.cells (madeCells #[.int .u8 0] n) 40))) :=
    ⟨by simp [hs1], hrow1.alloc _, by have h := World.rowIs_made w1 (.int .u8 0) n 40; rw [hs1] at h; exact h.congr (fun i _ => by simp), hb1.alloc (by omega) _⟩
  clear hrow1 hb1 hc
  go_wp2_with fail
  go_loopw [10] (fun i wr => ∃ k : Nat, k ≤ n ∧ i = .int .i64 k ∧ wr.heap.size = w.heap.size + 2 ∧ wr.rowIs w.heap.size 5 n (fun i => .int .u8 (Z i)) ∧ wr.rowIs (w.heap.size + 1) 40 n (fun i => if i < k then .int .u8 (Z i) else .int .u8 0) ∧ Below w.heap.size w wr) (fun i _ => n - (intOf i).toNat)
  case atStart => exact ⟨0, Nat.zero_le _, rfl, R2.out.1, R2.out.2.1, R2.out.2.2.1, R2.out.2.2.2⟩
  case round =>
    obtain ⟨k, hk, rfl, hsz, hrow, hrow2, hbel⟩ := hrel
    by_cases hlt : k < n
    · have hcell := hrow.cell hlt
      have hfz := hrow2.frozen k
      have hold := hrow2.cell hlt
      rw [if_neg (by omega)] at hold
      have HR : Hid ((wr.setCell ⟨w.heap.size + 1, k, none⟩ (.int .u8 (Z k))).heap.size = w.heap.size + 2 ∧ (wr.setCell ⟨w.heap.size + 1, k, none⟩ (.int .u8 (Z k))).rowIs w.heap.size 5 n (fun i => .int .u8 (Z i)) ∧ (wr.setCell ⟨w.heap.size + 1, k, none⟩ (.int .u8 (Z k))).rowIs (w.heap.size + 1) 40 n (fun i => if i < k + 1 then .int .u8 (Z i) else .int .u8 0) ∧ Below w.heap.size w (wr.setCell ⟨w.heap.size + 1, k, none⟩ (.int .u8 (Z k)))) :=
        ⟨by simp [hsz], hrow.setOther (by show w.heap.size ≠ w.heap.size + 1; omega) _, fill_step hrow2, hbel.setCell (by show w.heap.size ≤ w.heap.size + 1; omega) _⟩
      clear hrow hrow2 hbel
      go_wp2_with fail
      go_roundw
      case rel => exact ⟨k + 1, by omega, by go_num, HR.out.1, HR.out.2.1, HR.out.2.2.1, HR.out.2.2.2⟩
      case measure => simp [intOf]; omega
    · obtain rfl : k = n := by omega
      have hrow2' : wr.rowIs (w.heap.size + 1) 40 k (fun i => .int .u8 (Z i)) := hrow2.congr (fun i hi => by rw [if_pos hi])
      have H2 : Hid (wr.rowIs w.heap.size 5 k (fun i => .int .u8 (Z i)) ∧ wr.rowIs (w.heap.size + 1) 40 k (fun i => .int .u8 (Z i)) ∧ Below w.heap.size w wr) := ⟨hrow, hrow2', hbel⟩
      clear hrow hrow2 hrow2' hbel
      go_wp2_with fail
      refine (zzCount_any (w.heap.size + 1) k k j _ v Z wr hn hj H2.out.2.1 (by omega) (by omega)).mono ?_
      rintro e w2 ⟨rfl, hg, hrow3⟩
      have hrow4 : w2.rowIs w.heap.size 5 k (fun i => .int .u8 (Z i)) := H2.out.1.of_block (hg.block _ (by omega) (by simp))
      have hb2 : Below w.heap.size w w2 := H2.out.2.2.grown hg (by omega) (fun q hq => by cases hq; omega)
      have hcj := hrow4.cell hj
      have HE : Hid (yesOf Z j v (cntIf (fun i => Z i == 1) k) = cntIf (fun i => putVote Z j v i == 1) k) := yes_counts hj
      have H3 : Hid (w2.rowIs w.heap.size 5 k (fun i => .int .u8 (Z i)) ∧ w2.rowIs (w.heap.size + 1) 40 k (fun i => .int .u8 (putVote Z j v i)) ∧ Below w.heap.size w w2) := ⟨hrow4, hrow3, hb2⟩
      clear hrow3 hrow4 hb2 hg
      go_wp2_with fail
      go_loop [15, 16, 17] (fun t a i => ∃ q : Nat, q ≤ k ∧ i = .int .i64 q ∧ t = .int .i64 (cntIf (fun i => putVote Z j v i == 1) q) ∧ a = .bool (cntIf (fun i => putVote Z j v i == 1) q == q)) (fun _ _ i => k - (intOf i).toNat)
      case atStart => exact ⟨0, Nat.zero_le _, rfl, rfl, rfl⟩
      case round =>
        obtain ⟨q, hq, rfl, rfl, rfl⟩ := hrel
        have hle2 := cntIf_le (fun i => putVote Z j v i == 1) q
        by_cases hlt2 : q < k
        · have hcq := H3.out.1.cell hlt2
          have hdq := H3.out.2.1.cell hlt2
          obtain ⟨y, hy⟩ : ∃ y, y = putVote Z j v q := ⟨_, rfl⟩
          rw [← hy] at hdq
          have HS : Hid (cntIf (fun i => putVote Z j v i == 1) (q + 1) = cntIf (fun i => putVote Z j v i == 1) q + (if y == 1 then 1 else 0)) := by rw [hy]; rfl
          by_cases hqj : q = j ∧ fr = true
          · obtain ⟨rfl, rfl⟩ := hqj
            obtain rfl : y = v := by rw [hy]; unfold putVote; rw [if_pos ⟨by simpa using hfr, rfl⟩]
            clear hy
            by_cases h1 : y = 1
            · have h1' : (y == 1) = true := by simpa using h1
              clear h1
              go_wp2
              go_round
              case rel => exact ⟨q + 1, by omega, by go_num, by rw [HS.out, if_pos h1']; go_num, by rw [HS.out, if_pos h1']; simp⟩
              case measure => simp [intOf]; omega
            · have h1' : (y == 1) = false := by simpa using h1
              clear h1
              go_wp2
              go_round
              case rel => exact ⟨q + 1, by omega, by go_num, by rw [HS.out, if_neg (by simp [h1'])]; go_num, by rw [HS.out, if_neg (by simp [h1'])]; exact congrArg Value.bool (by simp; omega)⟩
              case measure => simp [intOf]; omega
          · obtain rfl : y = Z q := by
              rw [hy]; unfold putVote
              rw [if_neg (fun h => hqj ⟨h.2, by rw [← hfr]; simpa using h.1⟩)]
            clear hy
            have hg : ((q : Int) == (j : Int)) = false ∨ q = j ∧ fr = false := by
              by_cases e : q = j
              · right; refine ⟨e, ?_⟩; cases fr with
                | false => rfl
                | true => exact absurd ⟨e, rfl⟩ hqj
              · left; simp; omega
            clear hqj
            cases h1' : (Z q == 1) with
            | true =>
              have R : Hid (cntIf (fun i => putVote Z j v i == 1) (q + 1) = cntIf (fun i => putVote Z j v i == 1) q + 1) := by show _ = _; rw [HS.out, if_pos h1']
              clear HS
              rcases hg with hg | ⟨rfl, rfl⟩
              · go_wp2
                go_round
                case rel => exact ⟨q + 1, by omega, by go_num, by rw [R.out]; go_num, by rw [R.out]; simp⟩
                case measure => simp [intOf]; omega
              · go_wp2
                go_round
                case rel => exact ⟨q + 1, by omega, by go_num, by rw [R.out]; go_num, by rw [R.out]; simp⟩
                case measure => simp [intOf]; omega
            | false =>
              have R : Hid (cntIf (fun i => putVote Z j v i == 1) (q + 1) = cntIf (fun i => putVote Z j v i == 1) q) := by show _ = _; rw [HS.out, if_neg (by simp [h1'])]; rfl
              clear HS
              rcases hg with hg | ⟨rfl, rfl⟩
              · go_wp2
                go_round
                case rel => exact ⟨q + 1, by omega, by go_num, by rw [R.out], by rw [R.out]; exact congrArg Value.bool (by simp; omega)⟩
                case measure => simp [intOf]; omega
              · go_wp2
                go_round
                case rel => exact ⟨q + 1, by omega, by go_num, by rw [R.out], by rw [R.out]; exact congrArg Value.bool (by simp; omega)⟩
                case measure => simp [intOf]; omega
        · obtain rfl : q = k := by omega
          have hye : (yesOf Z j v (cntIf (fun i => Z i == 1) q) != (cntIf (fun i => putVote Z j v i == 1) q : Int)) = false := by rw [HE.out]; simp
          have HB := H3.out.2.2
          cases fr with
          | false =>
            have hd := dec_old (n := q) (v := v) (yes := (cntIf (fun i => Z i == 1) q : Int)) hfr
            go_wp2
            go_ret
            exact ⟨rfl, HB⟩
          | true =>
            by_cases h1 : v = 1
            · subst h1
              cases ha : (cntIf (fun i => putVote Z j 1 i == 1) q == q) with
              | true =>
                have hd := dec_yes hj hfr true ha
                rw [if_pos rfl] at hd
                go_wp2
                go_ret
                exact ⟨rfl, HB⟩
              | false =>
                have hd := dec_yes hj hfr false ha
                rw [if_neg (by simp)] at hd
                go_wp2
                go_ret
                exact ⟨rfl, HB⟩
            · have h1' : (v == 1) = false := by simpa using h1
              by_cases h2 : v = 2
              · subst h2
                have hd := dec_no (n := q) (yes := (cntIf (fun i => Z i == 1) q : Int)) hfr
                go_wp2
                go_ret
                exact ⟨rfl, HB⟩
              · have h2' : (v == 2) = false := by simpa using h2
                have hd := dec_other (Z := Z) (j := j) (n := q) (yes := (cntIf (fun i => Z i == 1) q : Int)) h1' h2'
                go_wp2
                go_ret
                exact ⟨rfl, HB⟩
end Go.Proofs.Qxb6603956a
