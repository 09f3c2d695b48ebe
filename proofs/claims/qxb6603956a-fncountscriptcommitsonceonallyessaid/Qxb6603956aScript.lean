/-
  SEAT b6603956a: THE WALK OF FnCountScriptCommitsOnceOnAllYes.
-/
import Derived.Test.Qxb6603956aScriptPlain
namespace Go.Proofs.Qxb6603956a
open Go.RowKit
set_option maxRecDepth 100000

/-- A slice of integers that came in, as a clone wants it. -/
def CameIn (k : IntKind) (w : World) (a : Option Addr) (n c : Nat) (Z : Nat → Int) : Prop :=
  (a = none ∧ n = 0 ∧ c = 0) ∨ ∃ x, a = some x ∧ ∀ i, i < n → w.cell? (x.add i) = some (.int k (Z i))

/-- What a clone leaves. -/
def Copied (k : IntKind) (t : TypeId) (w w' : World) (n : Nat) (Z : Nat → Int) (a : Option Addr) : Prop :=
  Below w.heap.size w w' ∧ (0 < n → a = some ⟨w.heap.size, 0, none⟩ ∧ w'.rowIs w.heap.size t n (fun i => .int k (Z i)))

theorem copied_of {k : IntKind} {t : TypeId} {w w' : World} {a : Option Addr} {n : Nat} {Z : Nat → Int} {v : Value} (h : cloned k t w w' a n Z v) (hn : a = none → n = 0) : ∃ a', v = .slice a' n n ∧ Copied k t w w' n Z a' := by
  rcases h with ⟨h1, rfl, rfl⟩ | ⟨rfl, _, hr, hb⟩
  · obtain rfl := hn h1
    exact ⟨none, rfl, Below.refl _ _, fun h => absurd h (by omega)⟩
  · exact ⟨_, rfl, hb, fun _ => ⟨rfl, hr⟩⟩

theorem cloneInts_any (a : Option Addr) (n c : Nat) (Z : Nat → Int) (w : World) (hn : n ≤ 65536) (h : CameIn .i64 w a n c Z) :
    Calls Try.prog 19 #[.slice a n c] w fun e w' => ∃ a', e = .returned (.slice a' n n) ∧ Copied .i64 3 w w' n Z a' := by
  rcases h with ⟨rfl, rfl, rfl⟩ | ⟨x, rfl, hc⟩
  · refine (cloneInts_none Z w).mono ?_
    rintro e w' ⟨v, rfl, hcl⟩
    obtain ⟨a', rfl, hk⟩ := copied_of hcl (fun _ => rfl)
    exact ⟨a', rfl, hk⟩
  · refine (cloneInts_some x n c Z w (by omega) hc).mono ?_
    rintro e w' ⟨v, rfl, hcl⟩
    obtain ⟨a', rfl, hk⟩ := copied_of hcl (fun h => absurd h (by simp))
    exact ⟨a', rfl, hk⟩

theorem cloneBytes_any (a : Option Addr) (n c : Nat) (Z : Nat → Int) (w : World) (hn : n ≤ 65536) (h : CameIn .u8 w a n c Z) :
    Calls Try.prog 16 #[.slice a n c] w fun e w' => ∃ a', e = .returned (.slice a' n n) ∧ Copied .u8 5 w w' n Z a' := by
  rcases h with ⟨rfl, rfl, rfl⟩ | ⟨x, rfl, hc⟩
  · refine (cloneBytes_none Z w).mono ?_
    rintro e w' ⟨v, rfl, hcl⟩
    obtain ⟨a', rfl, hk⟩ := copied_of hcl (fun _ => rfl)
    exact ⟨a', rfl, hk⟩
  · refine (cloneBytes_some x n c Z w (by omega) hc).mono ?_
    rintro e w' ⟨v, rfl, hcl⟩
    obtain ⟨a', rfl, hk⟩ := copied_of hcl (fun h => absurd h (by simp))
    exact ⟨a', rfl, hk⟩

theorem CameIn.later {k : IntKind} {w w' : World} {a : Option Addr} {n c : Nat} {Z : Nat → Int} (h : CameIn k w a n c Z) (hb : Below w.heap.size w w') : CameIn k w' a n c Z := by
  rcases h with h | ⟨x, rfl, hc⟩
  · exact .inl h
  · exact .inr ⟨x, rfl, fun i hi => cell_later hb (hc i hi)⟩

section
variable (a0 : Int) (a1 : Option Addr) (len1 cap1 : Nat) (a2 : Option Addr) (len2 cap2 : Nat) (w : World)

theorem script_long1 (h : 65536 < len1) (h1 : len1 ≤ 9223372036854775807) (h2 : len2 ≤ 9223372036854775807) :
    Calls Try.prog 5 #[.int .i64 a0, .slice a1 len1 cap1, .slice a2 len2 cap2] w fun e w' => e = .returned (.bool true) ∧ Below w.heap.size w w' := by
  by_cases g1 : 1048576 < len1
  · go_enter Try.func5, Try.ntmps5
    go_wp2
    go_ret
    exact ⟨rfl, Below.refl _ _⟩
  by_cases g2 : 1048576 < len2
  · go_enter Try.func5, Try.ntmps5
    go_wp2
    go_ret
    exact ⟨rfl, Below.refl _ _⟩
  by_cases g3 : 1048576 < len1 + len2
  · go_enter Try.func5, Try.ntmps5
    go_wp2
    go_ret
    exact ⟨rfl, Below.refl _ _⟩
  go_enter Try.func5, Try.ntmps5
  go_wp2
  go_ret
  exact ⟨rfl, Below.refl _ _⟩

theorem script_long2 (h : len1 ≤ 65536) (h1 : 65536 < len2) (h2 : len2 ≤ 9223372036854775807) :
    Calls Try.prog 5 #[.int .i64 a0, .slice a1 len1 cap1, .slice a2 len2 cap2] w fun e w' => e = .returned (.bool true) ∧ Below w.heap.size w w' := by
  by_cases g2 : 1048576 < len2
  · go_enter Try.func5, Try.ntmps5
    go_wp2
    go_ret
    exact ⟨rfl, Below.refl _ _⟩
  by_cases g3 : 1048576 < len1 + len2
  · go_enter Try.func5, Try.ntmps5
    go_wp2
    go_ret
    exact ⟨rfl, Below.refl _ _⟩
  go_enter Try.func5, Try.ntmps5
  go_wp2
  go_ret
  exact ⟨rfl, Below.refl _ _⟩

theorem script_neg (h : len1 ≤ 65536) (h1 : len2 ≤ 65536) (h0 : a0 < 0) :
    Calls Try.prog 5 #[.int .i64 a0, .slice a1 len1 cap1, .slice a2 len2 cap2] w fun e w' => e = .returned (.bool true) ∧ Below w.heap.size w w' := by
  go_enter Try.func5, Try.ntmps5
  go_wp2
  go_ret
  exact ⟨rfl, Below.refl _ _⟩

theorem script_far (h : len1 ≤ 65536) (h1 : len2 ≤ 65536) (h0 : 65536 < a0) :
    Calls Try.prog 5 #[.int .i64 a0, .slice a1 len1 cap1, .slice a2 len2 cap2] w fun e w' => e = .returned (.bool true) ∧ Below w.heap.size w w' := by
  go_enter Try.func5, Try.ntmps5
  go_wp2
  go_ret
  exact ⟨rfl, Below.refl _ _⟩
end

/-- All participants below q have said yes (and there is one at all). -/
def allUp (V : Nat → Int) (n q : Nat) : Bool := decide (0 < n) && (cntIf (fun i => V i == 1) q == q)

theorem allUp_yes {V : Nat → Int} {n q : Nat} (h : (V q == 1) = true) : allUp V n (q + 1) = allUp V n q := by
  unfold allUp
  rw [cntIf_succ, if_pos h]
  simp
theorem allUp_not {V : Nat → Int} {n q : Nat} (h : (V q == 1) = false) : allUp V n (q + 1) = false := by
  unfold allUp
  have := cntIf_le (fun i => V i == 1) q
  rw [cntIf_succ, if_neg (by simp [h])]
  simp
  omega
theorem allUp_end {V : Nat → Int} {n : Nat} : commitsOf V n = if allUp V n n = true then 1 else 0 := by
  unfold commitsOf allUp
  by_cases h : 0 < n ∧ cntIf (fun i => V i == 1) n = n
  · rw [if_pos h, if_pos (by simpa using h)]
  · rw [if_neg h, if_neg (by simpa using h)]

set_option maxHeartbeats 3200000 in
theorem script_main (n : Nat) (a1 : Option Addr) (len1 cap1 : Nat) (F : Nat → Int) (a2 : Option Addr) (len2 cap2 : Nat) (G : Nat → Int) (w : World) (h : len1 ≤ 65536) (h1 : len2 ≤ 65536) (h0 : n ≤ 65536) (hF : CameIn .i64 w a1 len1 cap1 F) (hG : CameIn .u8 w a2 len2 cap2 G)
    (m : Nat) (hm1 : m ≤ len1) (hm2 : m ≤ len2) (hm : (m = len1 ∧ len1 ≤ len2) ∨ (m = len2 ∧ len2 < len1)) :
    Calls Try.prog 5 #[.int .i64 n, .slice a1 len1 cap1, .slice a2 len2 cap2] w fun e w' => e = .returned (.bool true) ∧ Below w.heap.size w w' := by
  have hmk := run_make_row' (P := Try.prog) 39 40 (.int .u8 0) 1 Try.underlying39 info40 rfl .i64 .i64 n (by omega) (by omega)
  have hmk3 := run_make_row' (P := Try.prog) 31 3 (.int .i64 0) 8 Try.underlying31 info3 rfl .i64 .i64 n (by omega) (by omega)
  rcases hm with ⟨rfl, hmm⟩ | ⟨rfl, hmm⟩
  · have hnl : ¬ len2 < m := by omega
    go_enter Try.func5, Try.ntmps5
    go_wp2_with (go_at_call 18; go_in)
    refine (cloneInts_any a1 m cap1 F w h hF).mono ?_
    rintro e w1 ⟨aF, rfl, hbF, hrF⟩
    have hG1 := hG.later hbF
    have HF : Hid (Below w.heap.size w w1 ∧ (0 < m → aF = some ⟨w.heap.size, 0, none⟩ ∧ w1.rowIs w.heap.size 3 m (fun i => .int .i64 (F i)))) := ⟨hbF, hrF⟩
    clear hbF hrF hF hG
    go_wp2_with fail
    refine (cloneBytes_any a2 len2 cap2 G w1 h1 hG1).mono ?_
    rintro e w2 ⟨aG, rfl, hbG, hrG⟩
    have HG : Hid (Below w1.heap.size w1 w2 ∧ (0 < len2 → aG = some ⟨w1.heap.size, 0, none⟩ ∧ w2.rowIs w1.heap.size 5 len2 (fun i => .int .u8 (G i)))) := ⟨hbG, hrG⟩
    clear hbG hrG hG1
    have HS := Rows3.start w2 n
    go_wp2_with fail
    go_loopw [7, 10, 11, 12, 14] (fun vt y cm ab i wr => ∃ (k : Nat) (V : Nat → Int), k ≤ m ∧ i = .int .i64 k ∧ vt = .slice (some ⟨w2.heap.size, 0, none⟩) n n ∧ y = .int .i64 (cntIf (fun i => V i == 1) n) ∧ cm = .int .i64 (commitsOf V n) ∧ ab = .int .i64 (cntIf (fun i => V i == 2) n) ∧ Rows3 w2 wr n V V (abortsAt V)) (fun _ _ _ _ i _ => m - (intOf i).toNat)
    case atStart =>
      exact ⟨0, zeroV, Nat.zero_le _, rfl, rfl, by rw [zero_cnt1]; rfl, by rw [zero_commits], by rw [zero_cnt2]; rfl, HS⟩
    case round =>
      obtain ⟨k, V, hk, rfl, rfl, rfl, rfl, rfl, hR⟩ := hrel
      clear HS
      have hle1 := cntIf_le (fun i => V i == 1) n
      have hle2 := cntIf_le (fun i => V i == 2) n
      by_cases hlt : k < m
      · obtain ⟨rfl, hrF⟩ := HF.out.2 (by omega)
        obtain ⟨rfl, hrG⟩ := HG.out.2 (by omega)
        have hb2 : Below w2.heap.size w2 wr := hR.below
        have hs01 := HF.out.1.size
        have hs12 := HG.out.1.size
        have hcF : wr.cell? ⟨w.heap.size, k, none⟩ = some (.int .i64 (F k)) := by
          have e1 := hrF.cell hlt
          have hl1 := hrF.lt
          rw [hb2.cell (p := ⟨w.heap.size, k, none⟩) (by show w.heap.size < w2.heap.size; omega), HG.out.1.cell (p := ⟨w.heap.size, k, none⟩) hl1]
          exact e1
        have hcG : wr.cell? ⟨w1.heap.size, k, none⟩ = some (.int .u8 (G k)) := by
          have hl1 := hrG.lt
          rw [hb2.cell (p := ⟨w1.heap.size, k, none⟩) hl1]
          exact hrG.cell (by omega)
        clear hrF hrG hb2
        by_cases hskip : F k < 0
        · have HR : Hid (Rows3 w2 wr n V V (abortsAt V)) := hR
          clear hR
          go_wp2_with fail
          go_roundw
          case rel => exact ⟨k + 1, V, by omega, by go_num, rfl, rfl, rfl, rfl, HR.out⟩
          case measure => simp [intOf]; omega
        by_cases hskip2 : (n : Int) ≤ F k
        · have HR : Hid (Rows3 w2 wr n V V (abortsAt V)) := hR
          clear hR
          go_wp2_with fail
          go_roundw
          case rel => exact ⟨k + 1, V, by omega, by go_num, rfl, rfl, rfl, rfl, HR.out⟩
          case measure => simp [intOf]; omega
        obtain ⟨j, hj⟩ : ∃ j : Nat, F k = (j : Int) := ⟨(F k).toNat, by omega⟩
        rw [hj] at hcF hskip hskip2
        clear hj
        have hjn : j < n := by omega
        obtain ⟨v, hv⟩ : ∃ v, v = G k := ⟨_, rfl⟩
        rw [← hv] at hcG
        clear hv
        have hcW := hR.first.cell hjn
        have hfW := hR.first.frozen j
        have HR : Hid (Rows3 w2 wr n V V (abortsAt V)) := hR
        clear hR
        by_cases hz : V j = 0
        · rw [hz] at hcW
          have HZ : Hid (V j = 0) := hz
          clear hz
          have HR1 : Hid (Rows3 w2 (wr.setCell ⟨w2.heap.size + 1, j, none⟩ (.int .u8 v)) n V (putVote V j v) (abortsAt V)) := (HR.out.setFirst j v).congr (put_if HZ.out) (fun _ => rfl)
          have hcl := cnt_lt hjn HZ.out
          have hcm := commits_lt hjn HZ.out
          by_cases h1v : v = 1
          · subst h1v
            have e1 := cnt_put (v := 1) hjn HZ.out 1 (by decide)
            have e2 := cnt_put (v := 1) hjn HZ.out 2 (by decide)
            have e3 := commits_put (v := 1) hjn HZ.out
            rw [if_pos rfl] at e1
            rw [if_neg (by decide), Nat.add_zero] at e2
            by_cases hall : cntIf (fun i => V i == 1) n + 1 = n
            · have hnn := no_noes hjn HZ.out hall
              rw [if_pos ⟨rfl, hall⟩] at e3
              have HE : Hid (cntIf (fun i => putVote V j 1 i == 1) n = cntIf (fun i => V i == 1) n + 1 ∧ cntIf (fun i => putVote V j 1 i == 2) n = cntIf (fun i => V i == 2) n ∧ commitsOf (putVote V j 1) n = 1 ∧ cntIf (fun i => V i == 1) n + 1 = n) := ⟨e1, e2, e3, hall⟩
              clear e1 e2 e3 hall
              go_wp2_with fail
              refine (zzCount_yes w2.heap.size n n j _ V _ (by omega) hjn HR1.out.votes HZ.out (by omega) (by omega) 1 (.inl ⟨by have := HE.out.2.2.2; omega, rfl⟩)).mono ?_
              rintro e w3 ⟨rfl, hg, hr3⟩
              have HR2 : Hid (Rows3 w2 w3 n (putVote V j 1) (putVote V j 1) (abortsAt (putVote V j 1))) := (HR1.out.counted hg hr3).congr (fun _ => rfl) (aborts_put HZ.out (by decide))
              clear hg hr3
              go_wp2_with fail
              go_roundw
              case rel => exact ⟨k + 1, putVote V j 1, by omega, by go_num, rfl, by rw [HE.out.1]; go_num, by rw [HE.out.2.2.1], by rw [HE.out.2.1, hnn]; rfl, HR2.out⟩
              case measure => simp [intOf]; omega
            · rw [if_neg (fun h => hall h.2)] at e3
              have HE : Hid (cntIf (fun i => putVote V j 1 i == 1) n = cntIf (fun i => V i == 1) n + 1 ∧ cntIf (fun i => putVote V j 1 i == 2) n = cntIf (fun i => V i == 2) n ∧ commitsOf (putVote V j 1) n = 0) := ⟨e1, e2, e3⟩
              clear e1 e2 e3
              go_wp2_with fail
              refine (zzCount_yes w2.heap.size n n j _ V _ (by omega) hjn HR1.out.votes HZ.out (by omega) (by omega) 0 (.inr ⟨by omega, rfl⟩)).mono ?_
              rintro e w3 ⟨rfl, hg, hr3⟩
              have HR2 : Hid (Rows3 w2 w3 n (putVote V j 1) (putVote V j 1) (abortsAt (putVote V j 1))) := (HR1.out.counted hg hr3).congr (fun _ => rfl) (aborts_put HZ.out (by decide))
              clear hg hr3
              go_wp2_with fail
              go_roundw
              case rel => exact ⟨k + 1, putVote V j 1, by omega, by go_num, rfl, by rw [HE.out.1]; go_num, by rw [HE.out.2.2], by rw [HE.out.2.1], HR2.out⟩
              case measure => simp [intOf]; omega
          · have e1 := cnt_put (v := v) hjn HZ.out 1 (by decide)
            have e3 := commits_put (v := v) hjn HZ.out
            rw [if_neg h1v, Nat.add_zero] at e1
            rw [if_neg (fun h => h1v h.1)] at e3
            by_cases h2v : v = 2
            · subst h2v
              have e2 := cnt_put (v := 2) hjn HZ.out 2 (by decide)
              rw [if_pos rfl] at e2
              have HE : Hid (cntIf (fun i => putVote V j 2 i == 1) n = cntIf (fun i => V i == 1) n ∧ cntIf (fun i => putVote V j 2 i == 2) n = cntIf (fun i => V i == 2) n + 1 ∧ commitsOf (putVote V j 2) n = 0) := ⟨e1, e2, e3⟩
              clear e1 e2 e3
              go_wp2_with fail
              refine (zzCount_no w2.heap.size n n j _ V _ (by omega) hjn HR1.out.votes HZ.out).mono ?_
              rintro e w3 ⟨rfl, hg, hr3⟩
              have hR2 := HR1.out.counted hg hr3
              have hcA : w3.cell? ⟨w2.heap.size + 1 + 1, j, none⟩ = some (.int .i64 0) := by
                have := hR2.aborts.cell hjn
                rw [this]
                unfold abortsAt
                rw [HZ.out, if_neg (by decide)]
              have hfA := hR2.aborts.frozen j
              have HR2 : Hid (Rows3 w2 (w3.setCell ⟨w2.heap.size + 1 + 1, j, none⟩ (.int .i64 1)) n (putVote V j 2) (putVote V j 2) (abortsAt (putVote V j 2))) := (hR2.setAborts j 1).congr (fun _ => rfl) (aborts_put2 HZ.out)
              clear hg hr3 hR2
              go_wp2_with fail
              go_roundw
              case rel => exact ⟨k + 1, putVote V j 2, by omega, by go_num, rfl, by rw [HE.out.1], by rw [HE.out.2.2], by rw [HE.out.2.1]; go_num, HR2.out⟩
              case measure => simp [intOf]; omega
            · have e2 := cnt_put (v := v) hjn HZ.out 2 (by decide)
              rw [if_neg h2v, Nat.add_zero] at e2
              have HE : Hid (cntIf (fun i => putVote V j v i == 1) n = cntIf (fun i => V i == 1) n ∧ cntIf (fun i => putVote V j v i == 2) n = cntIf (fun i => V i == 2) n ∧ commitsOf (putVote V j v) n = 0) := ⟨e1, e2, e3⟩
              clear e1 e2 e3
              go_wp2_with fail
              refine (zzCount_other w2.heap.size n n j _ v V _ (by omega) hjn HR1.out.votes HZ.out (by simpa using h1v) (by simpa using h2v)).mono ?_
              rintro e w3 ⟨rfl, hg, hr3⟩
              have HR2 : Hid (Rows3 w2 w3 n (putVote V j v) (putVote V j v) (abortsAt (putVote V j v))) := (HR1.out.counted hg hr3).congr (fun _ => rfl) (aborts_put HZ.out h2v)
              clear hg hr3
              go_wp2_with fail
              go_roundw
              case rel => exact ⟨k + 1, putVote V j v, by omega, by go_num, rfl, by rw [HE.out.1], by rw [HE.out.2.2], by rw [HE.out.2.1], HR2.out⟩
              case measure => simp [intOf]; omega
        · have hz' : (V j == 0) = false := by simpa using hz
          clear hz
          go_wp2_with fail
          refine (zzCount_old w2.heap.size n n j _ v V wr (by omega) hjn HR.out.votes hz').mono ?_
          rintro e w3 ⟨rfl, hg, hr3⟩
          have HR2 : Hid (Rows3 w2 w3 n V V (abortsAt V)) := HR.out.counted hg hr3
          clear hg hr3
          go_wp2_with fail
          go_roundw
          case rel => exact ⟨k + 1, V, by omega, by go_num, rfl, rfl, rfl, rfl, HR2.out⟩
          case measure => simp [intOf]; omega
      · have HR : Hid (Rows3 w2 wr n V V (abortsAt V)) := hR
        clear hR
        go_wp2_with fail
        go_loopw [20, 21] (fun a p wx => ∃ q : Nat, q ≤ n ∧ p = .int .i64 q ∧ a = .bool (allUp V n q) ∧ Rows3 w2 wx n V V (abortsAt V)) (fun _ p _ => n - (intOf p).toNat)
        case atStart => exact ⟨0, Nat.zero_le _, rfl, congrArg Value.bool (by simp [allUp, cntIf]), HR.out⟩
        case round =>
          obtain ⟨q, hq, rfl, rfl, hQ⟩ := hrel
          clear HR
          by_cases hqn : q < n
          · have hcV := hQ.votes.cell hqn
            have hcW := hQ.first.cell hqn
            have hcA := hQ.aborts.cell hqn
            have hqi : (q : Int) < (n : Int) := by omega
            have HQ : Hid (Rows3 w2 wr n V V (abortsAt V)) := hQ
            clear hQ
            by_cases h1v : V q = 1
            · have HA : Hid (allUp V n (q + 1) = allUp V n q) := allUp_yes (by simpa using h1v)
              have ha : abortsAt V q = 0 := by unfold abortsAt; rw [h1v, if_neg (by decide)]
              rw [h1v] at hcV hcW
              rw [ha] at hcA
              clear h1v ha
              go_wp2_with fail
              go_quiet (fail)
              go_wp2_with fail
              go_roundw
              case rel => exact ⟨q + 1, by omega, by go_num, by rw [HA.out], HQ.out.drewN _⟩
              case measure => simp [intOf]; omega
            · have h1' : (V q == 1) = false := by simpa using h1v
              have HA : Hid (allUp V n (q + 1) = false) := allUp_not h1'
              by_cases h2v : V q = 2
              · have ha : abortsAt V q = 1 := by unfold abortsAt; rw [h2v, if_pos rfl]
                rw [h2v] at hcV hcW
                rw [ha] at hcA
                clear h1v ha h1' h2v
                go_wp2_with fail
                go_quiet (fail)
                go_wp2_with fail
                go_roundw
                case rel => exact ⟨q + 1, by omega, by go_num, by rw [HA.out], HQ.out.drewN _⟩
                case measure => simp [intOf]; omega
              · have ha : abortsAt V q = 0 := by unfold abortsAt; rw [if_neg h2v]
                have h2' : (V q == 2) = false := by simpa using h2v
                have h1'' : (V q != 1) = true := by rw [bne_iff_ne]; exact h1v
                rw [ha] at hcA
                clear h1v ha h2v
                go_wp2_with fail
                go_quiet (fail)
                go_wp2_with fail
                go_roundw
                case rel => exact ⟨q + 1, by omega, by go_num, by rw [HA.out], HQ.out.drewN _⟩
                case measure => simp [intOf]; omega
          · obtain rfl : q = n := by omega
            have hb1 : Below w.heap.size w wr := (HF.out.1.trans (HG.out.1.mono HF.out.1.size)).trans (hQ.below.mono (Nat.le_trans HF.out.1.size HG.out.1.size))
            have hce := allUp_end (V := V) (n := q)
            cases hau : allUp V q q with
            | true =>
              rw [hau, if_pos rfl] at hce
              go_wp2_with fail
              go_ret
              exact ⟨rfl, hb1⟩
            | false =>
              rw [hau, if_neg (by simp)] at hce
              go_wp2_with fail
              go_ret
              exact ⟨rfl, hb1⟩
  · have hnl : m < len1 := hmm
    go_enter Try.func5, Try.ntmps5
    go_wp2_with (go_at_call 18; go_in)
    refine (cloneInts_any a1 len1 cap1 F w h hF).mono ?_
    rintro e w1 ⟨aF, rfl, hbF, hrF⟩
    have hG1 := hG.later hbF
    have HF : Hid (Below w.heap.size w w1 ∧ (0 < len1 → aF = some ⟨w.heap.size, 0, none⟩ ∧ w1.rowIs w.heap.size 3 len1 (fun i => .int .i64 (F i)))) := ⟨hbF, hrF⟩
    clear hbF hrF hF hG
    go_wp2_with fail
    refine (cloneBytes_any a2 m cap2 G w1 h1 hG1).mono ?_
    rintro e w2 ⟨aG, rfl, hbG, hrG⟩
    have HG : Hid (Below w1.heap.size w1 w2 ∧ (0 < m → aG = some ⟨w1.heap.size, 0, none⟩ ∧ w2.rowIs w1.heap.size 5 m (fun i => .int .u8 (G i)))) := ⟨hbG, hrG⟩
    clear hbG hrG hG1
    have HS := Rows3.start w2 n
    go_wp2_with fail
    go_loopw [7, 10, 11, 12, 14] (fun vt y cm ab i wr => ∃ (k : Nat) (V : Nat → Int), k ≤ m ∧ i = .int .i64 k ∧ vt = .slice (some ⟨w2.heap.size, 0, none⟩) n n ∧ y = .int .i64 (cntIf (fun i => V i == 1) n) ∧ cm = .int .i64 (commitsOf V n) ∧ ab = .int .i64 (cntIf (fun i => V i == 2) n) ∧ Rows3 w2 wr n V V (abortsAt V)) (fun _ _ _ _ i _ => m - (intOf i).toNat)
    case atStart =>
      exact ⟨0, zeroV, Nat.zero_le _, rfl, rfl, by rw [zero_cnt1]; rfl, by rw [zero_commits], by rw [zero_cnt2]; rfl, HS⟩
    case round =>
      obtain ⟨k, V, hk, rfl, rfl, rfl, rfl, rfl, hR⟩ := hrel
      clear HS
      have hle1 := cntIf_le (fun i => V i == 1) n
      have hle2 := cntIf_le (fun i => V i == 2) n
      by_cases hlt : k < m
      · obtain ⟨rfl, hrF⟩ := HF.out.2 (by omega)
        obtain ⟨rfl, hrG⟩ := HG.out.2 (by omega)
        have hb2 : Below w2.heap.size w2 wr := hR.below
        have hs01 := HF.out.1.size
        have hs12 := HG.out.1.size
        have hcF : wr.cell? ⟨w.heap.size, k, none⟩ = some (.int .i64 (F k)) := by
          have e1 := hrF.cell (i := k) (by omega)
          have hl1 := hrF.lt
          rw [hb2.cell (p := ⟨w.heap.size, k, none⟩) (by show w.heap.size < w2.heap.size; omega), HG.out.1.cell (p := ⟨w.heap.size, k, none⟩) hl1]
          exact e1
        have hcG : wr.cell? ⟨w1.heap.size, k, none⟩ = some (.int .u8 (G k)) := by
          have hl1 := hrG.lt
          rw [hb2.cell (p := ⟨w1.heap.size, k, none⟩) hl1]
          exact hrG.cell (by omega)
        clear hrF hrG hb2
        by_cases hskip : F k < 0
        · have HR : Hid (Rows3 w2 wr n V V (abortsAt V)) := hR
          clear hR
          go_wp2_with fail
          go_roundw
          case rel => exact ⟨k + 1, V, by omega, by go_num, rfl, rfl, rfl, rfl, HR.out⟩
          case measure => simp [intOf]; omega
        by_cases hskip2 : (n : Int) ≤ F k
        · have HR : Hid (Rows3 w2 wr n V V (abortsAt V)) := hR
          clear hR
          go_wp2_with fail
          go_roundw
          case rel => exact ⟨k + 1, V, by omega, by go_num, rfl, rfl, rfl, rfl, HR.out⟩
          case measure => simp [intOf]; omega
        obtain ⟨j, hj⟩ : ∃ j : Nat, F k = (j : Int) := ⟨(F k).toNat, by omega⟩
        rw [hj] at hcF hskip hskip2
        clear hj
        have hjn : j < n := by omega
        obtain ⟨v, hv⟩ : ∃ v, v = G k := ⟨_, rfl⟩
        rw [← hv] at hcG
        clear hv
        have hcW := hR.first.cell hjn
        have hfW := hR.first.frozen j
        have HR : Hid (Rows3 w2 wr n V V (abortsAt V)) := hR
        clear hR
        by_cases hz : V j = 0
        · rw [hz] at hcW
          have HZ : Hid (V j = 0) := hz
          clear hz
          have HR1 : Hid (Rows3 w2 (wr.setCell ⟨w2.heap.size + 1, j, none⟩ (.int .u8 v)) n V (putVote V j v) (abortsAt V)) := (HR.out.setFirst j v).congr (put_if HZ.out) (fun _ => rfl)
          have hcl := cnt_lt hjn HZ.out
          have hcm := commits_lt hjn HZ.out
          by_cases h1v : v = 1
          · subst h1v
            have e1 := cnt_put (v := 1) hjn HZ.out 1 (by decide)
            have e2 := cnt_put (v := 1) hjn HZ.out 2 (by decide)
            have e3 := commits_put (v := 1) hjn HZ.out
            rw [if_pos rfl] at e1
            rw [if_neg (by decide), Nat.add_zero] at e2
            by_cases hall : cntIf (fun i => V i == 1) n + 1 = n
            · have hnn := no_noes hjn HZ.out hall
              rw [if_pos ⟨rfl, hall⟩] at e3
              have HE : Hid (cntIf (fun i => putVote V j 1 i == 1) n = cntIf (fun i => V i == 1) n + 1 ∧ cntIf (fun i => putVote V j 1 i == 2) n = cntIf (fun i => V i == 2) n ∧ commitsOf (putVote V j 1) n = 1 ∧ cntIf (fun i => V i == 1) n + 1 = n) := ⟨e1, e2, e3, hall⟩
              clear e1 e2 e3 hall
              go_wp2_with fail
              refine (zzCount_yes w2.heap.size n n j _ V _ (by omega) hjn HR1.out.votes HZ.out (by omega) (by omega) 1 (.inl ⟨by have := HE.out.2.2.2; omega, rfl⟩)).mono ?_
              rintro e w3 ⟨rfl, hg, hr3⟩
              have HR2 : Hid (Rows3 w2 w3 n (putVote V j 1) (putVote V j 1) (abortsAt (putVote V j 1))) := (HR1.out.counted hg hr3).congr (fun _ => rfl) (aborts_put HZ.out (by decide))
              clear hg hr3
              go_wp2_with fail
              go_roundw
              case rel => exact ⟨k + 1, putVote V j 1, by omega, by go_num, rfl, by rw [HE.out.1]; go_num, by rw [HE.out.2.2.1], by rw [HE.out.2.1, hnn]; rfl, HR2.out⟩
              case measure => simp [intOf]; omega
            · rw [if_neg (fun h => hall h.2)] at e3
              have HE : Hid (cntIf (fun i => putVote V j 1 i == 1) n = cntIf (fun i => V i == 1) n + 1 ∧ cntIf (fun i => putVote V j 1 i == 2) n = cntIf (fun i => V i == 2) n ∧ commitsOf (putVote V j 1) n = 0) := ⟨e1, e2, e3⟩
              clear e1 e2 e3
              go_wp2_with fail
              refine (zzCount_yes w2.heap.size n n j _ V _ (by omega) hjn HR1.out.votes HZ.out (by omega) (by omega) 0 (.inr ⟨by omega, rfl⟩)).mono ?_
              rintro e w3 ⟨rfl, hg, hr3⟩
              have HR2 : Hid (Rows3 w2 w3 n (putVote V j 1) (putVote V j 1) (abortsAt (putVote V j 1))) := (HR1.out.counted hg hr3).congr (fun _ => rfl) (aborts_put HZ.out (by decide))
              clear hg hr3
              go_wp2_with fail
              go_roundw
              case rel => exact ⟨k + 1, putVote V j 1, by omega, by go_num, rfl, by rw [HE.out.1]; go_num, by rw [HE.out.2.2], by rw [HE.out.2.1], HR2.out⟩
              case measure => simp [intOf]; omega
          · have e1 := cnt_put (v := v) hjn HZ.out 1 (by decide)
            have e3 := commits_put (v := v) hjn HZ.out
            rw [if_neg h1v, Nat.add_zero] at e1
            rw [if_neg (fun h => h1v h.1)] at e3
            by_cases h2v : v = 2
            · subst h2v
              have e2 := cnt_put (v := 2) hjn HZ.out 2 (by decide)
              rw [if_pos rfl] at e2
              have HE : Hid (cntIf (fun i => putVote V j 2 i == 1) n = cntIf (fun i => V i == 1) n ∧ cntIf (fun i => putVote V j 2 i == 2) n = cntIf (fun i => V i == 2) n + 1 ∧ commitsOf (putVote V j 2) n = 0) := ⟨e1, e2, e3⟩
              clear e1 e2 e3
              go_wp2_with fail
              refine (zzCount_no w2.heap.size n n j _ V _ (by omega) hjn HR1.out.votes HZ.out).mono ?_
              rintro e w3 ⟨rfl, hg, hr3⟩
              have hR2 := HR1.out.counted hg hr3
              have hcA : w3.cell? ⟨w2.heap.size + 1 + 1, j, none⟩ = some (.int .i64 0) := by
                have := hR2.aborts.cell hjn
                rw [this]
                unfold abortsAt
                rw [HZ.out, if_neg (by decide)]
              have hfA := hR2.aborts.frozen j
              have HR2 : Hid (Rows3 w2 (w3.setCell ⟨w2.heap.size + 1 + 1, j, none⟩ (.int .i64 1)) n (putVote V j 2) (putVote V j 2) (abortsAt (putVote V j 2))) := (hR2.setAborts j 1).congr (fun _ => rfl) (aborts_put2 HZ.out)
              clear hg hr3 hR2
              go_wp2_with fail
              go_roundw
              case rel => exact ⟨k + 1, putVote V j 2, by omega, by go_num, rfl, by rw [HE.out.1], by rw [HE.out.2.2], by rw [HE.out.2.1]; go_num, HR2.out⟩
              case measure => simp [intOf]; omega
            · have e2 := cnt_put (v := v) hjn HZ.out 2 (by decide)
              rw [if_neg h2v, Nat.add_zero] at e2
              have HE : Hid (cntIf (fun i => putVote V j v i == 1) n = cntIf (fun i => V i == 1) n ∧ cntIf (fun i => putVote V j v i == 2) n = cntIf (fun i => V i == 2) n ∧ commitsOf (putVote V j v) n = 0) := ⟨e1, e2, e3⟩
              clear e1 e2 e3
              go_wp2_with fail
              refine (zzCount_other w2.heap.size n n j _ v V _ (by omega) hjn HR1.out.votes HZ.out (by simpa using h1v) (by simpa using h2v)).mono ?_
              rintro e w3 ⟨rfl, hg, hr3⟩
              have HR2 : Hid (Rows3 w2 w3 n (putVote V j v) (putVote V j v) (abortsAt (putVote V j v))) := (HR1.out.counted hg hr3).congr (fun _ => rfl) (aborts_put HZ.out h2v)
              clear hg hr3
              go_wp2_with fail
              go_roundw
              case rel => exact ⟨k + 1, putVote V j v, by omega, by go_num, rfl, by rw [HE.out.1], by rw [HE.out.2.2], by rw [HE.out.2.1], HR2.out⟩
              case measure => simp [intOf]; omega
        · have hz' : (V j == 0) = false := by simpa using hz
          clear hz
          go_wp2_with fail
          refine (zzCount_old w2.heap.size n n j _ v V wr (by omega) hjn HR.out.votes hz').mono ?_
          rintro e w3 ⟨rfl, hg, hr3⟩
          have HR2 : Hid (Rows3 w2 w3 n V V (abortsAt V)) := HR.out.counted hg hr3
          clear hg hr3
          go_wp2_with fail
          go_roundw
          case rel => exact ⟨k + 1, V, by omega, by go_num, rfl, rfl, rfl, rfl, HR2.out⟩
          case measure => simp [intOf]; omega
      · have HR : Hid (Rows3 w2 wr n V V (abortsAt V)) := hR
        clear hR
        go_wp2_with fail
        go_loopw [20, 21] (fun a p wx => ∃ q : Nat, q ≤ n ∧ p = .int .i64 q ∧ a = .bool (allUp V n q) ∧ Rows3 w2 wx n V V (abortsAt V)) (fun _ p _ => n - (intOf p).toNat)
        case atStart => exact ⟨0, Nat.zero_le _, rfl, congrArg Value.bool (by simp [allUp, cntIf]), HR.out⟩
        case round =>
          obtain ⟨q, hq, rfl, rfl, hQ⟩ := hrel
          clear HR
          by_cases hqn : q < n
          · have hcV := hQ.votes.cell hqn
            have hcW := hQ.first.cell hqn
            have hcA := hQ.aborts.cell hqn
            have hqi : (q : Int) < (n : Int) := by omega
            have HQ : Hid (Rows3 w2 wr n V V (abortsAt V)) := hQ
            clear hQ
            by_cases h1v : V q = 1
            · have HA : Hid (allUp V n (q + 1) = allUp V n q) := allUp_yes (by simpa using h1v)
              have ha : abortsAt V q = 0 := by unfold abortsAt; rw [h1v, if_neg (by decide)]
              rw [h1v] at hcV hcW
              rw [ha] at hcA
              clear h1v ha
              go_wp2_with fail
              go_quiet (fail)
              go_wp2_with fail
              go_roundw
              case rel => exact ⟨q + 1, by omega, by go_num, by rw [HA.out], HQ.out.drewN _⟩
              case measure => simp [intOf]; omega
            · have h1' : (V q == 1) = false := by simpa using h1v
              have HA : Hid (allUp V n (q + 1) = false) := allUp_not h1'
              by_cases h2v : V q = 2
              · have ha : abortsAt V q = 1 := by unfold abortsAt; rw [h2v, if_pos rfl]
                rw [h2v] at hcV hcW
                rw [ha] at hcA
                clear h1v ha h1' h2v
                go_wp2_with fail
                go_quiet (fail)
                go_wp2_with fail
                go_roundw
                case rel => exact ⟨q + 1, by omega, by go_num, by rw [HA.out], HQ.out.drewN _⟩
                case measure => simp [intOf]; omega
              · have ha : abortsAt V q = 0 := by unfold abortsAt; rw [if_neg h2v]
                have h2' : (V q == 2) = false := by simpa using h2v
                have h1'' : (V q != 1) = true := by rw [bne_iff_ne]; exact h1v
                rw [ha] at hcA
                clear h1v ha h2v
                go_wp2_with fail
                go_quiet (fail)
                go_wp2_with fail
                go_roundw
                case rel => exact ⟨q + 1, by omega, by go_num, by rw [HA.out], HQ.out.drewN _⟩
                case measure => simp [intOf]; omega
          · obtain rfl : q = n := by omega
            have hb1 : Below w.heap.size w wr := (HF.out.1.trans (HG.out.1.mono HF.out.1.size)).trans (hQ.below.mono (Nat.le_trans HF.out.1.size HG.out.1.size))
            have hce := allUp_end (V := V) (n := q)
            cases hau : allUp V q q with
            | true =>
              rw [hau, if_pos rfl] at hce
              go_wp2_with fail
              go_ret
              exact ⟨rfl, hb1⟩
            | false =>
              rw [hau, if_neg (by simp)] at hce
              go_wp2_with fail
              go_ret
              exact ⟨rfl, hb1⟩

end Go.Proofs.Qxb6603956a
