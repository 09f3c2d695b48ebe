/-
  SEAT b6604010a: THE WALK OF FnFirstsMeetAnswersFirstMeeting.
-/
import Derived.Test.Qxb6604010aState
import Derived.Deep.DeepCutAuto
import Derived.Deep.RegionWith
namespace Go.Proofs.Qxb6604010a
open Go.RowKit
set_option maxRecDepth 100000

section
variable (a0 a1 : Option Addr) (n0 c0 n1 c1 : Nat) (w : World)

theorem early_bytes (hm0 : n0 ≤ 9223372036854775807) (hm1 : n1 ≤ 9223372036854775807) (h : 1048576 < n0 + n1) : Calls Try.prog 6 #[.slice a0 n0 c0, .slice a1 n1 c1] w fun e w' => e = .returned (.bool true) ∧ Below w.heap.size w w' := by
  have HB := hide (bytes_no a0 a1 n0 c0 n1 c1 w hm0 hm1 h)
  clear h hm0 hm1
  go_enter Try.func6, Try.ntmps6
  go_wp2_with (go_at_call 23; refine HB.out.mono ?_; rintro e w' ⟨rfl, rfl⟩)
  go_ret
  exact ⟨rfl, Below.refl _ _⟩
theorem early_long0 (h : n0 + n1 ≤ 1048576) (h0 : 262144 < n0) : Calls Try.prog 6 #[.slice a0 n0 c0, .slice a1 n1 c1] w fun e w' => e = .returned (.bool true) ∧ Below w.heap.size w w' := by
  have HB := hide (bytes_ok a0 a1 n0 c0 n1 c1 w h)
  go_enter Try.func6, Try.ntmps6
  go_wp2_with (go_at_call 23; refine HB.out.mono ?_; rintro e w' ⟨rfl, rfl⟩)
  go_ret
  exact ⟨rfl, Below.refl _ _⟩
theorem early_long1 (h : n0 + n1 ≤ 1048576) (h0 : n0 ≤ 262144) (h1 : 131072 < n1) : Calls Try.prog 6 #[.slice a0 n0 c0, .slice a1 n1 c1] w fun e w' => e = .returned (.bool true) ∧ Below w.heap.size w w' := by
  have HB := hide (bytes_ok a0 a1 n0 c0 n1 c1 w h)
  go_enter Try.func6, Try.ntmps6
  go_wp2_with (go_at_call 23; refine HB.out.mono ?_; rintro e w' ⟨rfl, rfl⟩)
  go_ret
  exact ⟨rfl, Below.refl _ _⟩
theorem early_wide (h0 : n0 ≤ 262144) (h1 : n1 ≤ 131072) (h2 : 4096 < n0) (h3 : 4096 < n1) : Calls Try.prog 6 #[.slice a0 n0 c0, .slice a1 n1 c1] w fun e w' => e = .returned (.bool true) ∧ Below w.heap.size w w' := by
  have HB := hide (bytes_ok a0 a1 n0 c0 n1 c1 w (by omega))
  by_cases hl : n1 < n0
  · go_enter Try.func6, Try.ntmps6
    go_wp2_with (go_at_call 23; refine HB.out.mono ?_; rintro e w' ⟨rfl, rfl⟩)
    go_ret
    exact ⟨rfl, Below.refl _ _⟩
  · go_enter Try.func6, Try.ntmps6
    go_wp2_with (go_at_call 23; refine HB.out.mono ?_; rintro e w' ⟨rfl, rfl⟩)
    go_ret
    exact ⟨rfl, Below.refl _ _⟩

theorem early_none (h0 : n0 ≤ 262144) (h1 : n1 ≤ 131072) (h : n0 = 0 ∨ n1 = 0) : Calls Try.prog 6 #[.slice a0 n0 c0, .slice a1 n1 c1] w fun e w' => e = .returned (.bool true) ∧ Below w.heap.size w w' := by
  have HB := hide (bytes_ok a0 a1 n0 c0 n1 c1 w (by omega))
  have HN := hide (new_any w)
  go_enter Try.func6, Try.ntmps6
  go_upto_if 29 with (go_at_call 23; refine HB.out.mono ?_; rintro e w' ⟨rfl, rfl⟩)
  go_cut [5] (fun s5 wx => s5 = .int .i64 0 ∧ w = wx)
  case first =>
    by_cases hl : n1 < n0
    · obtain rfl : n1 = 0 := by omega
      go_wp2_with fail
      go_meet
      exact ⟨rfl, rfl⟩
    · obtain rfl : n0 = 0 := by omega
      go_wp2_with fail
      go_meet
      exact ⟨rfl, rfl⟩
  case rest =>
    obtain ⟨rfl, rfl⟩ := hcut
    go_wp2_with (go_at_call 24; refine HN.out.mono ?_; rintro e w1 ⟨rfl, hrow, hbel⟩; clear hrow; replace hbel := hide hbel)
    go_loopw [8] (fun i wr => i = .int .i64 0 ∧ Below w.heap.size w wr) (fun _ _ => 0)
    case atStart => exact ⟨rfl, hbel.out⟩
    case round =>
      obtain ⟨rfl, hb⟩ := hrel
      replace hb := hide hb
      go_wp2
      go_ret
      exact ⟨rfl, hb.out⟩
end

theorem St.of_heap {base : Nat} {w w' : World} {F : Nat} {L : List (Int × Int)} (h : St base w F L) (e : w'.heap = w.heap) : St base w' F L := by
  obtain ⟨h1, h2, h3⟩ := h
  refine ⟨h1, h2, ?_⟩
  rcases h3 with ⟨A, B, h8, hrow, r⟩ | ⟨A, B, bm, D, h8, hrow, hF, hb, ho, ha⟩
  · exact .inl ⟨A, B, h8, hrow.of_block (by rw [e]), r⟩
  · obtain ⟨es, clock, hh, r⟩ := ho
    exact .inr ⟨A, B, bm, D, h8, hrow.of_block (by rw [e]), hF, hb, ⟨es, clock, by rw [e]; exact hh, r⟩, ha⟩

theorem step_call (V X : Nat → Int) (k : Nat) (y : Int) (w wo w' : World) (hk : k < 4096) (hst : St w.heap.size wo w.heap.size (metL V X k)) (hv : (Lit.int .i32 (V k)).wf = true) (hx : (Lit.int .i64 (X k)).wf = true)
    (hy : ((firstAt V (V k) k).map X).getD (X k) = y) (e : w'.heap = wo.heap) (hb : Below w.heap.size w w') :
    Calls Try.prog 25 #[.pointer (some ⟨w.heap.size, 0, none⟩), .int .i32 (V k), .int .i64 (X k)] w' fun e w2 => e = .returned (.int .i64 y) ∧ St w.heap.size w2 w.heap.size (metL V X (k + 1)) ∧ Below w.heap.size w w2 := by
  have hle := metL_le V X k
  refine (zzMeet w.heap.size w' w.heap.size (metL V X k) (V k) (X k) (hst.of_heap e) (by omega) hv hx).mono ?_
  rintro e w2 ⟨rfl, h2, hb2⟩
  rw [find_met, hy]
  exact ⟨rfl, h2, hb.trans hb2⟩

theorem len_some {V X : Nat → Int} {k m : Nat} (h : firstAt V (V k) k = some m) : (metL V X (k + 1)).length = (metL V X k).length := by
  show (meetL _ _ _).length = _
  rw [meetL_length, find_met, h]
  rfl
theorem len_none {V X : Nat → Int} {k : Nat} (h : firstAt V (V k) k = none) : (metL V X (k + 1)).length = (metL V X k).length + 1 := by
  show (meetL _ _ _).length = _
  rw [meetL_length, find_met, h]
  rfl

set_option maxHeartbeats 1600000 in
theorem walk_main (b0 o0 n0 c0 b1 o1 n1 c1 N : Nat) (V X : Nat → Int) (w : World) (h0 : n0 ≤ 262144) (h1 : n1 ≤ 131072) (hN : N ≤ 4096) (hN0 : N ≤ n0) (hN1 : N ≤ n1) (hNN : N = n0 ∨ N = n1)
    (hV : ∀ i, i < N → w.cell? ⟨b0, o0 + i, none⟩ = some (.int .i32 (V i))) (hX : ∀ i, i < N → w.cell? ⟨b1, o1 + i, none⟩ = some (.int .i64 (X i)))
    (hwV : ∀ i, i < N → (Lit.int .i32 (V i)).wf = true) (hwX : ∀ i, i < N → (Lit.int .i64 (X i)).wf = true) :
    Calls Try.prog 6 #[.slice (some ⟨b0, o0, none⟩) n0 c0, .slice (some ⟨b1, o1, none⟩) n1 c1] w fun e w' => e = .returned (.bool true) ∧ Below w.heap.size w w' := by
  have HB := hide (bytes_ok (some ⟨b0, o0, none⟩) (some ⟨b1, o1, none⟩) n0 c0 n1 c1 w (by omega))
  have HN := hide (new_any w)
  have HV := hide hV
  have HX := hide hX
  have HWV := hide hwV
  have HWX := hide hwX
  clear hV hX hwV hwX
  go_enter Try.func6, Try.ntmps6
  go_upto_if 29 with (go_at_call 23; refine HB.out.mono ?_; rintro e w' ⟨rfl, rfl⟩)
  go_cut [5] (fun s5 wx => s5 = .int .i64 N ∧ w = wx)
  case first =>
    by_cases hl : n1 < n0
    · obtain rfl : N = n1 := by omega
      go_wp2_with fail
      go_meet
      exact ⟨rfl, rfl⟩
    · obtain rfl : N = n0 := by omega
      go_wp2_with fail
      go_meet
      exact ⟨rfl, rfl⟩
  case rest =>
    obtain ⟨rfl, rfl⟩ := hcut
    go_wp2_with (go_at_call 24; refine HN.out.mono ?_; rintro e w1 ⟨rfl, hrow, hbel⟩; replace hrow := hide hrow; replace hbel := hide hbel)
    go_loopw [7, 8] (fun d i wr => ∃ k : Nat, k ≤ N ∧ i = .int .i64 k ∧ d = .int .i64 (metL V X k).length ∧ St w.heap.size wr w.heap.size (metL V X k) ∧ Below w.heap.size w wr) (fun _ i _ => N - (intOf i).toNat)
    case atStart => exact ⟨0, by omega, rfl, rfl, ⟨Nat.le_refl _, fun j hj => absurd hj (by simp [metL]), .inl ⟨_, _, by simp [metL], hrow.out, fun j hj => absurd hj (by simp [metL]), fun i j _ hj => absurd hj (by simp [metL])⟩⟩, hbel.out⟩
    case round =>
      obtain ⟨k, hk, rfl, rfl, hst, hb⟩ := hrel
      obtain ⟨wo, rfl⟩ : ∃ wo, wo = wr := ⟨_, rfl⟩
      by_cases hlt : k < N
      · have hkN : (k : Int) < (N : Int) := by omega
        have cV : wo.cell? ⟨b0, o0 + k, none⟩ = some (.int .i32 (V k)) := cell_later hb (HV.out k hlt)
        have cX : wo.cell? ⟨b1, o1 + k, none⟩ = some (.int .i64 (X k)) := cell_later hb (HX.out k hlt)
        have HCV := hide (show ∀ m, m < k → wo.cell? ⟨b0, o0 + m, none⟩ = some (.int .i32 (V m)) from fun m hm => cell_later hb (HV.out m (by omega)))
        have HCX := hide (show ∀ m, m < k → wo.cell? ⟨b1, o1 + m, none⟩ = some (.int .i64 (X m)) from fun m hm => cell_later hb (HX.out m (by omega)))
        have HST := hide hst
        have HBE := hide hb
        have HLE := hide (metL_le V X k)
        clear hst hb
        go_wp2
        go_loopw [9, 10, 11] (fun s9 s10 j wq => ∃ m : Nat, m ≤ k ∧ s9 = .int .i64 (X k) ∧ s10 = .bool false ∧ j = .int .i64 m ∧ (∀ t, t < m → V t ≠ V k) ∧ ∃ q, wq = wo.drewN q) (fun _ _ j _ => k - (intOf j).toNat)
        case atStart => exact ⟨0, by omega, rfl, rfl, rfl, fun t ht => by omega, 0, rfl⟩
        case round =>
          obtain ⟨m, hm, rfl, rfl, rfl, hne, q, rfl⟩ := hrel
          have HNE := hide hne
          clear hne
          by_cases hmk : m < k
          · have hmI : (m : Int) < (k : Int) := by omega
            have cV2 := HCV.out m hmk
            have cX2 := HCX.out m hmk
            have hmN : m < N := by omega
            by_cases hq : (V m == V k) = true
            · have HF := hide (show firstAt V (V k) k = some m from firstAt_some hmk (by simpa using hq) HNE.out)
              have HZ := hide (show ∀ w' : World, w'.heap = wo.heap → Below w.heap.size w w' → _ from fun w' e hb => step_call V X k (X m) w wo w' (by omega) HST.out (HWV.out k hlt) (HWX.out k hlt) (by rw [HF.out]; rfl) e hb)
              have LEN := hide (len_some (X := X) HF.out)
              go_wp2
              go_quiet (fail)
              go_upto_region 25 with fail
              go_cut [77] (fun s77 wx => s77 = .bool false ∧ St w.heap.size wx w.heap.size (metL V X (k + 1)) ∧ Below w.heap.size w wx)
              case first =>
                go_region_with (go_at_call 25; refine (HZ.out (wo.drewN _) rfl (below_drewN HBE.out _)).mono ?_; rintro e w2 ⟨rfl, hst2, hb2⟩; replace hst2 := hide hst2; replace hb2 := hide hb2)
                all_goals (go_wp2_with fail; go_meet; exact ⟨rfl, hst2.out, hb2.out⟩)
              case rest =>
                obtain ⟨rfl, hst3, hb3⟩ := hcut
                have HM := hide (met_any w.heap.size _ wc hst3.row.1)
                replace hst3 := hide hst3
                replace hb3 := hide hb3
                rw [LEN.out] at HM
                go_wp2_with (go_at_call 26; refine HM.out.mono ?_; rintro e w4 ⟨rfl, rfl⟩)
                go_roundw
                case rel => exact ⟨k + 1, by omega, by go_num, by rw [LEN.out], hst3.out, hb3.out⟩
                case measure => simp [intOf]; omega
            · have hq' : (V m == V k) = false := by simpa using hq
              go_wp2
              go_quiet (fail)
              go_wp2
              go_roundw
              case rel => exact ⟨m + 1, by omega, rfl, rfl, by go_num, fun t ht => by
                rcases Nat.lt_or_ge t m with h | h
                · exact HNE.out t h
                · obtain rfl : t = m := by omega
                  simpa using hq, _, rfl⟩
              case measure => simp [intOf]; omega
          · obtain rfl : m = k := by omega
            have HF := hide (show firstAt V (V m) m = none from firstAt_none HNE.out)
            have HZ := hide (show ∀ w' : World, w'.heap = wo.heap → Below w.heap.size w w' → _ from fun w' e hb => step_call V X m (X m) w wo w' (by omega) HST.out (HWV.out m hlt) (HWX.out m hlt) (by rw [HF.out]; rfl) e hb)
            have LEN := hide (len_none (X := X) HF.out)
            obtain ⟨dl, hdl⟩ : ∃ dl, (metL V X m).length = dl := ⟨_, rfl⟩
            rw [hdl] at LEN
            rw [hdl]
            have hle : dl ≤ 4096 := by rw [← hdl]; have := HLE.out; omega
            replace hdl := hide hdl
            go_upto_region 25 with fail
            go_cut [77] (fun s77 wx => s77 = .bool false ∧ St w.heap.size wx w.heap.size (metL V X (m + 1)) ∧ Below w.heap.size w wx)
            case first =>
              go_region_with (go_at_call 25; refine (HZ.out (wo.drewN _) rfl (below_drewN HBE.out _)).mono ?_; rintro e w2 ⟨rfl, hst2, hb2⟩; replace hst2 := hide hst2; replace hb2 := hide hb2)
              all_goals (go_wp2_with fail; go_meet; exact ⟨rfl, hst2.out, hb2.out⟩)
            case rest =>
              obtain ⟨rfl, hst3, hb3⟩ := hcut
              have HM := hide (met_any w.heap.size _ wc hst3.row.1)
              replace hst3 := hide hst3
              replace hb3 := hide hb3
              rw [LEN.out] at HM
              go_wp2_with (go_at_call 26; refine HM.out.mono ?_; rintro e w4 ⟨rfl, rfl⟩)
              go_roundw
              case rel => exact ⟨m + 1, by omega, by go_num, by rw [LEN.out]; go_num, hst3.out, hb3.out⟩
              case measure => simp [intOf]; omega
      · obtain rfl : k = N := by omega
        have HBE := hide hb
        clear hst hb
        go_wp2
        go_ret
        exact ⟨rfl, HBE.out⟩

end Go.Proofs.Qxb6604010a
