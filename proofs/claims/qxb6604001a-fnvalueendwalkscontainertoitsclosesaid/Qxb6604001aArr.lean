/-
  SEAT b6604001a: THE WALKS OF zzB1JArray AND zzB1JObject, under the contract of zzB1JValue at greater places.
-/
import Derived.Test.Qxb6604001aStr
import Derived.Deep.DeepCutAuto
namespace Go.Proofs.Qxb6604001a
open Go.RowKit
set_option maxRecDepth 100000

/-- WHAT zzB1JValue DOES AT i: -1, or the end of a value that lies there. -/
def JV (b N c : Nat) (d : Nat → Int) (i : Nat) : Prop := ∀ w : World, b < w.heap.size → Data w b N d →
  Calls Try.prog 20 #[.slice (some ⟨b, 0, none⟩) N c, .int .i64 i] w fun e w' => Below w.heap.size w w' ∧ (e = .returned (.int .i64 (-1)) ∨ ∃ v : Nat, e = .returned (.int .i64 v) ∧ Good d N i v)

theorem jWs_at (b N c : Nat) (x : Int) (a : Nat) (d : Nat → Int) (w : World) (hN : N ≤ 65536) (ha : a ≤ N) (hd : Data w b N d) (hx : x = (a : Int)) :
    Calls Try.prog 32 #[.slice (some ⟨b, 0, none⟩) N c, .int .i64 x] w fun e w' => ∃ p : Nat, e = .returned (.int .i64 p) ∧ WsTo d N a p ∧ (p < N → isWs (d p) = false) ∧ w = w' := by
  subst hx; exact jWs_any b N c a d w hN ha hd

set_option maxHeartbeats 1600000 in
theorem jArray_any (b N c i : Nat) (d : Nat → Int) (w : World) (hN : N ≤ 65536) (hi : i < N) (h91 : d i = 91) (hb : b < w.heap.size) (hd : Data w b N d) (hJ : ∀ j, i < j → JV b N c d j) :
    Calls Try.prog 24 #[.slice (some ⟨b, 0, none⟩) N c, .int .i64 i] w fun e w' => Below w.heap.size w w' ∧ (e = .returned (.int .i64 (-1)) ∨ ∃ v : Nat, e = .returned (.int .i64 v) ∧ Good d N i v) := by
  have HJ := hide hJ
  have HO := hide (show isOpen (d i) = true ∧ isSep (d i) = false by rw [h91]; exact ⟨rfl, rfl⟩)
  have HD := hide hd
  clear hJ h91 hd
  go_enter Try.func24, Try.ntmps24
  go_wp2_with fail
  refine (jWs_at b N c _ (i + 1) d w hN (by omega) HD.out (by omega)).mono ?_
  rintro e w1 ⟨j0, rfl, hw0, _, rfl⟩
  have hj0 := hw0.2.1
  have hij0 := hw0.1
  have HU := hide (upto_start hw0)
  clear hw0
  by_cases hfast : j0 < N ∧ d j0 = 93
  · obtain ⟨hl0, h93⟩ := hfast
    have hc := HD.out j0 hl0
    rw [h93] at hc
    have HG := hide (upto_close hi HO.out.1 HO.out.2 HU.out hl0 (by rw [h93]; rfl))
    have hlI : (j0 : Int) < (N : Int) := by omega
    clear h93
    go_wp2_with fail
    go_ret
    exact ⟨Below.refl _ _, .inr ⟨j0 + 1, by go_num, HG.out⟩⟩
  go_upto_region 2 with fail
  go_cut [21] (fun s21 wx => s21 = .bool false ∧ w = wx)
  case first =>
    by_cases hl0 : j0 < N
    · have hc := HD.out j0 hl0
      have hlI : (j0 : Int) < (N : Int) := by omega
      have hne : (d j0 == 93) = false := by simpa using fun e => hfast ⟨hl0, e⟩
      clear hfast
      go_wp2_with fail
      go_meet
      exact ⟨rfl, rfl⟩
    · have hlI : ¬ ((j0 : Int) < (N : Int)) := by omega
      clear hfast
      go_wp2_with fail
      go_meet
      exact ⟨rfl, rfl⟩
  case rest =>
  obtain ⟨rfl, rfl⟩ := hcut
  clear hfast
  go_wp2_with fail
  go_loopw [5] (fun t wr => ∃ j : Nat, t = .int .i64 j ∧ Upto d N i j ∧ Below w.heap.size w wr) (fun t _ => N + 1 - (intOf t).toNat)
  case atStart => exact ⟨j0, rfl, HU.out, Below.refl _ _⟩
  case round =>
    obtain ⟨j, rfl, hu, hbel⟩ := hrel
    have hij := hu.lt
    have hjN := hu.le
    have hbr : b < wr.heap.size := Nat.lt_of_lt_of_le hb hbel.size
    have HR := hide (show _ ∧ _ ∧ _ from ⟨hu, hbel, HD.out.below hbel hb⟩)
    clear hu hbel
    go_wp2_with fail
    refine (HJ.out j hij wr hbr HR.out.2.2).mono ?_
    rintro e w1 ⟨hb1, he⟩
    have hb1' : Below w.heap.size w w1 := HR.out.2.1.trans (hb1.mono HR.out.2.1.size)
    have hbr1 : b < w1.heap.size := Nat.lt_of_lt_of_le hb hb1'.size
    have H1 := hide (show _ ∧ _ from ⟨hb1', HD.out.below hb1' hb⟩)
    clear hb1 hb1'
    rcases he with rfl | ⟨v, rfl, hg⟩
    · go_wp2_with fail
      go_ret
      exact ⟨H1.out.1, .inl rfl⟩
    have hvN := hg.le
    have hjv := hg.lt
    have HG := hide hg
    clear hg
    go_wp2_with fail
    refine (jWs_at b N c _ v d w1 hN hvN H1.out.2 rfl).mono ?_
    rintro e w2 ⟨j1, rfl, hw1, _, rfl⟩
    have hj1N := hw1.2.1
    have hvj1 := hw1.1
    have HW := hide hw1
    clear hw1
    by_cases hl1 : j1 < N
    · have hc1 := H1.out.2 j1 hl1
      have hlI : (j1 : Int) < (N : Int) := by omega
      by_cases h93 : d j1 = 93
      · rw [h93] at hc1
        have HF := hide (upto_close hi HO.out.1 HO.out.2 (upto_value HR.out.1 HG.out HW.out hl1 (by rw [h93]; rfl)) hl1 (by rw [h93]; rfl))
        clear h93
        go_wp2_with fail
        go_ret
        exact ⟨H1.out.1, .inr ⟨j1 + 1, by go_num, HF.out⟩⟩
      have h93' : (d j1 == 93) = false := by simpa using h93
      clear h93
      by_cases h44 : d j1 = 44
      · rw [h44] at hc1 h93'
        have HF := hide (upto_value HR.out.1 HG.out HW.out hl1 (by rw [h44]; rfl))
        have HS := hide (show isSep (d j1) = true by rw [h44]; rfl)
        clear h44
        go_wp2_with fail
        refine (jWs_at b N c _ (j1 + 1) d w1 hN (by omega) H1.out.2 (by omega)).mono ?_
        rintro e w3 ⟨j2, rfl, hw2, _, rfl⟩
        have hj2N := hw2.2.1
        have hj12 := hw2.1
        have HE := hide (upto_sep HF.out HS.out hw2)
        clear hw2
        go_wp2_with fail
        go_roundw
        case rel => exact ⟨j2, rfl, HE.out, H1.out.1⟩
        case measure => simp [intOf]; omega
      · have h44' : (d j1 != 44) = true := by rw [bne_iff_ne]; exact h44
        clear h44
        go_wp2_with fail
        go_ret
        exact ⟨H1.out.1, .inl rfl⟩
    · have hlI : (N : Int) ≤ (j1 : Int) := by omega
      go_wp2_with fail
      go_ret
      exact ⟨H1.out.1, .inl rfl⟩

set_option maxHeartbeats 1600000 in
theorem jObject_any (b N c i : Nat) (d : Nat → Int) (w : World) (hN : N ≤ 65536) (hi : i < N) (h123 : d i = 123) (hb : b < w.heap.size) (hd : Data w b N d) (hJ : ∀ j, i < j → JV b N c d j) :
    Calls Try.prog 25 #[.slice (some ⟨b, 0, none⟩) N c, .int .i64 i] w fun e w' => Below w.heap.size w w' ∧ (e = .returned (.int .i64 (-1)) ∨ ∃ v : Nat, e = .returned (.int .i64 v) ∧ Good d N i v) := by
  have HJ := hide hJ
  have HO := hide (show isOpen (d i) = true ∧ isSep (d i) = false by rw [h123]; exact ⟨rfl, rfl⟩)
  have HD := hide hd
  clear hJ h123 hd
  go_enter Try.func25, Try.ntmps25
  go_wp2_with fail
  refine (jWs_at b N c _ (i + 1) d w hN (by omega) HD.out (by omega)).mono ?_
  rintro e w1 ⟨j0, rfl, hw0, _, rfl⟩
  have hj0 := hw0.2.1
  have hij0 := hw0.1
  have HU := hide (upto_start hw0)
  clear hw0
  by_cases hfast : j0 < N ∧ d j0 = 125
  · obtain ⟨hl0, h93⟩ := hfast
    have hc := HD.out j0 hl0
    rw [h93] at hc
    have HG := hide (upto_close hi HO.out.1 HO.out.2 HU.out hl0 (by rw [h93]; rfl))
    have hlI : (j0 : Int) < (N : Int) := by omega
    clear h93
    go_wp2_with fail
    go_ret
    exact ⟨Below.refl _ _, .inr ⟨j0 + 1, by go_num, HG.out⟩⟩
  go_upto_region 2 with fail
  go_cut [22] (fun s22 wx => s22 = .bool false ∧ w = wx)
  case first =>
    by_cases hl0 : j0 < N
    · have hc := HD.out j0 hl0
      have hlI : (j0 : Int) < (N : Int) := by omega
      have hne : (d j0 == 125) = false := by simpa using fun e => hfast ⟨hl0, e⟩
      clear hfast
      go_wp2_with fail
      go_meet
      exact ⟨rfl, rfl⟩
    · have hlI : ¬ ((j0 : Int) < (N : Int)) := by omega
      clear hfast
      go_wp2_with fail
      go_meet
      exact ⟨rfl, rfl⟩
  case rest =>
  obtain ⟨rfl, rfl⟩ := hcut
  clear hfast
  go_wp2_with fail
  go_loopw [5] (fun t wr => ∃ j : Nat, t = .int .i64 j ∧ Upto d N i j ∧ Below w.heap.size w wr) (fun t _ => N + 1 - (intOf t).toNat)
  case atStart => exact ⟨j0, rfl, HU.out, Below.refl _ _⟩
  case round =>
    obtain ⟨j, rfl, hu, hbel⟩ := hrel
    have hij := hu.lt
    have hjN := hu.le
    have hbr : b < wr.heap.size := Nat.lt_of_lt_of_le hb hbel.size
    have HR := hide (show _ ∧ _ ∧ _ from ⟨hu, hbel, HD.out.below hbel hb⟩)
    clear hu hbel
    by_cases hjl : j < N
    · have hcj := HR.out.2.2 j hjl
      have hjI : (j : Int) < (N : Int) := by omega
      by_cases h34 : d j = 34
      · rw [h34] at hcj
        have H34 := hide h34
        clear h34
        go_wp2_with fail
        refine (jString_any b N c j d wr hN hjl HR.out.2.2).mono ?_
        rintro e w1 ⟨rfl, he⟩
        rcases he with rfl | ⟨k, rfl, hs⟩
        · go_wp2_with fail
          go_ret
          exact ⟨HR.out.2.1, .inl rfl⟩
        have HK := hide (good_str hjl H34.out hs)
        have hkN := HK.out.le
        have hjk := HK.out.lt
        clear hs
        go_wp2_with fail
        refine (jWs_at b N c _ k d wr hN hkN HR.out.2.2 rfl).mono ?_
        rintro e w2 ⟨j1, rfl, hw1, _, rfl⟩
        have hj1N := hw1.2.1
        have hkj1 := hw1.1
        have HW := hide hw1
        clear hw1
        by_cases hl1 : j1 < N
        · have hc1 := HR.out.2.2 j1 hl1
          have hl1I : (j1 : Int) < (N : Int) := by omega
          by_cases h58 : d j1 = 58
          · rw [h58] at hc1
            have HF := hide (upto_value HR.out.1 HK.out HW.out hl1 (by rw [h58]; rfl))
            have HS := hide (show isSep (d j1) = true by rw [h58]; rfl)
            clear h58
            go_wp2_with fail
            refine (jWs_at b N c _ (j1 + 1) d wr hN (by omega) HR.out.2.2 (by omega)).mono ?_
            rintro e w3 ⟨j2, rfl, hw2, _, rfl⟩
            have hj2N := hw2.2.1
            have hj12 := hw2.1
            have HE := hide (upto_sep HF.out HS.out hw2)
            clear hw2
            go_wp2_with fail
            refine (HJ.out j2 (by omega) wr hbr HR.out.2.2).mono ?_
            rintro e w4 ⟨hb4, he⟩
            have hb4' : Below w.heap.size w w4 := HR.out.2.1.trans (hb4.mono HR.out.2.1.size)
            have H4 := hide (show _ ∧ _ from ⟨hb4', HD.out.below hb4' hb⟩)
            clear hb4 hb4'
            rcases he with rfl | ⟨v, rfl, hg⟩
            · go_wp2_with fail
              go_ret
              exact ⟨H4.out.1, .inl rfl⟩
            have hvN := hg.le
            have hjv := hg.lt
            have HG := hide hg
            clear hg
            go_wp2_with fail
            refine (jWs_at b N c _ v d w4 hN hvN H4.out.2 rfl).mono ?_
            rintro e w5 ⟨j3, rfl, hw3, _, rfl⟩
            have hj3N := hw3.2.1
            have hvj3 := hw3.1
            have HW3 := hide hw3
            clear hw3
            by_cases hl3 : j3 < N
            · have hc3 := H4.out.2 j3 hl3
              have hl3I : (j3 : Int) < (N : Int) := by omega
              by_cases h125 : d j3 = 125
              · rw [h125] at hc3
                have HZ := hide (upto_close hi HO.out.1 HO.out.2 (upto_value HE.out HG.out HW3.out hl3 (by rw [h125]; rfl)) hl3 (by rw [h125]; rfl))
                clear h125
                go_wp2_with fail
                go_ret
                exact ⟨H4.out.1, .inr ⟨j3 + 1, by go_num, HZ.out⟩⟩
              have h125' : (d j3 == 125) = false := by simpa using h125
              clear h125
              by_cases h44 : d j3 = 44
              · rw [h44] at hc3 h125'
                have HZ := hide (upto_value HE.out HG.out HW3.out hl3 (by rw [h44]; rfl))
                have HSS := hide (show isSep (d j3) = true by rw [h44]; rfl)
                clear h44
                go_wp2_with fail
                refine (jWs_at b N c _ (j3 + 1) d w4 hN (by omega) H4.out.2 (by omega)).mono ?_
                rintro e w6 ⟨j4, rfl, hw4, _, rfl⟩
                have hj4N := hw4.2.1
                have hj34 := hw4.1
                have HY := hide (upto_sep HZ.out HSS.out hw4)
                clear hw4
                go_wp2_with fail
                go_roundw
                case rel => exact ⟨j4, rfl, HY.out, H4.out.1⟩
                case measure => simp [intOf]; omega
              · have h44' : (d j3 != 44) = true := by rw [bne_iff_ne]; exact h44
                clear h44
                go_wp2_with fail
                go_ret
                exact ⟨H4.out.1, .inl rfl⟩
            · have hl3I : (N : Int) ≤ (j3 : Int) := by omega
              go_wp2_with fail
              go_ret
              exact ⟨H4.out.1, .inl rfl⟩
          · have h58' : (d j1 != 58) = true := by rw [bne_iff_ne]; exact h58
            clear h58
            go_wp2_with fail
            go_ret
            exact ⟨HR.out.2.1, .inl rfl⟩
        · have hl1I : (N : Int) ≤ (j1 : Int) := by omega
          go_wp2_with fail
          go_ret
          exact ⟨HR.out.2.1, .inl rfl⟩
      · have h34' : (d j != 34) = true := by rw [bne_iff_ne]; exact h34
        clear h34
        go_wp2_with fail
        go_ret
        exact ⟨HR.out.2.1, .inl rfl⟩
    · have hjI : (N : Int) ≤ (j : Int) := by omega
      go_wp2_with fail
      go_ret
      exact ⟨HR.out.2.1, .inl rfl⟩

end Go.Proofs.Qxb6604001a
