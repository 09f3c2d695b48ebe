/-
  SEAT b6604001a: THE WALK OF zzB1JString.
-/
import Derived.Test.Qxb6604001aBytes
namespace Go.Proofs.Qxb6604001a
open Go.RowKit
set_option maxRecDepth 100000

set_option maxHeartbeats 1600000 in
theorem jString_any (b N c i : Nat) (d : Nat → Int) (w : World) (hN : N ≤ 65536) (hi : i < N) (hd : Data w b N d) :
    Calls Try.prog 23 #[.slice (some ⟨b, 0, none⟩) N c, .int .i64 i] w fun e w' => w = w' ∧ (e = .returned (.int .i64 (-1)) ∨ ∃ v : Nat, e = .returned (.int .i64 v) ∧ StrE d N i v) := by
  go_enter Try.func23, Try.ntmps23
  go_wp2
  go_loop [5] (fun t => ∃ j : Nat, i < j ∧ j ≤ N ∧ t = .int .i64 j ∧ StrPass d N (i + 1) j) (fun t => N - (intOf t).toNat)
  case atStart => exact ⟨i + 1, by omega, by omega, by go_num, strpass_refl _⟩
  case round =>
    obtain ⟨j, hij, hjN, rfl, hpass⟩ := hrel
    have HP := hide hpass
    clear hpass
    by_cases hlt : j < N
    · have hc := hd j hlt
      have hji : (j : Int) < (N : Int) := by omega
      by_cases hq : d j = 34
      · have HE := hide (str_end HP.out hlt hq)
        rw [hq] at hc
        clear hq
        go_wp2
        go_ret
        exact ⟨rfl, .inr ⟨j + 1, by go_num, HE.out⟩⟩
      have hq' : (d j == 34) = false := by simpa using hq
      by_cases hlow : d j < 32
      · go_wp2
        go_ret
        exact ⟨rfl, .inl rfl⟩
      by_cases hbs : d j = 92
      · rw [hbs] at hc
        by_cases hj1 : N ≤ j + 1
        · have hj1' : (N : Int) ≤ (j : Int) + 1 := by omega
          clear hq hq' hlow hbs
          go_wp2
          go_ret
          exact ⟨rfl, .inl rfl⟩
        have hj1' : (j : Int) + 1 < (N : Int) := by omega
        have hc1 := hd (j + 1) (by omega)
        have HX := hide (strpass_trans HP.out (strpass_esc hlt hbs))
        clear hq hq' hlow hbs
        by_cases hu : d (j + 1) = 117
        · rw [hu] at hc1
          by_cases hj6 : N < j + 6
          · have hj6' : (N : Int) < (j : Int) + 6 := by omega
            clear hu
            go_wp2
            go_ret
            exact ⟨rfl, .inl rfl⟩
          have hj6' : ¬ ((N : Int) < (j : Int) + 6) := by omega
          clear hu
          go_wp2
          go_loop [8] (fun t => ∃ k : Nat, j + 2 ≤ k ∧ k ≤ j + 6 ∧ t = .int .i64 k ∧ ∀ q, j + 2 ≤ q → q < k → isHex (d q) = true) (fun t => j + 6 - (intOf t).toNat)
          case atStart => exact ⟨j + 2, by omega, by omega, by go_num, fun q h1 h2 => absurd h2 (by omega)⟩
          case round =>
            obtain ⟨k, hk2, hk6, rfl, hhex⟩ := hrel
            have HH := hide hhex
            clear hhex
            by_cases hk : k < j + 6
            · have hck := hd k (by omega)
              have hki : (k : Int) < (j : Int) + 6 := by omega
              have hkN : (k : Int) < (N : Int) := by omega
              cases hx : isHex (d k) with
              | true =>
                go_wp2_with (go_at_call 31; refine (isHex_any _ _).mono ?_; rintro e w' ⟨rfl, rfl⟩)
                go_round
                case rel =>
                  refine ⟨k + 1, by omega, by omega, by go_num, fun q h1 h2 => ?_⟩
                  by_cases e : q = k
                  · rw [e]; exact hx
                  · exact HH.out q h1 (by omega)
                case measure => simp [intOf]; omega
              | false =>
                go_wp2_with (go_at_call 31; refine (isHex_any _ _).mono ?_; rintro e w' ⟨rfl, rfl⟩)
                go_ret
                exact ⟨rfl, .inl rfl⟩
            · have hki : ¬ ((k : Int) < (j : Int) + 6) := by omega
              have HY := hide (strpass_trans HX.out (strpass_hex (by omega) (by omega) (fun q h1 h2 => HH.out q h1 (by omega : q < k)) : StrPass d N (j + 2) (j + 6)))
              go_wp2
              go_round
              case rel => exact ⟨j + 6, by omega, by omega, by go_num, HY.out⟩
              case measure => simp [intOf]; omega
        have hu' : (d (j + 1) == 117) = false := by simpa using hu
        clear hu
        by_cases h0 : d (j + 1) = 34
        · rw [h0] at hc1 hu'
          clear h0
          go_wp2
          go_round
          case rel => exact ⟨j + 2, by omega, by omega, by go_num, HX.out⟩
          case measure => simp [intOf]; omega
        by_cases h1 : d (j + 1) = 92
        · rw [h1] at hc1 hu'
          clear h1
          go_wp2
          go_round
          case rel => exact ⟨j + 2, by omega, by omega, by go_num, HX.out⟩
          case measure => simp [intOf]; omega
        by_cases h2 : d (j + 1) = 47
        · rw [h2] at hc1 hu'
          clear h2
          go_wp2
          go_round
          case rel => exact ⟨j + 2, by omega, by omega, by go_num, HX.out⟩
          case measure => simp [intOf]; omega
        by_cases h3 : d (j + 1) = 98
        · rw [h3] at hc1 hu'
          clear h3
          go_wp2
          go_round
          case rel => exact ⟨j + 2, by omega, by omega, by go_num, HX.out⟩
          case measure => simp [intOf]; omega
        by_cases h4 : d (j + 1) = 102
        · rw [h4] at hc1 hu'
          clear h4
          go_wp2
          go_round
          case rel => exact ⟨j + 2, by omega, by omega, by go_num, HX.out⟩
          case measure => simp [intOf]; omega
        by_cases h5 : d (j + 1) = 110
        · rw [h5] at hc1 hu'
          clear h5
          go_wp2
          go_round
          case rel => exact ⟨j + 2, by omega, by omega, by go_num, HX.out⟩
          case measure => simp [intOf]; omega
        by_cases h6 : d (j + 1) = 114
        · rw [h6] at hc1 hu'
          clear h6
          go_wp2
          go_round
          case rel => exact ⟨j + 2, by omega, by omega, by go_num, HX.out⟩
          case measure => simp [intOf]; omega
        by_cases h7 : d (j + 1) = 116
        · rw [h7] at hc1 hu'
          clear h7
          go_wp2
          go_round
          case rel => exact ⟨j + 2, by omega, by omega, by go_num, HX.out⟩
          case measure => simp [intOf]; omega
        have g0 : (d (j + 1) == 34) = false := by simpa using h0
        have g1 : (d (j + 1) == 92) = false := by simpa using h1
        have g2 : (d (j + 1) == 47) = false := by simpa using h2
        have g3 : (d (j + 1) == 98) = false := by simpa using h3
        have g4 : (d (j + 1) == 102) = false := by simpa using h4
        have g5 : (d (j + 1) == 110) = false := by simpa using h5
        have g6 : (d (j + 1) == 114) = false := by simpa using h6
        have g7 : (d (j + 1) == 116) = false := by simpa using h7
        clear h0 h1 h2 h3 h4 h5 h6 h7
        go_wp2
        go_ret
        exact ⟨rfl, .inl rfl⟩
      · have hbs' : (d j == 92) = false := by simpa using hbs
        have HX := hide (strpass_trans HP.out (strpass_step hlt hq hbs))
        clear hq hbs
        go_wp2
        go_round
        case rel => exact ⟨j + 1, by omega, by omega, by go_num, HX.out⟩
        case measure => simp [intOf]; omega
    · go_wp2
      go_ret
      exact ⟨rfl, .inl rfl⟩

end Go.Proofs.Qxb6604001a
