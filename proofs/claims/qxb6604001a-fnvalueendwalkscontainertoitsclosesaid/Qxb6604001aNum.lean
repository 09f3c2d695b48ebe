/-
  SEAT b6604001a: THE WALK OF zzB1JNumber.
-/
import Derived.Test.Qxb6604001aBytes
import Derived.Deep.DeepCutAuto
namespace Go.Proofs.Qxb6604001a
open Go.RowKit
set_option maxRecDepth 100000

/-- From i to k there are bytes of a number alone. -/
def NumTo (d : Nat → Int) (N i k : Nat) : Prop := i ≤ k ∧ k ≤ N ∧ ∀ q, i ≤ q → q < k → isNum (d q) = true

theorem NumTo.step {d : Nat → Int} {N i k : Nat} (h : NumTo d N i k) (hk : k < N) (hn : isNum (d k) = true) : NumTo d N i (k + 1) :=
  ⟨by have := h.1; omega, hk, fun q h1 h2 => by
    by_cases e : q = k
    · rw [e]; exact hn
    · exact h.2.2 q h1 (by omega)⟩
theorem num_of_dig {c : Int} (h : isDig c = true) : isNum c = true := by simp [isNum, h]

/-- Is there a point at m? -/
def dotAt (d : Nat → Int) (N m : Nat) : Bool := decide (m < N) && d m == 46
theorem dotAt_yes {d : Nat → Int} {N m : Nat} (h : dotAt d N m = true) : m < N ∧ d m = 46 := by
  simpa [dotAt] using h

/-- .. the mark of an exponent? -/
def expAt (d : Nat → Int) (N m : Nat) : Bool := decide (m < N) && (d m == 101 || d m == 69)
theorem expAt_yes {d : Nat → Int} {N m : Nat} (h : expAt d N m = true) : m < N ∧ (d m = 101 ∨ d m = 69) := by
  simpa [expAt] using h
/-- .. a sign? -/
def signAt (d : Nat → Int) (N m : Nat) : Bool := decide (m < N) && (d m == 43 || d m == 45)
theorem signAt_yes {d : Nat → Int} {N m : Nat} (h : signAt d N m = true) : m < N ∧ (d m = 43 ∨ d m = 45) := by
  simpa [signAt] using h

set_option maxHeartbeats 6400000 in
theorem jNumber_any (b N c i : Nat) (d : Nat → Int) (w : World) (hN : N ≤ 65536) (hi : i < N) (hd : Data w b N d) :
    Calls Try.prog 28 #[.slice (some ⟨b, 0, none⟩) N c, .int .i64 i] w fun e w' => w = w' ∧ (e = .returned (.int .i64 (-1)) ∨ ∃ v : Nat, e = .returned (.int .i64 v) ∧ i < v ∧ NumTo d N i v) := by
  have h0 : NumTo d N i i := ⟨Nat.le_refl _, by omega, fun q h1 h2 => absurd h2 (by omega)⟩
  have H0 := hide h0
  clear h0
  have hc := hd i hi
  have hiN : (i : Int) < (N : Int) := by omega
  go_enter Try.func28, Try.ntmps28
  go_upto_if 11 with fail
  go_cut [5] (fun s5 wx => ∃ k : Nat, s5 = .int .i64 k ∧ NumTo d N i k ∧ w = wx)
  case first =>
    by_cases hm : d i = 45
    · have H1 := hide (H0.out.step hi (by rw [hm]; rfl))
      have hm' : (d i == 45) = true := by simpa using hm
      clear hm
      go_wp2_with fail
      go_meet
      exact ⟨i + 1, by go_num, H1.out, rfl⟩
    · have hm' : (d i == 45) = false := by simpa using hm
      clear hm
      go_wp2_with fail
      go_meet
      exact ⟨i, rfl, H0.out, rfl⟩
  case rest =>
  obtain ⟨k, rfl, hk, rfl⟩ := hcut
  have hki := hk.1
  have hkN := hk.2.1
  have H1 := hide hk
  clear hk hc
  by_cases hlt : k < N
  · have hc := hd k hlt
    have hkI : (k : Int) < (N : Int) := by omega
    cases hdig : isDig (d k) with
    | false =>
      go_wp2_with (go_at_call 27; refine (isDig_any _ _).mono ?_; rintro e w' ⟨rfl, rfl⟩)
      go_ret
      exact ⟨rfl, .inl rfl⟩
    | true =>
      have HD := hide (H1.out.step hlt (num_of_dig hdig))
      have hNk : decide (N ≤ k) = false := decide_eq_false (by omega)
      obtain ⟨zb, hzb⟩ : ∃ zb, (d k == 48) = zb := ⟨_, rfl⟩
      go_upto_if 30 with (go_at_call 27; refine (isDig_any _ _).mono ?_; rintro e w' ⟨rfl, rfl⟩)
      go_cut [5] (fun s5 wx => ∃ m : Nat, s5 = .int .i64 m ∧ k < m ∧ NumTo d N i m ∧ w = wx)
      case first =>
        cases zb with
        | true =>
          go_wp2_with fail
          go_meet
          exact ⟨k + 1, by go_num, by omega, HD.out, rfl⟩
        | false =>
          go_wp2_with fail
          go_loop [5] (fun t => ∃ m' : Nat, k ≤ m' ∧ t = .int .i64 m' ∧ NumTo d N i m') (fun t => N - (intOf t).toNat)
          case atStart => exact ⟨k, Nat.le_refl _, rfl, H1.out⟩
          case round =>
            obtain ⟨r, hkr, rfl, hr⟩ := hrel
            have hrN := hr.2.1
            have HR := hide hr
            clear hr
            by_cases hrl : r < N
            · have hcr := hd r hrl
              have hrI : (r : Int) < (N : Int) := by omega
              cases hdr : isDig (d r) with
              | true =>
                have HS := hide (HR.out.step hrl (num_of_dig hdr))
                clear hdig hc
                go_wp2_with (go_at_call 27; refine (isDig_any _ _).mono ?_; rintro e w' ⟨rfl, rfl⟩)
                go_round
                case rel => exact ⟨r + 1, by omega, by go_num, HS.out⟩
                case measure => simp [intOf]; omega
              | false =>
                have hne : k < r := by
                  rcases Nat.lt_or_ge k r with h | h
                  · exact h
                  · obtain rfl : r = k := by omega
                    rw [hdig] at hdr; exact absurd hdr (by decide)
                clear hdig hc
                go_wp2_with (go_at_call 27; refine (isDig_any _ _).mono ?_; rintro e w' ⟨rfl, rfl⟩)
                go_meet
                exact ⟨r, rfl, hne, HR.out, rfl⟩
            · have hrI : ¬ ((r : Int) < (N : Int)) := by omega
              clear hdig hc
              go_wp2_with (go_at_call 27; refine (isDig_any _ _).mono ?_; rintro e w' ⟨rfl, rfl⟩)
              go_meet
              exact ⟨r, rfl, by omega, HR.out, rfl⟩
      case rest =>
      obtain ⟨m, rfl, hkm, hm, rfl⟩ := hcut
      have hmN := hm.2.1
      have H2 := hide hm
      clear hm hc HD hdig H1 H0 hNk hzb
      go_upto_region 10 with fail
      go_cut [56] (fun s56 wx => s56 = .bool (dotAt d N m) ∧ w = wx)
      case first =>
        by_cases hml : m < N
        · have hcm := hd m hml
          have hmI : (m : Int) < (N : Int) := by omega
          go_wp2_with fail
          go_meet
          exact ⟨congrArg Value.bool (by simp [dotAt, hml]), rfl⟩
        · have hmI : ¬ ((m : Int) < (N : Int)) := by omega
          go_wp2_with fail
          go_meet
          exact ⟨congrArg Value.bool (by simp [dotAt, hml]), rfl⟩
      case rest =>
      obtain ⟨rfl, rfl⟩ := hcut
      go_upto_if 56 with fail
      go_cut [5] (fun s5 wx => ∃ m' : Nat, s5 = .int .i64 m' ∧ m ≤ m' ∧ NumTo d N i m' ∧ w = wx)
      case first =>
        cases hdot : dotAt d N m with
        | false =>
          go_wp2_with fail
          go_meet
          exact ⟨m, rfl, Nat.le_refl _, H2.out, rfl⟩
        | true =>
          obtain ⟨hml, hdm⟩ := dotAt_yes hdot
          have H3 := hide (H2.out.step hml (by rw [hdm]; rfl))
          clear hdm
          by_cases hl2 : m + 1 < N
          · have hc2 := hd (m + 1) hl2
            have hI2 : (m : Int) + 1 < (N : Int) := by omega
            have hNm : decide ((N : Int) ≤ (m : Int) + 1) = false := decide_eq_false (by omega)
            cases hd2 : isDig (d (m + 1)) with
            | false =>
              go_wp2_with (go_at_call 27; refine (isDig_any _ _).mono ?_; rintro e w' ⟨rfl, rfl⟩)
              go_ret
              exact ⟨rfl, .inl rfl⟩
            | true =>
              go_wp2_with (go_at_call 27; refine (isDig_any _ _).mono ?_; rintro e w' ⟨rfl, rfl⟩)
              clear hdot hd2 hc2
              go_loop [5] (fun t => ∃ m' : Nat, m + 1 ≤ m' ∧ t = .int .i64 m' ∧ NumTo d N i m') (fun t => N - (intOf t).toNat)
              case atStart => exact ⟨m + 1, Nat.le_refl _, by go_num, H3.out⟩
              case round =>
                obtain ⟨r, hkr, rfl, hr⟩ := hrel
                have hrN := hr.2.1
                have HR := hide hr
                clear hr
                by_cases hrl : r < N
                · have hcr := hd r hrl
                  have hrI : (r : Int) < (N : Int) := by omega
                  cases hdr : isDig (d r) with
                  | true =>
                    have HS := hide (HR.out.step hrl (num_of_dig hdr))
                    go_wp2_with (go_at_call 27; refine (isDig_any _ _).mono ?_; rintro e w' ⟨rfl, rfl⟩)
                    go_round
                    case rel => exact ⟨r + 1, by omega, by go_num, HS.out⟩
                    case measure => simp [intOf]; omega
                  | false =>
                    go_wp2_with (go_at_call 27; refine (isDig_any _ _).mono ?_; rintro e w' ⟨rfl, rfl⟩)
                    go_meet
                    exact ⟨r, rfl, by omega, HR.out, rfl⟩
                · have hrI : ¬ ((r : Int) < (N : Int)) := by omega
                  go_wp2_with (go_at_call 27; refine (isDig_any _ _).mono ?_; rintro e w' ⟨rfl, rfl⟩)
                  go_meet
                  exact ⟨r, rfl, by omega, HR.out, rfl⟩
          · have hI2 : ¬ ((m : Int) + 1 < (N : Int)) := by omega
            go_wp2_with (go_at_call 27; refine (isDig_any _ _).mono ?_; rintro e w' ⟨rfl, rfl⟩)
            go_ret
            exact ⟨rfl, .inl rfl⟩
      case rest =>
      obtain ⟨n, rfl, hmn, hn, rfl⟩ := hcut
      have hnN := hn.2.1
      have H4 := hide hn
      clear hn H2
      go_upto_region 16 with fail
      go_cut [101] (fun s101 wx => s101 = .bool (expAt d N n) ∧ w = wx)
      case first =>
        by_cases hnl : n < N
        · have hcn := hd n hnl
          have hnI : (n : Int) < (N : Int) := by omega
          by_cases he : d n = 101
          · rw [he] at hcn
            have HB := hide (show expAt d N n = true by simp [expAt, hnl, he])
            clear he
            go_wp2_with fail
            go_meet
            exact ⟨by rw [HB.out], rfl⟩
          · have he' : (d n == 101) = false := by simpa using he
            have HB := hide (show expAt d N n = (d n == 69) by simp [expAt, hnl, he])
            clear he
            go_wp2_with fail
            go_meet
            exact ⟨by rw [HB.out], rfl⟩
        · have hnI : ¬ ((n : Int) < (N : Int)) := by omega
          have HB := hide (show expAt d N n = false by simp [expAt, hnl])
          go_wp2_with fail
          go_meet
          exact ⟨by rw [HB.out], rfl⟩
      case rest =>
      obtain ⟨rfl, rfl⟩ := hcut
      cases hexp : expAt d N n with
      | false =>
        go_wp2_with fail
        go_ret
        exact ⟨rfl, .inr ⟨n, rfl, by omega, H4.out⟩⟩
      | true =>
        obtain ⟨hnl, hdn⟩ := expAt_yes hexp
        have H5 := hide (H4.out.step hnl (by rcases hdn with h | h <;> rw [h] <;> rfl))
        clear hdn hexp
        go_upto_region 18 with fail
        go_cut [121] (fun s121 wx => s121 = .bool (signAt d N (n + 1)) ∧ w = wx)
        case first =>
          by_cases hnl2 : n + 1 < N
          · have hcn := hd (n + 1) hnl2
            have hnI : (n : Int) + 1 < (N : Int) := by omega
            by_cases he : d (n + 1) = 43
            · rw [he] at hcn
              have HB := hide (show signAt d N (n + 1) = true by simp [signAt, hnl2, he])
              clear he
              go_wp2_with fail
              go_meet
              exact ⟨by rw [HB.out], rfl⟩
            · have he' : (d (n + 1) == 43) = false := by simpa using he
              have HB := hide (show signAt d N (n + 1) = (d (n + 1) == 45) by simp [signAt, hnl2, he])
              clear he
              go_wp2_with fail
              go_meet
              exact ⟨by rw [HB.out], rfl⟩
          · have hnI : ¬ ((n : Int) + 1 < (N : Int)) := by omega
            have HB := hide (show signAt d N (n + 1) = false by simp [signAt, hnl2])
            go_wp2_with fail
            go_meet
            exact ⟨by rw [HB.out], rfl⟩
        case rest =>
        obtain ⟨rfl, rfl⟩ := hcut
        go_upto_if 121 with fail
        go_cut [5] (fun s5 wx => ∃ q : Nat, s5 = .int .i64 q ∧ n + 1 ≤ q ∧ NumTo d N i q ∧ w = wx)
        case first =>
          cases hsg : signAt d N (n + 1) with
          | false =>
            go_wp2_with fail
            go_meet
            exact ⟨n + 1, by go_num, by omega, H5.out, rfl⟩
          | true =>
            obtain ⟨hn2, hds⟩ := signAt_yes hsg
            have H6 := hide (H5.out.step hn2 (by rcases hds with h | h <;> rw [h] <;> rfl))
            clear hds hsg
            go_wp2_with fail
            go_meet
            exact ⟨n + 1 + 1, by go_num, by omega, H6.out, rfl⟩
        case rest =>
        obtain ⟨q, rfl, hnq, hq, rfl⟩ := hcut
        have hqN := hq.2.1
        have H7 := hide hq
        clear hq H5 H4
        by_cases hql : q < N
        · have hcq := hd q hql
          have hqI : (q : Int) < (N : Int) := by omega
          have hNq : decide (N ≤ q) = false := decide_eq_false (by omega)
          cases hdq : isDig (d q) with
          | false =>
            go_wp2_with (go_at_call 27; refine (isDig_any _ _).mono ?_; rintro e w' ⟨rfl, rfl⟩)
            go_ret
            exact ⟨rfl, .inl rfl⟩
          | true =>
            go_wp2_with (go_at_call 27; refine (isDig_any _ _).mono ?_; rintro e w' ⟨rfl, rfl⟩)
            clear hdq hcq
            go_loop [5] (fun t => ∃ m' : Nat, q ≤ m' ∧ t = .int .i64 m' ∧ NumTo d N i m') (fun t => N - (intOf t).toNat)
            case atStart => exact ⟨q, Nat.le_refl _, by go_num, H7.out⟩
            case round =>
              obtain ⟨r, hkr, rfl, hr⟩ := hrel
              have hrN := hr.2.1
              have HR := hide hr
              clear hr
              by_cases hrl : r < N
              · have hcr := hd r hrl
                have hrI : (r : Int) < (N : Int) := by omega
                cases hdr : isDig (d r) with
                | true =>
                  have HS := hide (HR.out.step hrl (num_of_dig hdr))
                  go_wp2_with (go_at_call 27; refine (isDig_any _ _).mono ?_; rintro e w' ⟨rfl, rfl⟩)
                  go_round
                  case rel => exact ⟨r + 1, by omega, by go_num, HS.out⟩
                  case measure => simp [intOf]; omega
                | false =>
                  go_wp2_with (go_at_call 27; refine (isDig_any _ _).mono ?_; rintro e w' ⟨rfl, rfl⟩)
                  go_ret
                  exact ⟨rfl, .inr ⟨r, rfl, by omega, HR.out⟩⟩
              · have hrI : ¬ ((r : Int) < (N : Int)) := by omega
                go_wp2_with (go_at_call 27; refine (isDig_any _ _).mono ?_; rintro e w' ⟨rfl, rfl⟩)
                go_ret
                exact ⟨rfl, .inr ⟨r, rfl, by omega, HR.out⟩⟩
        · have hqI : ¬ ((q : Int) < (N : Int)) := by omega
          go_wp2_with (go_at_call 27; refine (isDig_any _ _).mono ?_; rintro e w' ⟨rfl, rfl⟩)
          go_ret
          exact ⟨rfl, .inl rfl⟩
  · go_wp2_with (go_at_call 27; refine (isDig_any _ _).mono ?_; rintro e w' ⟨rfl, rfl⟩)
    go_ret
    exact ⟨rfl, .inl rfl⟩
end Go.Proofs.Qxb6604001a
