/-
  SEAT b6604001a: THE SMALL FUNCTIONS ON BYTES, and white space.
-/
import Derived.Test.Qxb6604001aProg
import Derived.Test.Qxb6604001aPlain
import Derived.WalkKit
import Derived.WalkSpells
import Derived.ProofKit
import Derived.Deep.OwnRows
import Derived.Deep.QuietTactic
import Derived.Deep.LoopGhost
import Derived.BigQuiet
namespace Go.Proofs.Qxb6604001a
open Go.RowKit
set_option maxRecDepth 100000

theorem hide {p : Prop} (h : p) : Hid p := h
theorem ret_bool {a b : Bool} (h : a = b) : Ending.returned (.bool a) = .returned (.bool b) := by rw [h]

/-- The bytes lie in block b from its head on. -/
def Data (w : World) (b N : Nat) (d : Nat → Int) : Prop := ∀ k, k < N → w.cell? ⟨b, k, none⟩ = some (.int .u8 (d k))

theorem isDig_any (c : Int) (w : World) : Calls Try.prog 27 #[.int .u8 c] w fun e w' => e = .returned (.bool (isDig c)) ∧ w = w' := by
  by_cases h1 : 48 ≤ c
  · by_cases h2 : c ≤ 57
    · have HE := hide (show isDig c = true by simp [isDig, h1, h2])
      go_enter Try.func27, Try.ntmps27
      go_wp2
      go_ret
      exact ⟨ret_bool (by rw [HE.out]), rfl⟩
    · have HE := hide (show isDig c = false by simp [isDig, h2])
      go_enter Try.func27, Try.ntmps27
      go_wp2
      go_ret
      exact ⟨ret_bool (by rw [HE.out]), rfl⟩
  · have HE := hide (show isDig c = false by simp [isDig, h1])
    go_enter Try.func27, Try.ntmps27
    go_wp2
    go_ret
    exact ⟨ret_bool (by rw [HE.out]), rfl⟩

theorem isWs_any (c : Int) (w : World) : Calls Try.prog 29 #[.int .u8 c] w fun e w' => e = .returned (.bool (isWs c)) ∧ w = w' := by
  by_cases h1 : c = 32
  · subst h1
    go_enter Try.func29, Try.ntmps29
    go_wp2
    go_ret
    exact ⟨rfl, rfl⟩
  by_cases h2 : c = 9
  · subst h2
    go_enter Try.func29, Try.ntmps29
    go_wp2
    go_ret
    exact ⟨rfl, rfl⟩
  by_cases h3 : c = 10
  · subst h3
    go_enter Try.func29, Try.ntmps29
    go_wp2
    go_ret
    exact ⟨rfl, rfl⟩
  by_cases h4 : c = 13
  · subst h4
    go_enter Try.func29, Try.ntmps29
    go_wp2
    go_ret
    exact ⟨rfl, rfl⟩
  have HE := hide (show isWs c = false by simp [isWs, h1, h2, h3, h4])
  have g1 : (c == 32) = false := by simpa using h1
  have g2 : (c == 9) = false := by simpa using h2
  have g3 : (c == 10) = false := by simpa using h3
  have g4 : (c == 13) = false := by simpa using h4
  clear h1 h2 h3 h4
  go_enter Try.func29, Try.ntmps29
  go_wp2
  go_ret
  exact ⟨ret_bool (by rw [HE.out]), rfl⟩

theorem isEnd_any (c : Int) (w : World) : Calls Try.prog 30 #[.int .u8 c] w fun e w' => e = .returned (.bool (isEnd c)) ∧ w = w' := by
  by_cases h0 : c = 32
  · subst h0
    go_enter Try.func30, Try.ntmps30
    go_wp2
    go_ret
    exact ⟨rfl, rfl⟩
  by_cases h1 : c = 9
  · subst h1
    go_enter Try.func30, Try.ntmps30
    go_wp2
    go_ret
    exact ⟨rfl, rfl⟩
  by_cases h2 : c = 10
  · subst h2
    go_enter Try.func30, Try.ntmps30
    go_wp2
    go_ret
    exact ⟨rfl, rfl⟩
  by_cases h3 : c = 13
  · subst h3
    go_enter Try.func30, Try.ntmps30
    go_wp2
    go_ret
    exact ⟨rfl, rfl⟩
  by_cases h4 : c = 44
  · subst h4
    go_enter Try.func30, Try.ntmps30
    go_wp2
    go_ret
    exact ⟨rfl, rfl⟩
  by_cases h5 : c = 58
  · subst h5
    go_enter Try.func30, Try.ntmps30
    go_wp2
    go_ret
    exact ⟨rfl, rfl⟩
  by_cases h6 : c = 93
  · subst h6
    go_enter Try.func30, Try.ntmps30
    go_wp2
    go_ret
    exact ⟨rfl, rfl⟩
  by_cases h7 : c = 125
  · subst h7
    go_enter Try.func30, Try.ntmps30
    go_wp2
    go_ret
    exact ⟨rfl, rfl⟩
  have HE := hide (show isEnd c = false by simp [isEnd, isSep, isWs, h0, h1, h2, h3, h4, h5, h6, h7])
  have g0 : (c == 32) = false := by simpa using h0
  have g1 : (c == 9) = false := by simpa using h1
  have g2 : (c == 10) = false := by simpa using h2
  have g3 : (c == 13) = false := by simpa using h3
  have g4 : (c == 44) = false := by simpa using h4
  have g5 : (c == 58) = false := by simpa using h5
  have g6 : (c == 93) = false := by simpa using h6
  have g7 : (c == 125) = false := by simpa using h7
  clear h0 h1 h2 h3 h4 h5 h6 h7
  go_enter Try.func30, Try.ntmps30
  go_wp2
  go_ret
  exact ⟨ret_bool (by rw [HE.out]), rfl⟩

theorem isHex_any (c : Int) (w : World) : Calls Try.prog 31 #[.int .u8 c] w fun e w' => e = .returned (.bool (isHex c)) ∧ w = w' := by
  cases hd : isDig c with
  | true =>
    have HE := hide (show isHex c = true by simp [isHex, hd])
    go_enter Try.func31, Try.ntmps31
    go_wp2_with (go_at_call 27; refine (isDig_any _ _).mono ?_; rintro e w' ⟨rfl, rfl⟩)
    go_ret
    exact ⟨ret_bool (by rw [HE.out]), rfl⟩
  | false =>
    by_cases h1 : 97 ≤ c
    · by_cases h2 : c ≤ 102
      · have HE := hide (show isHex c = true by simp [isHex, hd, h1, h2])
        go_enter Try.func31, Try.ntmps31
        go_wp2_with (go_at_call 27; refine (isDig_any _ _).mono ?_; rintro e w' ⟨rfl, rfl⟩)
        go_ret
        exact ⟨ret_bool (by rw [HE.out]), rfl⟩
      · have HE := hide (show isHex c = false by simp [isHex, hd, h2]; omega)
        have h3 : 65 ≤ c := by omega
        have h4 : ¬ c ≤ 70 := by omega
        go_enter Try.func31, Try.ntmps31
        go_wp2_with (go_at_call 27; refine (isDig_any _ _).mono ?_; rintro e w' ⟨rfl, rfl⟩)
        go_ret
        exact ⟨ret_bool (by rw [HE.out]; simp; omega), rfl⟩
    · by_cases h3 : 65 ≤ c
      · by_cases h4 : c ≤ 70
        · have HE := hide (show isHex c = true by simp [isHex, hd, h3, h4])
          go_enter Try.func31, Try.ntmps31
          go_wp2_with (go_at_call 27; refine (isDig_any _ _).mono ?_; rintro e w' ⟨rfl, rfl⟩)
          go_ret
          exact ⟨ret_bool (by rw [HE.out]), rfl⟩
        · have HE := hide (show isHex c = false by simp [isHex, hd, h1, h4])
          go_enter Try.func31, Try.ntmps31
          go_wp2_with (go_at_call 27; refine (isDig_any _ _).mono ?_; rintro e w' ⟨rfl, rfl⟩)
          go_ret
          exact ⟨ret_bool (by rw [HE.out]; simp; omega), rfl⟩
      · have HE := hide (show isHex c = false by simp [isHex, hd, h1, h3])
        go_enter Try.func31, Try.ntmps31
        go_wp2_with (go_at_call 27; refine (isDig_any _ _).mono ?_; rintro e w' ⟨rfl, rfl⟩)
        go_ret
        exact ⟨ret_bool (by rw [HE.out]), rfl⟩

set_option maxHeartbeats 400000 in
theorem jWs_any (b N c a : Nat) (d : Nat → Int) (w : World) (hN : N ≤ 65536) (ha : a ≤ N) (hd : Data w b N d) :
    Calls Try.prog 32 #[.slice (some ⟨b, 0, none⟩) N c, .int .i64 a] w fun e w' => ∃ p : Nat, e = .returned (.int .i64 p) ∧ WsTo d N a p ∧ (p < N → isWs (d p) = false) ∧ w = w' := by
  go_enter Try.func32, Try.ntmps32
  go_wp2
  go_loop [1] (fun i => ∃ k : Nat, a ≤ k ∧ k ≤ N ∧ i = .int .i64 k ∧ ∀ q, a ≤ q → q < k → isWs (d q) = true) (fun i => N - (intOf i).toNat)
  case atStart => exact ⟨a, Nat.le_refl _, ha, rfl, fun q h1 h2 => absurd h2 (by omega)⟩
  case round =>
    obtain ⟨k, hak, hk, rfl, hw⟩ := hrel
    have HW := hide hw
    clear hw
    by_cases hlt : k < N
    · have hc := hd k hlt
      cases hws : isWs (d k) with
      | true =>
        go_wp2_with (go_at_call 29; refine (isWs_any _ _).mono ?_; rintro e w' ⟨rfl, rfl⟩)
        go_round
        case rel =>
          refine ⟨k + 1, by omega, by omega, by go_num, fun q h1 h2 => ?_⟩
          by_cases e : q = k
          · rw [e]; exact hws
          · exact HW.out q h1 (by omega)
        case measure => simp [intOf]; omega
      | false =>
        go_wp2_with (go_at_call 29; refine (isWs_any _ _).mono ?_; rintro e w' ⟨rfl, rfl⟩)
        go_ret
        exact ⟨k, rfl, ⟨hak, hk, HW.out⟩, fun _ => hws, rfl⟩
    · go_wp2_with (go_at_call 29; refine (isWs_any _ _).mono ?_; rintro e w' ⟨rfl, rfl⟩)
      go_ret
      exact ⟨k, rfl, ⟨hak, hk, HW.out⟩, fun h => absurd h hlt, rfl⟩

theorem below_drewN {B : Nat} {a w : World} (h : Below B a w) (k : Nat) : Below B a (w.drewN k) := ⟨h.os, h.tape, h.output, h.size, h.block⟩
theorem Data.below {w w' : World} {B b N : Nat} {d : Nat → Int} (h : Data w b N d) (hb : Below B w w') (hB : b < B) : Data w' b N d := fun k hk => (hb.cell (p := ⟨b, k, none⟩) hB).trans (h k hk)

set_option maxHeartbeats 800000 in
theorem jWord_any (b N c i : Nat) (s : ByteArray) (d : Nat → Int) (w : World) (hN : N ≤ 65536) (hi : i < N) (hb : b < w.heap.size) (hs : s.size ≤ 5) (hp : ∀ k (h : k < s.size), isPlain ((s[k]).toNat : Int) = true) (hd : Data w b N d) :
    Calls Try.prog 26 #[.slice (some ⟨b, 0, none⟩) N c, .int .i64 i, .string s] w fun e w' => Below w.heap.size w w' ∧ (e = .returned (.int .i64 (-1)) ∨ (e = .returned (.int .i64 ((i : Int) + s.size)) ∧ i + s.size ≤ N ∧ ∀ k, i ≤ k → k < i + s.size → isPlain (d k) = true)) := by
  by_cases hlen : (N : Int) - i < s.size
  · go_enter Try.func26, Try.ntmps26
    go_wp2
    go_ret
    exact ⟨Below.refl _ _, .inl rfl⟩
  · go_enter Try.func26, Try.ntmps26
    go_wp2
    go_loopw [7] (fun t wr => ∃ k : Nat, k ≤ s.size ∧ t = .int .i64 k ∧ Below w.heap.size w wr ∧ ∀ q, i ≤ q → q < i + k → isPlain (d q) = true) (fun t _ => s.size - (intOf t).toNat)
    case atStart => exact ⟨0, Nat.zero_le _, rfl, Below.refl _ _, fun q h1 h2 => absurd h2 (by omega)⟩
    case round =>
      obtain ⟨k, hk, rfl, hbel, hpl⟩ := hrel
      have HP := hide (show _ ∧ _ from ⟨hbel, hpl⟩)
      by_cases hlt : k < s.size
      · have hc := hd.below hbel hb (i + k) (by omega)
        have hpk := hp k hlt
        clear hbel hpl
        have hki : (k : Int) < (s.size : Int) := by omega
        have hik : (i : Int) + (k : Int) < (N : Int) := by omega
        by_cases heq : d (i + k) = ((s[k]).toNat : Int)
        · have hq : (d (i + k) != ((s[k]).toNat : Int)) = false := by rw [heq]; simp
          have HE := hide heq
          clear heq
          go_wp2
          go_quiet (fail)
          go_wp2
          go_roundw
          case rel =>
            refine ⟨k + 1, by omega, by go_num, below_drewN HP.out.1 _, fun q h1 h2 => ?_⟩
            by_cases e : q = i + k
            · rw [e, HE.out]; exact hpk
            · exact HP.out.2 q h1 (by omega)
          case measure => simp [intOf]; omega
        · have hq : (d (i + k) != ((s[k]).toNat : Int)) = true := by rw [bne_iff_ne]; exact heq
          clear heq
          go_wp2
          go_quiet (fail)
          go_wp2
          go_ret
          exact ⟨below_drewN HP.out.1 _, .inl rfl⟩
      · obtain rfl : k = s.size := by omega
        clear hbel hpl
        go_wp2
        go_ret
        exact ⟨HP.out.1, .inr ⟨rfl, by omega, HP.out.2⟩⟩

end Go.Proofs.Qxb6604001a
