/-
  SEAT b6603956a: chkClone, chkOutcomes, chkPicks, chkHowMany, chkHowManyOf: rows of outcomes, three cells each.
-/
import Derived.Test.Qxb6603956aCnt
namespace Go.Proofs.Qxb6603956a
open Go.RowKit
set_option maxRecDepth 100000

/-- Does the kind pick an outcome of this vote and this decision? -/
def picks (kd t d : Int) : Bool := if kd = 0 then d == 1 else if kd = 1 then d == 2 else t != 1

/-- n outcomes lie in block b from its head on, three cells each. -/
def Trip (w : World) (b n : Nat) (P T D : Nat → Int) : Prop :=
  ∀ i, i < n → w.cell? ⟨b, i * 3, none⟩ = some (.int .i64 (P i)) ∧ w.cell? ⟨b, i * 3 + 1, none⟩ = some (.int .u8 (T i)) ∧ w.cell? ⟨b, i * 3 + 1 + 1, none⟩ = some (.int .u8 (D i))

theorem Trip.below {w w' : World} {B b n : Nat} {P T D : Nat → Int} (h : Trip w b n P T D) (hb : Below B w w') (hB : b < B) : Trip w' b n P T D := fun i hi =>
  ⟨(hb.cell (p := ⟨b, i * 3, none⟩) hB).trans (h i hi).1, (hb.cell (p := ⟨b, i * 3 + 1, none⟩) hB).trans (h i hi).2.1, (hb.cell (p := ⟨b, i * 3 + 1 + 1, none⟩) hB).trans (h i hi).2.2⟩

theorem chkPicks_any (p t d kd : Int) (w : World) :
    Calls Try.prog 30 #[.agg #[.int .i64 p, .int .u8 t, .int .u8 d], .int .i64 kd] w fun e w' => e = .returned (.bool (picks kd t d)) ∧ w' = w.alloc (.cells #[.int .i64 p, .int .u8 t, .int .u8 d] 67) := by
  by_cases h0 : kd = 0
  · subst h0
    go_enter Try.func30, Try.ntmps30
    go_wp2
    go_ret
    exact ⟨rfl, rfl⟩
  · have h0' : (kd == 0) = false := by simpa using h0
    by_cases h1 : kd = 1
    · subst h1
      go_enter Try.func30, Try.ntmps30
      go_wp2
      go_ret
      exact ⟨rfl, rfl⟩
    · have h1' : (kd == 1) = false := by simpa using h1
      have hp : picks kd t d = (t != 1) := by unfold picks; rw [if_neg h0, if_neg h1]
      have HP : Hid (picks kd t d = (t != 1)) := hp
      clear hp
      go_enter Try.func30, Try.ntmps30
      go_wp2
      go_ret
      exact ⟨by rw [HP.out]; rfl, rfl⟩

set_option maxHeartbeats 400000 in
theorem chkHowMany_any (b n c : Nat) (kd : Int) (P T D : Nat → Int) (w : World) (hn : n ≤ 4096) (hb : b < w.heap.size) (ht : Trip w b n P T D) :
    Calls Try.prog 12 #[.slice (some ⟨b, 0, none⟩) n c, .int .i64 kd] w fun e w' => e = .returned (.int .i64 (cntIf (fun i => picks kd (T i) (D i)) n)) ∧ Below w.heap.size w w' := by
  go_enter Try.func12, Try.ntmps12
  go_wp2
  go_loopw [5, 6] (fun t i wr => ∃ k : Nat, k ≤ n ∧ i = .int .i64 k ∧ t = .int .i64 (cntIf (fun i => picks kd (T i) (D i)) k) ∧ Below w.heap.size w wr) (fun _ i _ => n - (intOf i).toNat)
  case atStart => exact ⟨0, Nat.zero_le _, rfl, rfl, Below.refl _ _⟩
  case round =>
    obtain ⟨k, hk, rfl, rfl, hbel⟩ := hrel
    have hle := cntIf_le (fun i => picks kd (T i) (D i)) k
    by_cases hlt : k < n
    · obtain ⟨c0, c1, c2⟩ := ht.below hbel hb k hlt
      have HS : Hid (cntIf (fun i => picks kd (T i) (D i)) (k + 1) = cntIf (fun i => picks kd (T i) (D i)) k + (if picks kd (T k) (D k) then 1 else 0)) := rfl
      have HB : Hid (∀ o, Below w.heap.size w (wr.alloc o)) := fun o => hbel.alloc hbel.size o
      clear hbel
      cases hp : picks kd (T k) (D k) with
      | true =>
        rw [hp] at HS
        go_wp2_with (go_at_call 30; refine (chkPicks_any _ _ _ _ _).mono ?_; rintro e w' ⟨rfl, rfl⟩)
        go_roundw
        case rel => exact ⟨k + 1, by omega, by go_num, by rw [HS.out]; go_num, HB.out _⟩
        case measure => simp [intOf]; omega
      | false =>
        rw [hp] at HS
        go_wp2_with (go_at_call 30; refine (chkPicks_any _ _ _ _ _).mono ?_; rintro e w' ⟨rfl, rfl⟩)
        go_roundw
        case rel => exact ⟨k + 1, by omega, by go_num, by rw [HS.out]; go_num, HB.out _⟩
        case measure => simp [intOf]; omega
    · obtain rfl : k = n := by omega
      go_wp2
      go_ret
      exact ⟨rfl, hbel⟩

theorem chkHowMany_zero (a : Option Addr) (c : Nat) (kd : Int) (w : World) :
    Calls Try.prog 12 #[.slice a 0 c, .int .i64 kd] w fun e w' => e = .returned (.int .i64 0) ∧ w = w' := by
  go_enter Try.func12, Try.ntmps12
  go_wp2
  refine wp_loop_rounds 1 ?_
  rw [rounds_succ]
  go_wp2
  go_ret
  exact ⟨rfl, rfl⟩

set_option maxHeartbeats 400000 in
theorem chkHowManyOf_any (b n c : Nat) (kd x : Int) (P T D : Nat → Int) (w : World) (hn : n ≤ 4096) (hb : b < w.heap.size) (ht : Trip w b n P T D) :
    Calls Try.prog 31 #[.slice (some ⟨b, 0, none⟩) n c, .int .i64 kd, .int .i64 x] w fun e w' => e = .returned (.int .i64 (cntIf (fun i => picks kd (T i) (D i) && P i == x) n)) ∧ Below w.heap.size w w' := by
  go_enter Try.func31, Try.ntmps31
  go_wp2
  go_loopw [7, 8] (fun t i wr => ∃ k : Nat, k ≤ n ∧ i = .int .i64 k ∧ t = .int .i64 (cntIf (fun i => picks kd (T i) (D i) && P i == x) k) ∧ Below w.heap.size w wr) (fun _ i _ => n - (intOf i).toNat)
  case atStart => exact ⟨0, Nat.zero_le _, rfl, rfl, Below.refl _ _⟩
  case round =>
    obtain ⟨k, hk, rfl, rfl, hbel⟩ := hrel
    have hle := cntIf_le (fun i => picks kd (T i) (D i) && P i == x) k
    by_cases hlt : k < n
    · obtain ⟨c0, c1, c2⟩ := ht.below hbel hb k hlt
      have hc0 : ∀ o, (wr.alloc o).cell? ⟨b, k * 3, none⟩ = some (.int .i64 (P k)) := fun o => by
        rw [World.cell?_alloc_lt _ _ _ (by have := hbel.size; show b < wr.heap.size; omega)]; exact c0
      have HS : Hid (cntIf (fun i => picks kd (T i) (D i) && P i == x) (k + 1) = cntIf (fun i => picks kd (T i) (D i) && P i == x) k + (if (picks kd (T k) (D k) && P k == x) then 1 else 0)) := rfl
      have HB : Hid (∀ o, Below w.heap.size w (wr.alloc o)) := fun o => hbel.alloc hbel.size o
      have hi : (k : Int) < (n : Int) := by omega
      clear hbel
      cases hp : picks kd (T k) (D k) with
      | true =>
        rw [hp] at HS
        cases hx : (P k == x) with
        | true =>
          rw [hx] at HS
          go_wp2_with (go_at_call 30; refine (chkPicks_any _ _ _ _ _).mono ?_; rintro e w' ⟨rfl, rfl⟩)
          go_roundw
          case rel => exact ⟨k + 1, by omega, by go_num, by rw [HS.out]; go_num, HB.out _⟩
          case measure => simp [intOf]; omega
        | false =>
          rw [hx] at HS
          go_wp2_with (go_at_call 30; refine (chkPicks_any _ _ _ _ _).mono ?_; rintro e w' ⟨rfl, rfl⟩)
          go_roundw
          case rel => exact ⟨k + 1, by omega, by go_num, by rw [HS.out]; go_num, HB.out _⟩
          case measure => simp [intOf]; omega
      | false =>
        rw [hp] at HS
        go_wp2_with (go_at_call 30; refine (chkPicks_any _ _ _ _ _).mono ?_; rintro e w' ⟨rfl, rfl⟩)
        go_roundw
        case rel => exact ⟨k + 1, by omega, by go_num, by rw [HS.out]; go_num, HB.out _⟩
        case measure => simp [intOf]; omega
    · obtain rfl : k = n := by omega
      go_wp2
      go_ret
      exact ⟨rfl, hbel⟩

end Go.Proofs.Qxb6603956a
