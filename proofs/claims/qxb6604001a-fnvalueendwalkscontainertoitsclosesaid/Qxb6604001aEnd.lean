/-
  SEAT b6604001a: THE WALK OF ZZValueEnd.
-/
import Derived.Test.Qxb6604001aSkip
namespace Go.Proofs.Qxb6604001a
open Go.RowKit
set_option maxRecDepth 100000

set_option maxHeartbeats 800000 in
theorem valueEnd_str (b N c i v : Nat) (d : Nat → Int) (w : World) (hN : N ≤ 65536) (hi : i < N) (hb : b < w.heap.size) (hd : Data w b N d) (h34 : d i = 34) (hs : StrE d N i v) :
    Calls Try.prog 16 #[.slice (some ⟨b, 0, none⟩) N c, .int .i64 i] w fun e w' => e = .returned (.int .i64 v) ∧ Below w.heap.size w w' := by
  have HR := hide (reader_new w b N c 0)
  have HB := hide ((Below.refl w.heap.size w).alloc (Nat.le_refl _) (.cells #[.slice (some ⟨b, 0, none⟩) N c, .int .i64 0] 29))
  have c0 := HR.out.c0
  have HD := hide (hd.below HB.out hb)
  have hci : ∀ o, (w.alloc o).cell? ⟨b, i, none⟩ = some (.int .u8 (d i)) := fun o => by
    rw [World.cell?_alloc_lt _ _ _ (by exact hb)]; exact hd i hi
  have hiI : (i : Int) < (N : Int) := by omega
  clear hd
  rw [h34] at hci
  clear h34
  go_enter Try.func16, Try.ntmps16
  go_wp2_with (go_at_call 22; go_in)
  refine (stringEnd_any w.heap.size b N c i v d _ hN hi c0 HD.out hs).mono ?_
  rintro e w1 ⟨rfl, rfl⟩
  go_wp2_with fail
  go_ret
  exact ⟨rfl, HB.out⟩

set_option maxHeartbeats 1600000 in
theorem valueEnd_lit (b N c i v : Nat) (d : Nat → Int) (w : World) (hN : N ≤ 65536) (hi : i < N) (hb : b < w.heap.size) (hd : Data w b N d) (h34 : d i ≠ 34) (ho : isOpen (d i) = false) (hiv : i < v) (hl : ∀ k, i ≤ k → k < v → isEnd (d k) = false) (hv : v < N) (he : isEnd (d v) = true) :
    Calls Try.prog 16 #[.slice (some ⟨b, 0, none⟩) N c, .int .i64 i] w fun e w' => e = .returned (.int .i64 v) ∧ Below w.heap.size w w' := by
  have HR := hide (reader_new w b N c 0)
  have HB := hide ((Below.refl w.heap.size w).alloc (Nat.le_refl _) (.cells #[.slice (some ⟨b, 0, none⟩) N c, .int .i64 0] 29))
  have c0 := HR.out.c0
  have HD := hide (hd.below HB.out hb)
  have hci : ∀ o, (w.alloc o).cell? ⟨b, i, none⟩ = some (.int .u8 (d i)) := fun o => by
    rw [World.cell?_alloc_lt _ _ _ (by exact hb)]; exact hd i hi
  have hiI : (i : Int) < (N : Int) := by omega
  clear hd
  have g1 : (d i == 34) = false := by simpa using h34
  have g2 : (d i == 123) = false ∧ (d i == 91) = false := by
    simp only [isOpen, Bool.or_eq_false_iff] at ho
    exact ⟨ho.2, ho.1⟩
  obtain ⟨g2, g3⟩ := g2
  have HL := hide hl
  have HE := hide he
  clear h34 ho hl he
  go_enter Try.func16, Try.ntmps16
  go_wp2_with (go_at_call 22; go_in)
  go_loop [7] (fun t => ∃ k : Nat, i ≤ k ∧ k ≤ v ∧ t = .int .i64 k) (fun t => N - (intOf t).toNat)
  case atStart => exact ⟨i, Nat.le_refl _, by omega, rfl⟩
  case round =>
    obtain ⟨k, hik, hkv, rfl⟩ := hrel
    have hck := HD.out k (by omega)
    have hkI : (k : Int) < (N : Int) := by omega
    by_cases hlt : k < v
    · have hek := HL.out k hik hlt
      go_wp2_with (go_at_call 30; refine (isEnd_any _ _).mono ?_; rintro e w' ⟨rfl, rfl⟩)
      go_round
      case rel => exact ⟨k + 1, by omega, by omega, by go_num⟩
      case measure => simp [intOf]; omega
    · obtain rfl : k = v := by omega
      have hek := HE.out
      go_wp2_with (go_at_call 30; refine (isEnd_any _ _).mono ?_; rintro e w' ⟨rfl, rfl⟩)
      go_ret
      exact ⟨rfl, HB.out⟩

set_option maxHeartbeats 3200000 in
theorem valueEnd_open91 (b N c i v : Nat) (d : Nat → Int) (w : World) (hN : N ≤ 65536) (hi : i < N) (hb : b < w.heap.size) (hd : Data w b N d) (ho : d i = 91) (hs : Scan d N i 0 v) :
    Calls Try.prog 16 #[.slice (some ⟨b, 0, none⟩) N c, .int .i64 i] w fun e w' => e = .returned (.int .i64 v) ∧ Below w.heap.size w w' := by
  obtain ⟨m0, hm0⟩ := hs
  have HM := hide hm0
  clear hm0
  have HR := hide (reader_new w b N c 0)
  have HB := hide ((Below.refl w.heap.size w).alloc (Nat.le_refl _) (.cells #[.slice (some ⟨b, 0, none⟩) N c, .int .i64 0] 29))
  have c0 := HR.out.c0
  have HD := hide (hd.below HB.out hb)
  have hci : ∀ o, (w.alloc o).cell? ⟨b, i, none⟩ = some (.int .u8 (d i)) := fun o => by
    rw [World.cell?_alloc_lt _ _ _ (by exact hb)]; exact hd i hi
  have hiI : (i : Int) < (N : Int) := by omega
  clear hd
  rw [ho] at hci
  clear ho
  go_enter Try.func16, Try.ntmps16
  go_wp2_with (go_at_call 22; go_in)
  go_loopg [5, 6] m0 (fun g dp t wr => ∃ j D : Nat, dp = .int .i64 D ∧ t = .int .i64 j ∧ D ≤ j ∧ scanGo d N g j D v ∧ w.alloc (.cells #[.slice (some ⟨b, 0, none⟩) N c, .int .i64 0] 29) = wr)
  case atStart => exact ⟨i, 0, rfl, rfl, by omega, HM.out, rfl⟩
  case round =>
    obtain ⟨j, D, rfl, rfl, hDj, hg, rfl⟩ := hrel
    cases gk with
    | zero => exact hg.elim
    | succ g =>
      obtain ⟨hj, hg⟩ := hg
      have hc := HD.out j hj
      have hjI : (j : Int) < (N : Int) := by omega
      rcases hg with ⟨h, e, hse, hg⟩ | ⟨h, hg⟩ | ⟨h, hg⟩ | ⟨h, hg⟩
      · rw [h] at hc
        have HG := hide (show _ ∧ _ from ⟨hse, hg⟩)
        have hje : j < e := by
          obtain ⟨q, hq⟩ := hse
          have := strGo_bound hq
          omega
        have heN : e ≤ N := by
          obtain ⟨q, hq⟩ := hse
          exact (strGo_bound hq).2
        clear h hse hg
        go_wp2_with fail
        refine (stringEnd_any w.heap.size b N c j e d _ hN hj c0 HD.out HG.out.1).mono ?_
        rintro r w1 ⟨rfl, rfl⟩
        go_wp2_with fail
        go_roundg g
        case measure => omega
        case rel => exact ⟨e, D, rfl, by go_num, by omega, HG.out.2, rfl⟩
      · have HG := hide hg
        have hcs : d j = 123 ∨ d j = 91 := by
          simp only [isOpen, Bool.or_eq_true, beq_iff_eq] at h
          omega
        clear h hg
        rcases hcs with h | h
        · rw [h] at hc
          clear h
          go_wp2_with fail
          go_roundg g
          case measure => omega
          case rel => exact ⟨j + 1, D + 1, by go_num, by go_num, by omega, HG.out, rfl⟩
        · rw [h] at hc
          clear h
          go_wp2_with fail
          go_roundg g
          case measure => omega
          case rel => exact ⟨j + 1, D + 1, by go_num, by go_num, by omega, HG.out, rfl⟩
      · have hcs : d j = 125 ∨ d j = 93 := by
          simp only [isClose, Bool.or_eq_true, beq_iff_eq] at h
          omega
        clear h
        rcases hg with ⟨rfl, rfl⟩ | ⟨hD2, hg⟩
        · rcases hcs with h | h
          · rw [h] at hc
            clear h
            go_wp2_with fail
            go_ret
            exact ⟨by go_num, HB.out⟩
          · rw [h] at hc
            clear h
            go_wp2_with fail
            go_ret
            exact ⟨by go_num, HB.out⟩
        · have HG := hide hg
          have hDn : (((D : Int) - 1) == 0) = false := beq_eq_false_iff_ne.2 (by omega)
          clear hg
          rcases hcs with h | h
          · rw [h] at hc
            clear h
            go_wp2_with fail
            go_roundg g
            case measure => omega
            case rel => exact ⟨j + 1, D - 1, by go_num, by go_num, by omega, HG.out, rfl⟩
          · rw [h] at hc
            clear h
            go_wp2_with fail
            go_roundg g
            case measure => omega
            case rel => exact ⟨j + 1, D - 1, by go_num, by go_num, by omega, HG.out, rfl⟩
      · have HG := hide hg
        have g5 : (d j == 34) = false ∧ (d j == 123) = false ∧ (d j == 91) = false ∧ (d j == 125) = false ∧ (d j == 93) = false := by
          simp only [isOther, isOpen, isClose, Bool.and_eq_true, Bool.not_eq_true', Bool.or_eq_false_iff] at h
          exact ⟨h.1.1, h.1.2.2, h.1.2.1, h.2.2, h.2.1⟩
        obtain ⟨q1, q2, q3, q4, q5⟩ := g5
        clear h hg
        go_wp2_with fail
        go_roundg g
        case measure => omega
        case rel => exact ⟨j + 1, D, rfl, by go_num, by omega, HG.out, rfl⟩

set_option maxHeartbeats 3200000 in
theorem valueEnd_open123 (b N c i v : Nat) (d : Nat → Int) (w : World) (hN : N ≤ 65536) (hi : i < N) (hb : b < w.heap.size) (hd : Data w b N d) (ho : d i = 123) (hs : Scan d N i 0 v) :
    Calls Try.prog 16 #[.slice (some ⟨b, 0, none⟩) N c, .int .i64 i] w fun e w' => e = .returned (.int .i64 v) ∧ Below w.heap.size w w' := by
  obtain ⟨m0, hm0⟩ := hs
  have HM := hide hm0
  clear hm0
  have HR := hide (reader_new w b N c 0)
  have HB := hide ((Below.refl w.heap.size w).alloc (Nat.le_refl _) (.cells #[.slice (some ⟨b, 0, none⟩) N c, .int .i64 0] 29))
  have c0 := HR.out.c0
  have HD := hide (hd.below HB.out hb)
  have hci : ∀ o, (w.alloc o).cell? ⟨b, i, none⟩ = some (.int .u8 (d i)) := fun o => by
    rw [World.cell?_alloc_lt _ _ _ (by exact hb)]; exact hd i hi
  have hiI : (i : Int) < (N : Int) := by omega
  clear hd
  rw [ho] at hci
  clear ho
  go_enter Try.func16, Try.ntmps16
  go_wp2_with (go_at_call 22; go_in)
  go_loopg [5, 6] m0 (fun g dp t wr => ∃ j D : Nat, dp = .int .i64 D ∧ t = .int .i64 j ∧ D ≤ j ∧ scanGo d N g j D v ∧ w.alloc (.cells #[.slice (some ⟨b, 0, none⟩) N c, .int .i64 0] 29) = wr)
  case atStart => exact ⟨i, 0, rfl, rfl, by omega, HM.out, rfl⟩
  case round =>
    obtain ⟨j, D, rfl, rfl, hDj, hg, rfl⟩ := hrel
    cases gk with
    | zero => exact hg.elim
    | succ g =>
      obtain ⟨hj, hg⟩ := hg
      have hc := HD.out j hj
      have hjI : (j : Int) < (N : Int) := by omega
      rcases hg with ⟨h, e, hse, hg⟩ | ⟨h, hg⟩ | ⟨h, hg⟩ | ⟨h, hg⟩
      · rw [h] at hc
        have HG := hide (show _ ∧ _ from ⟨hse, hg⟩)
        have hje : j < e := by
          obtain ⟨q, hq⟩ := hse
          have := strGo_bound hq
          omega
        have heN : e ≤ N := by
          obtain ⟨q, hq⟩ := hse
          exact (strGo_bound hq).2
        clear h hse hg
        go_wp2_with fail
        refine (stringEnd_any w.heap.size b N c j e d _ hN hj c0 HD.out HG.out.1).mono ?_
        rintro r w1 ⟨rfl, rfl⟩
        go_wp2_with fail
        go_roundg g
        case measure => omega
        case rel => exact ⟨e, D, rfl, by go_num, by omega, HG.out.2, rfl⟩
      · have HG := hide hg
        have hcs : d j = 123 ∨ d j = 91 := by
          simp only [isOpen, Bool.or_eq_true, beq_iff_eq] at h
          omega
        clear h hg
        rcases hcs with h | h
        · rw [h] at hc
          clear h
          go_wp2_with fail
          go_roundg g
          case measure => omega
          case rel => exact ⟨j + 1, D + 1, by go_num, by go_num, by omega, HG.out, rfl⟩
        · rw [h] at hc
          clear h
          go_wp2_with fail
          go_roundg g
          case measure => omega
          case rel => exact ⟨j + 1, D + 1, by go_num, by go_num, by omega, HG.out, rfl⟩
      · have hcs : d j = 125 ∨ d j = 93 := by
          simp only [isClose, Bool.or_eq_true, beq_iff_eq] at h
          omega
        clear h
        rcases hg with ⟨rfl, rfl⟩ | ⟨hD2, hg⟩
        · rcases hcs with h | h
          · rw [h] at hc
            clear h
            go_wp2_with fail
            go_ret
            exact ⟨by go_num, HB.out⟩
          · rw [h] at hc
            clear h
            go_wp2_with fail
            go_ret
            exact ⟨by go_num, HB.out⟩
        · have HG := hide hg
          have hDn : (((D : Int) - 1) == 0) = false := beq_eq_false_iff_ne.2 (by omega)
          clear hg
          rcases hcs with h | h
          · rw [h] at hc
            clear h
            go_wp2_with fail
            go_roundg g
            case measure => omega
            case rel => exact ⟨j + 1, D - 1, by go_num, by go_num, by omega, HG.out, rfl⟩
          · rw [h] at hc
            clear h
            go_wp2_with fail
            go_roundg g
            case measure => omega
            case rel => exact ⟨j + 1, D - 1, by go_num, by go_num, by omega, HG.out, rfl⟩
      · have HG := hide hg
        have g5 : (d j == 34) = false ∧ (d j == 123) = false ∧ (d j == 91) = false ∧ (d j == 125) = false ∧ (d j == 93) = false := by
          simp only [isOther, isOpen, isClose, Bool.and_eq_true, Bool.not_eq_true', Bool.or_eq_false_iff] at h
          exact ⟨h.1.1, h.1.2.2, h.1.2.1, h.2.2, h.2.1⟩
        obtain ⟨q1, q2, q3, q4, q5⟩ := g5
        clear h hg
        go_wp2_with fail
        go_roundg g
        case measure => omega
        case rel => exact ⟨j + 1, D, rfl, by go_num, by omega, HG.out, rfl⟩

theorem valueEnd_any (b N c i v : Nat) (d : Nat → Int) (w : World) (hN : N ≤ 65536) (hi : i < N) (hb : b < w.heap.size) (hd : Data w b N d) (hiv : i < v) (h : VEnd d N i v) :
    Calls Try.prog 16 #[.slice (some ⟨b, 0, none⟩) N c, .int .i64 i] w fun e w' => e = .returned (.int .i64 v) ∧ Below w.heap.size w w' := by
  rcases h with ⟨h1, h2⟩ | ⟨h1, h2⟩ | ⟨h1, h2, h3, h4, h5⟩
  · exact valueEnd_str b N c i v d w hN hi hb hd h1 h2
  · have hcs : d i = 91 ∨ d i = 123 := by
      simp only [isOpen, Bool.or_eq_true, beq_iff_eq] at h1
      exact h1
    rcases hcs with h | h
    · exact valueEnd_open91 b N c i v d w hN hi hb hd h h2
    · exact valueEnd_open123 b N c i v d w hN hi hb hd h h2
  · exact valueEnd_lit b N c i v d w hN hi hb hd h1 h2 hiv h3 h4 h5

end Go.Proofs.Qxb6604001a
