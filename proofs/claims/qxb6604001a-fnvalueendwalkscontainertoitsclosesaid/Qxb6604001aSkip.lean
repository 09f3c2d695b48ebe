/-
  SEAT b6604001a: THE WALKS OF ZZSkipSeparators AND ZZValueEnd.
-/
import Derived.Test.Qxb6604001aBytes
namespace Go.Proofs.Qxb6604001a
open Go.RowKit
set_option maxRecDepth 100000

/-- The token reader's block: its bytes and its place. -/
def Reader (w : World) (B b N c : Nat) (k : Int) : Prop := w.rowIs B 29 2 (fun i => if i = 0 then .slice (some ⟨b, 0, none⟩) N c else .int .i64 k)

theorem Reader.c0 {w : World} {B b N c : Nat} {k : Int} (h : Reader w B b N c k) : w.cell? ⟨B, 0, none⟩ = some (.slice (some ⟨b, 0, none⟩) N c) := h.cell (i := 0) (by omega)
theorem Reader.c1 {w : World} {B b N c : Nat} {k : Int} (h : Reader w B b N c k) : w.cell? ⟨B, 1, none⟩ = some (.int .i64 k) := h.cell (i := 1) (by omega)
theorem Reader.set {w : World} {B b N c : Nat} {k : Int} (h : Reader w B b N c k) (k' : Int) : Reader (w.setCell ⟨B, 1, none⟩ (.int .i64 k')) B b N c k' :=
  (World.rowIs.set h 1 _).congr (fun i hi => by
    match i, hi with
    | 0, _ => rfl
    | 1, _ => rfl)
theorem reader_new (w : World) (b N c : Nat) (k : Int) : Reader (w.alloc (.cells #[.slice (some ⟨b, 0, none⟩) N c, .int .i64 k] 29)) w.heap.size b N c k :=
  World.rowIs_alloc w #[.slice (some ⟨b, 0, none⟩) N c, .int .i64 k] 29 _ (fun i hi => by
    match i, hi with
    | 0, _ => rfl
    | 1, _ => rfl)

set_option maxHeartbeats 1600000 in
theorem skip_any (b N c a p : Nat) (d : Nat → Int) (w : World) (hN : N ≤ 65536) (hb : b < w.heap.size) (hd : Data w b N d) (hs : SkipTo d N a p) :
    Calls Try.prog 9 #[.slice (some ⟨b, 0, none⟩) N c, .int .i64 a] w fun e w' => e = .returned (.int .i64 p) ∧ Below w.heap.size w w' := by
  have HD := hide hd
  have HS := hide hs
  have HR := hide (reader_new w b N c a)
  have HB := hide ((Below.refl w.heap.size w).alloc (Nat.le_refl _) (.cells #[.slice (some ⟨b, 0, none⟩) N c, .int .i64 a] 29))
  have hap := hs.1
  have hpN := hs.2.1
  clear hd hs
  go_enter Try.func9, Try.ntmps9
  go_wp2_with (go_at_call 18; go_in)
  go_loopg [] (p - a) (fun g wr => ∃ k : Nat, a ≤ k ∧ k + g = p ∧ Reader wr w.heap.size b N c k ∧ Below w.heap.size w wr)
  case atStart => exact ⟨a, Nat.le_refl _, by omega, HR.out, HB.out⟩
  case round =>
    obtain ⟨k, hak, hkp, hr, hbel⟩ := hrel
    have c0 := hr.c0
    have c1 := hr.c1
    have f1 : wr.frozen? ⟨w.heap.size, 1, none⟩ = false := World.rowIs.frozen hr 1
    have hkI : (k : Int) < (N : Int) := by omega
    have hck := HD.out.below hbel hb k (by omega)
    by_cases hlt : k < p
    · have hsep := HS.out.2.2.1 k hak hlt
      have HX := hide (show ∀ n, Reader ((wr.drewN n).setCell ⟨w.heap.size, 1, none⟩ (.int .i64 (k + 1))) w.heap.size b N c (k + 1) ∧ Below w.heap.size w ((wr.drewN n).setCell ⟨w.heap.size, 1, none⟩ (.int .i64 (k + 1))) from
        fun n => ⟨Reader.set (w := wr.drewN n) hr _, (below_drewN hbel n).setCell (Nat.le_refl _) _⟩)
      have hcs : d k = 32 ∨ d k = 9 ∨ d k = 10 ∨ d k = 13 ∨ d k = 44 ∨ d k = 58 := by
        simp only [isSep, isWs, Bool.or_eq_true, beq_iff_eq] at hsep
        omega
      have hgk : gk = p - k := by omega
      have HGK := hide hgk
      clear hr hbel hsep hkp hgk
      rcases hcs with h | h | h | h | h | h
      · rw [h] at hck
        clear h
        go_wp2_with fail
        go_quiet (fail)
        go_wp2_with fail
        go_quiet (fail)
        go_wp2_with fail
        go_roundg (p - (k + 1))
        case measure => rw [HGK.out]; omega
        case rel => exact ⟨k + 1, by omega, by omega, (HX.out _).1, (HX.out _).2⟩
      · rw [h] at hck
        clear h
        go_wp2_with fail
        go_quiet (fail)
        go_wp2_with fail
        go_quiet (fail)
        go_wp2_with fail
        go_roundg (p - (k + 1))
        case measure => rw [HGK.out]; omega
        case rel => exact ⟨k + 1, by omega, by omega, (HX.out _).1, (HX.out _).2⟩
      · rw [h] at hck
        clear h
        go_wp2_with fail
        go_quiet (fail)
        go_wp2_with fail
        go_quiet (fail)
        go_wp2_with fail
        go_roundg (p - (k + 1))
        case measure => rw [HGK.out]; omega
        case rel => exact ⟨k + 1, by omega, by omega, (HX.out _).1, (HX.out _).2⟩
      · rw [h] at hck
        clear h
        go_wp2_with fail
        go_quiet (fail)
        go_wp2_with fail
        go_quiet (fail)
        go_wp2_with fail
        go_roundg (p - (k + 1))
        case measure => rw [HGK.out]; omega
        case rel => exact ⟨k + 1, by omega, by omega, (HX.out _).1, (HX.out _).2⟩
      · rw [h] at hck
        clear h
        go_wp2_with fail
        go_quiet (fail)
        go_wp2_with fail
        go_quiet (fail)
        go_wp2_with fail
        go_roundg (p - (k + 1))
        case measure => rw [HGK.out]; omega
        case rel => exact ⟨k + 1, by omega, by omega, (HX.out _).1, (HX.out _).2⟩
      · rw [h] at hck
        clear h
        go_wp2_with fail
        go_quiet (fail)
        go_wp2_with fail
        go_quiet (fail)
        go_wp2_with fail
        go_roundg (p - (k + 1))
        case measure => rw [HGK.out]; omega
        case rel => exact ⟨k + 1, by omega, by omega, (HX.out _).1, (HX.out _).2⟩
    · obtain rfl : k = p := by omega
      have hns := HS.out.2.2.2
      have HX := hide hbel
      have g0 : (d k == 32) = false ∧ (d k == 9) = false ∧ (d k == 10) = false ∧ (d k == 13) = false ∧ (d k == 44) = false ∧ (d k == 58) = false := by
        simp only [isSep, isWs, Bool.or_eq_false_iff] at hns
        obtain ⟨⟨⟨⟨⟨a1, a2⟩, a3⟩, a4⟩, a5⟩, a6⟩ := hns
        exact ⟨a1, a2, a3, a4, a5, a6⟩
      obtain ⟨g1, g2, g3, g4, g5, g6⟩ := g0
      clear hr hbel hns
      go_wp2_with fail
      go_quiet (fail)
      go_wp2_with fail
      go_quiet (fail)
      go_wp2_with fail
      refine bodyPost_ret (results_none rfl _ _ _) rfl ?_
      go_wp2_with fail
      go_ret
      exact ⟨rfl, below_drewN HX.out _⟩

set_option maxHeartbeats 800000 in
theorem stringEnd_any (B b N c i e : Nat) (d : Nat → Int) (w : World) (hN : N ≤ 65536) (hi : i < N) (c0 : w.cell? ⟨B, 0, none⟩ = some (.slice (some ⟨b, 0, none⟩) N c)) (hd : Data w b N d) (hs : StrE d N i e) :
    Calls Try.prog 19 #[.pointer (some ⟨B, 0, none⟩), .int .i64 i] w fun r w' => r = .returned (.int .i64 e) ∧ w = w' := by
  obtain ⟨m0, hm0⟩ := hs
  have HM := hide hm0
  have HD := hide hd
  clear hm0 hd
  go_enter Try.func19, Try.ntmps19
  go_wp2_with fail
  go_loopg [5] m0 (fun g t wr => ∃ j : Nat, t = .int .i64 j ∧ strGo d N g j = some e ∧ w = wr)
  case atStart => exact ⟨i + 1, by go_num, HM.out, rfl⟩
  case round =>
    obtain ⟨j, rfl, hg, rfl⟩ := hrel
    cases gk with
    | zero => simp [strGo] at hg
    | succ g =>
      unfold strGo at hg
      split at hg
      · rename_i hj
        have hc := HD.out j hj
        have hjI : (j : Int) < (N : Int) := by omega
        split at hg
        · rename_i h92
          rw [h92] at hc
          have HG := hide hg
          clear h92 hg
          go_wp2_with fail
          go_roundg g
          case measure => omega
          case rel => exact ⟨j + 2, by go_num, HG.out, rfl⟩
        · rename_i h92
          have h92' : (d j == 92) = false := by simpa using h92
          clear h92
          split at hg
          · rename_i h34
            rw [h34] at hc h92'
            clear h34
            simp only [Option.some.injEq] at hg
            subst hg
            go_wp2_with fail
            go_ret
            exact ⟨by go_num, rfl⟩
          · rename_i h34
            have h34' : (d j == 34) = false := by simpa using h34
            have HG := hide hg
            clear h34 hg
            go_wp2_with fail
            go_roundg g
            case measure => omega
            case rel => exact ⟨j + 1, by go_num, HG.out, rfl⟩
      · simp at hg

theorem stringEnd_at (B b N c i e : Nat) (x : Int) (d : Nat → Int) (w : World) (hN : N ≤ 65536) (hi : i < N) (c0 : w.cell? ⟨B, 0, none⟩ = some (.slice (some ⟨b, 0, none⟩) N c)) (hd : Data w b N d) (hs : StrE d N i e) (hx : x = (i : Int)) :
    Calls Try.prog 19 #[.pointer (some ⟨B, 0, none⟩), .int .i64 x] w fun r w' => r = .returned (.int .i64 e) ∧ w = w' := by
  subst hx; exact stringEnd_any B b N c i e d w hN hi c0 hd hs

end Go.Proofs.Qxb6604001a
