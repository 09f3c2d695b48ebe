/-
  SEAT b6604001a: zzB1JValue AT EVERY PLACE, by induction; zzB1ValueEndDomain at a container.
-/
import Derived.Test.Qxb6604001aArr
import Derived.Test.Qxb6604001aNum
namespace Go.Proofs.Qxb6604001a
open Go.RowKit
set_option maxRecDepth 100000

def sTrue : ByteArray := ⟨#[116, 114, 117, 101]⟩
def sFalse : ByteArray := ⟨#[102, 97, 108, 115, 101]⟩
def sNull : ByteArray := ⟨#[110, 117, 108, 108]⟩
theorem true_plain : ∀ k (h : k < sTrue.size), isPlain ((sTrue[k]).toNat : Int) = true := by decide
theorem false_plain : ∀ k (h : k < sFalse.size), isPlain ((sFalse[k]).toNat : Int) = true := by decide
theorem null_plain : ∀ k (h : k < sNull.size), isPlain ((sNull[k]).toNat : Int) = true := by decide

set_option maxHeartbeats 1600000 in
theorem jValue_step (b N c i : Nat) (d : Nat → Int) (hN : N ≤ 65536) (hJ : ∀ j, i < j → JV b N c d j) : JV b N c d i := by
  intro w hb hd
  have HJ := hide hJ
  have HD := hide hd
  clear hJ hd
  by_cases hi : i < N
  · have hc := HD.out i hi
    have hiI : (i : Int) < (N : Int) := by omega
    have hi0 : ¬ ((i : Int) < 0) := by omega
    by_cases h0 : d i = 34
    · have H0 := hide h0
      rw [h0] at hc
      clear h0
      go_enter Try.func20, Try.ntmps20
      go_wp2_with fail
      refine (jString_any b N c i d w hN hi HD.out).mono ?_
      rintro e w1 ⟨rfl, he⟩
      rcases he with rfl | ⟨v, rfl, hs⟩
      · go_wp2_with fail
        go_ret
        exact ⟨Below.refl _ _, .inl rfl⟩
      · have HG := hide (good_str hi H0.out hs)
        clear hs
        go_wp2_with fail
        go_ret
        exact ⟨Below.refl _ _, .inr ⟨v, rfl, HG.out⟩⟩
    have g0 : (d i == 34) = false := by simpa using h0
    clear h0
    by_cases h1 : d i = 91
    · have H1 := hide h1
      rw [h1] at hc
      clear h1
      clear g0
      go_enter Try.func20, Try.ntmps20
      go_wp2_with fail
      refine (jArray_any b N c i d w hN hi H1.out hb HD.out HJ.out).mono ?_
      rintro e w1 ⟨hb1, he⟩
      have HB := hide hb1
      clear hb1
      rcases he with rfl | ⟨v, rfl, hg⟩
      · go_wp2_with fail
        go_ret
        exact ⟨HB.out, .inl rfl⟩
      · have HG := hide hg
        clear hg
        go_wp2_with fail
        go_ret
        exact ⟨HB.out, .inr ⟨v, rfl, HG.out⟩⟩
    have g1 : (d i == 91) = false := by simpa using h1
    clear h1
    by_cases h2 : d i = 123
    · have H2 := hide h2
      rw [h2] at hc
      clear h2
      clear g0 g1
      go_enter Try.func20, Try.ntmps20
      go_wp2_with fail
      refine (jObject_any b N c i d w hN hi H2.out hb HD.out HJ.out).mono ?_
      rintro e w1 ⟨hb1, he⟩
      have HB := hide hb1
      clear hb1
      rcases he with rfl | ⟨v, rfl, hg⟩
      · go_wp2_with fail
        go_ret
        exact ⟨HB.out, .inl rfl⟩
      · have HG := hide hg
        clear hg
        go_wp2_with fail
        go_ret
        exact ⟨HB.out, .inr ⟨v, rfl, HG.out⟩⟩
    have g2 : (d i == 123) = false := by simpa using h2
    clear h2
    by_cases h3 : d i = 116
    · have H3 := hide h3
      rw [h3] at hc
      clear h3
      clear g0 g1 g2
      go_enter Try.func20, Try.ntmps20
      go_wp2_with fail
      refine (jWord_any b N c i sTrue d w hN hi hb (by decide) true_plain HD.out).mono ?_
      rintro e w1 ⟨hb1, he⟩
      have HB := hide hb1
      clear hb1
      rcases he with rfl | ⟨rfl, hle, hpl⟩
      · go_wp2_with fail
        go_ret
        exact ⟨HB.out, .inl rfl⟩
      · have hsz : sTrue.size = 4 := rfl
        rw [hsz] at hle hpl ⊢
        have HG := hide (good_plain (i := i) (v := i + 4) (by omega) hle hpl)
        clear hpl hsz
        go_wp2_with fail
        go_ret
        exact ⟨HB.out, .inr ⟨i + 4, by go_num, HG.out⟩⟩
    have g3 : (d i == 116) = false := by simpa using h3
    clear h3
    by_cases h4 : d i = 102
    · have H4 := hide h4
      rw [h4] at hc
      clear h4
      clear g0 g1 g2 g3
      go_enter Try.func20, Try.ntmps20
      go_wp2_with fail
      refine (jWord_any b N c i sFalse d w hN hi hb (by decide) false_plain HD.out).mono ?_
      rintro e w1 ⟨hb1, he⟩
      have HB := hide hb1
      clear hb1
      rcases he with rfl | ⟨rfl, hle, hpl⟩
      · go_wp2_with fail
        go_ret
        exact ⟨HB.out, .inl rfl⟩
      · have hsz : sFalse.size = 5 := rfl
        rw [hsz] at hle hpl ⊢
        have HG := hide (good_plain (i := i) (v := i + 5) (by omega) hle hpl)
        clear hpl hsz
        go_wp2_with fail
        go_ret
        exact ⟨HB.out, .inr ⟨i + 5, by go_num, HG.out⟩⟩
    have g4 : (d i == 102) = false := by simpa using h4
    clear h4
    by_cases h5 : d i = 110
    · have H5 := hide h5
      rw [h5] at hc
      clear h5
      clear g0 g1 g2 g3 g4
      go_enter Try.func20, Try.ntmps20
      go_wp2_with fail
      refine (jWord_any b N c i sNull d w hN hi hb (by decide) null_plain HD.out).mono ?_
      rintro e w1 ⟨hb1, he⟩
      have HB := hide hb1
      clear hb1
      rcases he with rfl | ⟨rfl, hle, hpl⟩
      · go_wp2_with fail
        go_ret
        exact ⟨HB.out, .inl rfl⟩
      · have hsz : sNull.size = 4 := rfl
        rw [hsz] at hle hpl ⊢
        have HG := hide (good_plain (i := i) (v := i + 4) (by omega) hle hpl)
        clear hpl hsz
        go_wp2_with fail
        go_ret
        exact ⟨HB.out, .inr ⟨i + 4, by go_num, HG.out⟩⟩
    have g5 : (d i == 110) = false := by simpa using h5
    clear h5
    by_cases hnum : d i = 45
    · have H6 := hide hnum
      rw [hnum] at hc
      clear hnum g0 g1 g2 g3 g4 g5
      go_enter Try.func20, Try.ntmps20
      go_wp2_with fail
      refine (jNumber_any b N c i d w hN hi HD.out).mono ?_
      rintro e w1 ⟨rfl, he⟩
      rcases he with rfl | ⟨v, rfl, hlt, hs⟩
      · go_wp2_with fail
        go_ret
        exact ⟨Below.refl _ _, .inl rfl⟩
      · have HG := hide (good_plain hlt hs.2.1 (fun k k1 k2 => plain_of_num (hs.2.2 k k1 k2)))
        clear hs
        go_wp2_with fail
        go_ret
        exact ⟨Below.refl _ _, .inr ⟨v, rfl, HG.out⟩⟩
    have g6 : (d i == 45) = false := by simpa using hnum
    clear hnum
    cases hdg : isDig (d i) with
    | true =>
      go_enter Try.func20, Try.ntmps20
      go_wp2_with (go_at_call 27; refine (isDig_any _ _).mono ?_; rintro e w' ⟨rfl, rfl⟩)
      refine (jNumber_any b N c i d w hN hi HD.out).mono ?_
      rintro e w1 ⟨rfl, he⟩
      rcases he with rfl | ⟨v, rfl, hlt, hs⟩
      · go_wp2_with fail
        go_ret
        exact ⟨Below.refl _ _, .inl rfl⟩
      · have HG := hide (good_plain hlt hs.2.1 (fun k k1 k2 => plain_of_num (hs.2.2 k k1 k2)))
        clear hs
        go_wp2_with fail
        go_ret
        exact ⟨Below.refl _ _, .inr ⟨v, rfl, HG.out⟩⟩
    | false =>
      go_enter Try.func20, Try.ntmps20
      go_wp2_with (go_at_call 27; refine (isDig_any _ _).mono ?_; rintro e w' ⟨rfl, rfl⟩)
      go_ret
      exact ⟨Below.refl _ _, .inl rfl⟩
  · have hiI : (N : Int) ≤ (i : Int) := by omega
    have hi0 : ¬ ((i : Int) < 0) := by omega
    go_enter Try.func20, Try.ntmps20
    go_wp2_with fail
    go_ret
    exact ⟨Below.refl _ _, .inl rfl⟩

theorem jValue_all (b N c : Nat) (d : Nat → Int) (hN : N ≤ 65536) : ∀ i, JV b N c d i := by
  have key : ∀ n i, N - i ≤ n → JV b N c d i := by
    intro n
    induction n with
    | zero =>
      intro i hi
      refine jValue_step b N c i d hN (fun j hj => ?_)
      intro w hb hd
      have hiI : (N : Int) ≤ (j : Int) := by omega
      have hi0 : ¬ ((j : Int) < 0) := by omega
      go_enter Try.func20, Try.ntmps20
      go_wp2_with fail
      go_ret
      exact ⟨Below.refl _ _, .inl rfl⟩
    | succ n ih =>
      intro i hi
      by_cases hlt : i < N
      · exact jValue_step b N c i d hN (fun j hj => ih j (by omega))
      · exact ih i (by omega)
  exact fun i => key (N - i) i (Nat.le_refl _)

set_option maxHeartbeats 800000 in
theorem domain_any (b N c i : Nat) (d : Nat → Int) (w : World) (hN : N ≤ 65536) (hi : i < N) (ho : d i = 91 ∨ d i = 123) (hb : b < w.heap.size) (hd : Data w b N d) :
    Calls Try.prog 15 #[.slice (some ⟨b, 0, none⟩) N c, .int .i64 i] w fun e w' => Below w.heap.size w w' ∧ (e = .returned (.int .i64 (-1)) ∨ ∃ v : Nat, e = .returned (.int .i64 v) ∧ Good d N i v) := by
  have HD := hide hd
  clear hd
  have hiI : (i : Int) < (N : Int) := by omega
  go_enter Try.func15, Try.ntmps15
  go_wp2_with fail
  refine (jValue_all b N c d hN i w hb HD.out).mono ?_
  rintro e w1 ⟨hb1, he⟩
  have hc := HD.out.below hb1 hb i hi
  have HB := hide hb1
  clear hb1
  rcases he with rfl | ⟨v, rfl, hg⟩
  · go_wp2_with fail
    go_ret
    exact ⟨HB.out, .inl rfl⟩
  have HG := hide hg
  clear hg
  rcases ho with ho | ho
  · rw [ho] at hc
    clear ho
    go_wp2_with fail
    go_ret
    exact ⟨HB.out, .inr ⟨v, rfl, HG.out⟩⟩
  · rw [ho] at hc
    clear ho
    go_wp2_with fail
    go_ret
    exact ⟨HB.out, .inr ⟨v, rfl, HG.out⟩⟩

end Go.Proofs.Qxb6604001a
