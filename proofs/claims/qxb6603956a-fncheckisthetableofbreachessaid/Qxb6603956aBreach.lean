/-
  SEAT b6603956a: THE WALK OF FnCheckIsTheTableOfBreaches.
-/
import Derived.Test.Qxb6603956aCheck
import Derived.Test.Qxb6603956aListIs
namespace Go.Proofs.Qxb6603956a
open Go.RowKit
set_option maxRecDepth 100000

theorem chkListIs_sorted (kd : Int) (v : Value) (b n c : Nat) (P T D : Nat → Int) (w : World) (hn : n ≤ 4096) (hb : b < w.heap.size) (ht : Trip w b n P T D) (hv : ListAt w v (sorted (fun i => picks kd (T i) (D i)) P n)) :
    Calls Try.prog 13 #[v, .slice (some ⟨b, 0, none⟩) n c, .int .i64 kd] w fun e w' => e = .returned (.bool true) ∧ Below w.heap.size w w' := by
  obtain ⟨g, cap, rfl, hg, hc⟩ := hv
  have hl := sorted_length (fun i => picks kd (T i) (D i)) P n
  have hle := cntIf_le (fun i => picks kd (T i) (D i)) n
  refine chkListIs_true g _ cap b n c kd (fun i => (sorted (fun i => picks kd (T i) (D i)) P n).getD i 0) P T D w (by omega) hn hg hb hc ht hl.symm (fun i hi => sorted_up _ _ _ _ (by omega)) (fun i _ => ?_)
  rw [hl]
  exact sorted_count _ _ _ _

theorem BreachAt.below {w w' : World} {g o : Nat} {k : Int} {l m : List Int} (h : BreachAt w g o k l m) (hg : g < w.heap.size) (hb : Below w.heap.size w w') : BreachAt w' g o k l m := by
  obtain ⟨x, y, h0, h1, h2, h3, h4⟩ := h
  exact ⟨x, y, (hb.cell (p := ⟨g, o, none⟩) hg).trans h0, (hb.cell (p := ⟨g, o + 1, none⟩) hg).trans h1, (hb.cell (p := ⟨g, o + 1 + 1, none⟩) hg).trans h2, h3.below hb, h4.below hb⟩

theorem CheckRes.below {w w' : World} {v : Value} {n : Nat} {P T D : Nat → Int} (h : CheckRes w v n P T D) (hb : Below w.heap.size w w') : CheckRes w' v n P T D := by
  rcases h with h | ⟨a, b, c, g, cap, e, hg, h1⟩ | ⟨a, b, c, g, cap, e, hg, h1⟩ | ⟨a, b, c, g, cap, e, hg, h1, h2⟩
  · exact .inl h
  · exact .inr (.inl ⟨a, b, c, g, cap, e, Nat.lt_of_lt_of_le hg hb.size, h1.below hg hb⟩)
  · exact .inr (.inr (.inl ⟨a, b, c, g, cap, e, Nat.lt_of_lt_of_le hg hb.size, h1.below hg hb⟩))
  · exact .inr (.inr (.inr ⟨a, b, c, g, cap, e, Nat.lt_of_lt_of_le hg hb.size, h1.below hg hb, h2.below hg hb⟩))

theorem breach_long (a : Option Addr) (n c : Nat) (w : World) (h : 4096 < n) (hm : n ≤ 9223372036854775807) :
    Calls Try.prog 3 #[.slice a n c] w fun e w' => e = .returned (.bool true) ∧ Below w.heap.size w w' := by
  by_cases h2 : 1048576 < n
  · go_enter Try.func3, Try.ntmps3
    go_wp2
    go_ret
    exact ⟨rfl, Below.refl _ _⟩
  · go_enter Try.func3, Try.ntmps3
    go_wp2
    go_ret
    exact ⟨rfl, Below.refl _ _⟩

theorem breach_nil (w : World) : Calls Try.prog 3 #[.slice none 0 0] w fun e w' => e = .returned (.bool true) ∧ Below w.heap.size w w' := by
  have q25 : ∀ (w : World) (a : Option Addr) (n c n' c' : Nat), (binOp .eql 25 (.slice a n c) (.slice none n' c')).run Try.prog w = .ok (.bool a.isNone) w := fun w a n c n' c' => Lib.run_eql_slice_nil w _ _ a n c n' c' Try.underlying25
  go_enter Try.func3, Try.ntmps3
  go_wp2_with (go_at_call 8; go_in)
  refine (chkClone_nil w).mono ?_
  rintro e w1 ⟨rfl, rfl⟩
  go_wp2_with fail
  refine (chkOutcomes_nil w).mono ?_
  rintro e w1 ⟨rfl, rfl⟩
  go_wp2_with fail
  refine (check_empty none 0 w).mono ?_
  rintro e w1 ⟨rfl, rfl⟩
  go_wp2_with fail
  refine (chkHowMany_zero none 0 0 w).mono ?_
  rintro e w1 ⟨rfl, rfl⟩
  go_wp2_with fail
  refine (chkHowMany_zero none 0 1 w).mono ?_
  rintro e w1 ⟨rfl, rfl⟩
  go_wp2_with fail
  refine (chkHowMany_zero none 0 2 w).mono ?_
  rintro e w1 ⟨rfl, rfl⟩
  go_wp2_with fail
  go_ret
  exact ⟨rfl, Below.refl _ _⟩

theorem breach_empty (x : Addr) (c : Nat) (w : World) : Calls Try.prog 3 #[.slice (some x) 0 c] w fun e w' => e = .returned (.bool true) ∧ Below w.heap.size w w' := by
  have q25 : ∀ (w : World) (a : Option Addr) (n c n' c' : Nat), (binOp .eql 25 (.slice a n c) (.slice none n' c')).run Try.prog w = .ok (.bool a.isNone) w := fun w a n c n' c' => Lib.run_eql_slice_nil w _ _ a n c n' c' Try.underlying25
  go_enter Try.func3, Try.ntmps3
  go_wp2_with (go_at_call 8; go_in)
  refine (chkClone_empty x c w).mono ?_
  rintro e w1 ⟨rfl, hb1⟩
  have HB1 := hide hb1
  clear hb1
  go_wp2_with fail
  refine (chkOutcomes_empty ⟨w.heap.size, 0, none⟩ 0 w1).mono ?_
  rintro e w2 ⟨rfl, hb2⟩
  have HB2 := hide (HB1.out.trans (hb2.mono HB1.out.size))
  clear hb2
  go_wp2_with fail
  refine (check_empty _ 0 w2).mono ?_
  rintro e w3 ⟨rfl, rfl⟩
  go_wp2_with fail
  refine (chkHowMany_zero _ 0 0 w2).mono ?_
  rintro e w3 ⟨rfl, rfl⟩
  go_wp2_with fail
  refine (chkHowMany_zero _ 0 1 w2).mono ?_
  rintro e w3 ⟨rfl, rfl⟩
  go_wp2_with fail
  refine (chkHowMany_zero _ 0 2 w2).mono ?_
  rintro e w3 ⟨rfl, rfl⟩
  go_wp2_with fail
  go_ret
  exact ⟨rfl, HB2.out⟩

set_option maxHeartbeats 3200000 in
theorem breach_main (b off n c : Nat) (P T D : Nat → Int) (w : World) (hn0 : 0 < n) (hn : n ≤ 4096)
    (hc : ∀ i, i < n → w.cell? ⟨b, off + i * 3, none⟩ = some (.int .i64 (P i)) ∧ w.cell? ⟨b, off + i * 3 + 1, none⟩ = some (.int .u8 (T i)) ∧ w.cell? ⟨b, off + i * 3 + 1 + 1, none⟩ = some (.int .u8 (D i))) :
    Calls Try.prog 3 #[.slice (some ⟨b, off, none⟩) n c] w fun e w' => e = .returned (.bool true) ∧ Below w.heap.size w w' := by
  have q25 : ∀ (w : World) (a : Option Addr) (n c n' c' : Nat), (binOp .eql 25 (.slice a n c) (.slice none n' c')).run Try.prog w = .ok (.bool a.isNone) w := fun w a n c n' c' => Lib.run_eql_slice_nil w _ _ a n c n' c' Try.underlying25
  go_enter Try.func3, Try.ntmps3
  go_wp2_with (go_at_call 8; go_in)
  refine (chkClone_some b off n c P T D w hn hc).mono ?_
  rintro e w1 ⟨rfl, ht1, hs1, hb1⟩
  have H1 := hide (show _ ∧ _ ∧ _ from ⟨ht1, hs1, hb1⟩)
  clear ht1 hs1 hb1 hc
  go_wp2_with fail
  refine (chkOutcomes_some w.heap.size n n P T D w1 hn H1.out.1).mono ?_
  rintro e w2 ⟨rfl, ht2, hs2, hb2⟩
  have H2 := hide (show _ ∧ _ ∧ _ from ⟨ht2, hs2, hb2⟩)
  clear ht2 hs2 hb2
  go_wp2_with fail
  refine (check_any w1.heap.size n n P T D w2 hn (by have := H2.out.2.1; omega) H2.out.1).mono ?_
  rintro e w3 ⟨v, rfl, hb3, hr3⟩
  have hb13 : Below w1.heap.size w1 w3 := H2.out.2.2.trans (hb3.mono H2.out.2.2.size)
  have ht3 : Trip w3 w.heap.size n P T D := H1.out.1.below hb13 (by have := H1.out.2.1; omega)
  have hl3 : w.heap.size < w3.heap.size := by have := H1.out.2.1; have := hb13.size; omega
  have hbw : Below w.heap.size w w3 := H1.out.2.2.trans (hb13.mono (by have := H1.out.2.1; omega))
  have H3 := hide (show _ ∧ _ ∧ _ ∧ _ from ⟨ht3, hl3, hbw, hr3⟩)
  clear hb3 hr3 hb13 ht3 hl3 hbw
  go_wp2_with fail
  refine (chkHowMany_any w.heap.size n n 0 P T D w3 hn H3.out.2.1 H3.out.1).mono ?_
  rintro e w4 ⟨rfl, hb4⟩
  have H4 := hide (show Trip w4 w.heap.size n P T D ∧ w.heap.size < w4.heap.size ∧ Below w.heap.size w w4 ∧ CheckRes w4 v n P T D from ⟨H3.out.1.below hb4 H3.out.2.1, Nat.lt_of_lt_of_le H3.out.2.1 hb4.size, H3.out.2.2.1.trans (hb4.mono (Nat.le_of_lt H3.out.2.1)), H3.out.2.2.2.below hb4⟩)
  clear hb4
  go_wp2_with fail
  refine (chkHowMany_any w.heap.size n n 1 P T D w4 hn H4.out.2.1 H4.out.1).mono ?_
  rintro e w5 ⟨rfl, hb5⟩
  have H5 := hide (show Trip w5 w.heap.size n P T D ∧ w.heap.size < w5.heap.size ∧ Below w.heap.size w w5 ∧ CheckRes w5 v n P T D from ⟨H4.out.1.below hb5 H4.out.2.1, Nat.lt_of_lt_of_le H4.out.2.1 hb5.size, H4.out.2.2.1.trans (hb5.mono (Nat.le_of_lt H4.out.2.1)), H4.out.2.2.2.below hb5⟩)
  clear hb5
  go_wp2_with fail
  refine (chkHowMany_any w.heap.size n n 2 P T D w5 hn H5.out.2.1 H5.out.1).mono ?_
  rintro e w6 ⟨rfl, hb6⟩
  have H6 := hide (show Trip w6 w.heap.size n P T D ∧ w.heap.size < w6.heap.size ∧ Below w.heap.size w w6 ∧ CheckRes w6 v n P T D from ⟨H5.out.1.below hb6 H5.out.2.1, Nat.lt_of_lt_of_le H5.out.2.1 hb6.size, H5.out.2.2.1.trans (hb6.mono (Nat.le_of_lt H5.out.2.1)), H5.out.2.2.2.below hb6⟩)
  clear hb6
  have eC : (fun i => picks 0 (T i) (D i)) = pC T D := rfl
  have eA : (fun i => picks 1 (T i) (D i)) = pA T D := rfl
  have eN : (fun i => picks 2 (T i) (D i)) = pN T D := rfl
  rw [eC, eA, eN]
  clear eC eA eN
  obtain ⟨ht6, hl6, hb6, hr6⟩ := H6.out
  have HT := hide (show _ ∧ _ ∧ _ from ⟨ht6, hl6, hb6⟩)
  clear ht6 hl6 hb6 H6
  rcases hr6 with ⟨h0, rfl⟩ | ⟨hC, hA, hN, g, cap, rfl, hg, hB⟩ | ⟨hC, hA, hN, g, cap, rfl, hg, hB⟩ | ⟨hC, hA, hN, g, cap, rfl, hg, hB, hB'⟩
  · rcases h0 with h0 | ⟨h0, h1⟩
    · rw [h0]
      go_wp2_with fail
      go_ret
      exact ⟨rfl, HT.out.2.2⟩
    · rw [h0, h1]
      go_wp2_with fail
      all_goals
        go_ret
        exact ⟨rfl, HT.out.2.2⟩
  · rw [hN]
    obtain ⟨xw7, yw7, c0, c1, c2, lx, ly⟩ := hB
    simp at c0 c1 c2
    have HXw7 := hide lx
    have HYw7 := hide ly
    clear lx ly
    go_wp2_with fail
    refine (chkListIs_sorted 0 xw7 w.heap.size n n P T D w6 hn HT.out.2.1 HT.out.1 HXw7.out).mono ?_
    rintro e w7 ⟨rfl, hb7⟩
    have c2' := (hb7.cell (p := ⟨g, _, none⟩) hg).trans c2
    have hg7 : g < w7.heap.size := Nat.lt_of_lt_of_le hg hb7.size
    have HT7 := hide (show Trip w7 w.heap.size n P T D ∧ w.heap.size < w7.heap.size ∧ Below w.heap.size w w7 from ⟨HT.out.1.below hb7 HT.out.2.1, Nat.lt_of_lt_of_le HT.out.2.1 hb7.size, HT.out.2.2.trans (hb7.mono (Nat.le_of_lt HT.out.2.1))⟩)
    have HY7 := hide (HYw7.out.below hb7)
    clear hb7 c0 c1 c2
    go_wp2_with fail
    refine (chkListIs_sorted 1 yw7 w.heap.size n n P T D w7 hn HT7.out.2.1 HT7.out.1 HY7.out).mono ?_
    rintro e w8 ⟨rfl, hb8⟩
    have hg8 : g < w8.heap.size := Nat.lt_of_lt_of_le hg7 hb8.size
    have HT8 := hide (show Trip w8 w.heap.size n P T D ∧ w.heap.size < w8.heap.size ∧ Below w.heap.size w w8 from ⟨HT7.out.1.below hb8 HT7.out.2.1, Nat.lt_of_lt_of_le HT7.out.2.1 hb8.size, HT7.out.2.2.trans (hb8.mono (Nat.le_of_lt HT7.out.2.1))⟩)
    clear hb8 c2'
    go_wp2_with fail
    go_ret
    exact ⟨rfl, HT8.out.2.2⟩
  · rw [hA]
    obtain ⟨xw7, yw7, c0, c1, c2, lx, ly⟩ := hB
    simp at c0 c1 c2
    have HXw7 := hide lx
    have HYw7 := hide ly
    clear lx ly
    go_wp2_with fail
    refine (chkListIs_sorted 0 xw7 w.heap.size n n P T D w6 hn HT.out.2.1 HT.out.1 HXw7.out).mono ?_
    rintro e w7 ⟨rfl, hb7⟩
    have c2' := (hb7.cell (p := ⟨g, _, none⟩) hg).trans c2
    have hg7 : g < w7.heap.size := Nat.lt_of_lt_of_le hg hb7.size
    have HT7 := hide (show Trip w7 w.heap.size n P T D ∧ w.heap.size < w7.heap.size ∧ Below w.heap.size w w7 from ⟨HT.out.1.below hb7 HT.out.2.1, Nat.lt_of_lt_of_le HT.out.2.1 hb7.size, HT.out.2.2.trans (hb7.mono (Nat.le_of_lt HT.out.2.1))⟩)
    have HY7 := hide (HYw7.out.below hb7)
    clear hb7 c0 c1 c2
    go_wp2_with fail
    refine (chkListIs_sorted 2 yw7 w.heap.size n n P T D w7 hn HT7.out.2.1 HT7.out.1 HY7.out).mono ?_
    rintro e w8 ⟨rfl, hb8⟩
    have hg8 : g < w8.heap.size := Nat.lt_of_lt_of_le hg7 hb8.size
    have HT8 := hide (show Trip w8 w.heap.size n P T D ∧ w.heap.size < w8.heap.size ∧ Below w.heap.size w w8 from ⟨HT7.out.1.below hb8 HT7.out.2.1, Nat.lt_of_lt_of_le HT7.out.2.1 hb8.size, HT7.out.2.2.trans (hb8.mono (Nat.le_of_lt HT7.out.2.1))⟩)
    clear hb8 c2'
    go_wp2_with fail
    go_ret
    exact ⟨rfl, HT8.out.2.2⟩
  · have HB' := hide hB'
    clear hB'
    obtain ⟨xw7, yw7, c0, c1, c2, lx, ly⟩ := hB
    simp at c0 c1 c2
    have HXw7 := hide lx
    have HYw7 := hide ly
    clear lx ly
    go_wp2_with fail
    refine (chkListIs_sorted 0 xw7 w.heap.size n n P T D w6 hn HT.out.2.1 HT.out.1 HXw7.out).mono ?_
    rintro e w7 ⟨rfl, hb7⟩
    have c2' := (hb7.cell (p := ⟨g, _, none⟩) hg).trans c2
    have hg7 : g < w7.heap.size := Nat.lt_of_lt_of_le hg hb7.size
    have HT7 := hide (show Trip w7 w.heap.size n P T D ∧ w.heap.size < w7.heap.size ∧ Below w.heap.size w w7 from ⟨HT.out.1.below hb7 HT.out.2.1, Nat.lt_of_lt_of_le HT.out.2.1 hb7.size, HT.out.2.2.trans (hb7.mono (Nat.le_of_lt HT.out.2.1))⟩)
    have HY7 := hide (HYw7.out.below hb7)
    have HBB7 := hide (HB'.out.below hg hb7)
    clear hb7 c0 c1 c2
    go_wp2_with fail
    refine (chkListIs_sorted 1 yw7 w.heap.size n n P T D w7 hn HT7.out.2.1 HT7.out.1 HY7.out).mono ?_
    rintro e w8 ⟨rfl, hb8⟩
    have hg8 : g < w8.heap.size := Nat.lt_of_lt_of_le hg7 hb8.size
    have HT8 := hide (show Trip w8 w.heap.size n P T D ∧ w.heap.size < w8.heap.size ∧ Below w.heap.size w w8 from ⟨HT7.out.1.below hb8 HT7.out.2.1, Nat.lt_of_lt_of_le HT7.out.2.1 hb8.size, HT7.out.2.2.trans (hb8.mono (Nat.le_of_lt HT7.out.2.1))⟩)
    have HBB := HBB7.out.below hg7 hb8
    clear hb8 c2'
    clear hg hg7
    have hg := hg8
    clear hg8
    obtain ⟨xw9, yw9, c0, c1, c2, lx, ly⟩ := HBB
    simp at c0 c1 c2
    have HXw9 := hide lx
    have HYw9 := hide ly
    clear lx ly
    go_wp2_with fail
    refine (chkListIs_sorted 0 xw9 w.heap.size n n P T D w8 hn HT8.out.2.1 HT8.out.1 HXw9.out).mono ?_
    rintro e w9 ⟨rfl, hb7⟩
    have c2' := (hb7.cell (p := ⟨g, _, none⟩) hg).trans c2
    have hg7 : g < w9.heap.size := Nat.lt_of_lt_of_le hg hb7.size
    have HT7 := hide (show Trip w9 w.heap.size n P T D ∧ w.heap.size < w9.heap.size ∧ Below w.heap.size w w9 from ⟨HT8.out.1.below hb7 HT8.out.2.1, Nat.lt_of_lt_of_le HT8.out.2.1 hb7.size, HT8.out.2.2.trans (hb7.mono (Nat.le_of_lt HT8.out.2.1))⟩)
    have HY7 := hide (HYw9.out.below hb7)
    clear hb7 c0 c1 c2
    go_wp2_with fail
    refine (chkListIs_sorted 2 yw9 w.heap.size n n P T D w9 hn HT7.out.2.1 HT7.out.1 HY7.out).mono ?_
    rintro e w10 ⟨rfl, hb8⟩
    have hg8 : g < w10.heap.size := Nat.lt_of_lt_of_le hg7 hb8.size
    have HT10 := hide (show Trip w10 w.heap.size n P T D ∧ w.heap.size < w10.heap.size ∧ Below w.heap.size w w10 from ⟨HT7.out.1.below hb8 HT7.out.2.1, Nat.lt_of_lt_of_le HT7.out.2.1 hb8.size, HT7.out.2.2.trans (hb8.mono (Nat.le_of_lt HT7.out.2.1))⟩)
    clear hb8 c2'
    go_wp2_with fail
    go_ret
    exact ⟨rfl, HT10.out.2.2⟩

end Go.Proofs.Qxb6603956a
