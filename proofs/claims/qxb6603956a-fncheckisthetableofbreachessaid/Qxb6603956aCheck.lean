/-
  SEAT b6603956a: THE WALK OF pactum.Check.
-/
import Derived.Test.Qxb6603956aGath
namespace Go.Proofs.Qxb6603956a
open Go.RowKit
set_option maxRecDepth 100000

/-- The three tests. -/
def pC (_T D : Nat → Int) : Nat → Bool := fun i => picks 0 (_T i) (D i)
def pA (_T D : Nat → Int) : Nat → Bool := fun i => picks 1 (_T i) (D i)
def pN (T _D : Nat → Int) : Nat → Bool := fun i => picks 2 (T i) (_D i)

/-- The gathered slices after k outcomes. -/
def GathAt (w wr : World) (v1 v2 v3 : Value) (P T D : Nat → Int) (k : Nat) : Prop :=
  Gath w wr v1 v2 v3 (gather (pC T D) P k) (gather (pA T D) P k) (gather (pN T D) P k)

theorem hide {p : Prop} (h : p) : Hid p := h

/-- The one element that append lays, behind a block laid before it. -/
theorem one_behind (w : World) (o : Obj) (x : Value) (t : TypeId) : ∀ j u, [x][j]? = some u → ((w.alloc o).alloc (.cells #[x] t)).cell? ((⟨w.heap.size + 1, 0, none⟩ : Addr).add j) = some u := by
  have h := cell_one_new (w.alloc o) x t
  rw [World.size_alloc] at h
  exact h
theorem one_cell (x : Int) : ∀ u ∈ [Value.int .i64 x], u.oneCell' = true := by
  intro u hu; simp at hu; subst hu; rfl

/-- One breach in memory: its property's number and its two lists. -/
def BreachAt (w : World) (g o : Nat) (k : Int) (l m : List Int) : Prop :=
  ∃ x y, w.cell? ⟨g, o, none⟩ = some (.int .u8 k) ∧ w.cell? ⟨g, o + 1, none⟩ = some x ∧ w.cell? ⟨g, o + 1 + 1, none⟩ = some y ∧ ListAt w x l ∧ ListAt w y m

/-- WHAT Check HANDS BACK. -/
def CheckRes (w : World) (v : Value) (n : Nat) (P T D : Nat → Int) : Prop :=
  ((cntIf (pC T D) n = 0 ∨ (cntIf (pA T D) n = 0 ∧ cntIf (pN T D) n = 0)) ∧ v = .slice none 0 0) ∨
  (0 < cntIf (pC T D) n ∧ 0 < cntIf (pA T D) n ∧ cntIf (pN T D) n = 0 ∧ ∃ g cap, v = .slice (some ⟨g, 0, none⟩) 1 cap ∧ g < w.heap.size ∧ BreachAt w g 0 1 (sorted (pC T D) P n) (sorted (pA T D) P n)) ∨
  (0 < cntIf (pC T D) n ∧ cntIf (pA T D) n = 0 ∧ 0 < cntIf (pN T D) n ∧ ∃ g cap, v = .slice (some ⟨g, 0, none⟩) 1 cap ∧ g < w.heap.size ∧ BreachAt w g 0 2 (sorted (pC T D) P n) (sorted (pN T D) P n)) ∨
  (0 < cntIf (pC T D) n ∧ 0 < cntIf (pA T D) n ∧ 0 < cntIf (pN T D) n ∧ ∃ g cap, v = .slice (some ⟨g, 0, none⟩) 2 cap ∧ g < w.heap.size ∧ BreachAt w g 0 1 (sorted (pC T D) P n) (sorted (pA T D) P n) ∧ BreachAt w g 3 2 (sorted (pC T D) P n) (sorted (pN T D) P n))

theorem info33 : (Try.prog.info? 33).map (fun i => (i.zero, i.size, i.bytes)) = some (some (.agg #[.int .u8 0, .slice none 0 0, .slice none 0 0]), 3, 56) := by kernel_rfl

theorem three_new (w : World) (x y z : Value) (t : TypeId) : ∀ j u, [x, y, z][j]? = some u → (w.alloc (.cells #[x, y, z] t)).cell? ((⟨w.heap.size, 0, none⟩ : Addr).add j) = some u := by
  intro j u hj
  match j, hj with
  | 0, hj => simp at hj; subst hj; simp [Addr.add]
  | 1, hj => simp at hj; subst hj; simp [Addr.add]
  | 2, hj => simp at hj; subst hj; simp [Addr.add]
theorem three_cells (k : Int) (a b : Option Addr) (n c n' c' : Nat) : ∀ u ∈ [Value.int .u8 k, .slice a n c, .slice b n' c'], u.oneCell' = true := by
  intro u hu; simp at hu; rcases hu with rfl | rfl | rfl <;> rfl

theorem breach_own {w : World} {base g cap n : Nat} {xs : List Value} {k : Int} {x y : Value} {l m : List Int} (o : Nat) (h : w.ownsRow base 33 3 (.slice (some ⟨g, 0, none⟩) n cap) n xs) (ho : o + 2 < n * 3) (h0 : xs[o]? = some (.int .u8 k)) (h1 : xs[o + 1]? = some x) (h2 : xs[o + 1 + 1]? = some y)
    (hx : ListAt w x l) (hy : ListAt w y m) : BreachAt w g o k l m :=
  ⟨x, y, by rw [h.cellAt o (by omega), h0], by rw [h.cellAt (o + 1) (by omega), h1], by rw [h.cellAt (o + 1 + 1) (by omega), h2], hx, hy⟩

theorem own_lt {w : World} {base e s n cap g : Nat} {a : Option Addr} {xs : List Value} (h : w.ownsRow base e s (.slice a n cap) n xs) (ha : a = some ⟨g, 0, none⟩) : g < w.heap.size := by
  subst ha; exact (h.lt g rfl).2

set_option maxHeartbeats 6400000 in
theorem check_any (b n c : Nat) (P T D : Nat → Int) (w : World) (hn : n ≤ 4096) (hb : b < w.heap.size) (ht : Trip w b n P T D) :
    Calls Try.prog 10 #[.slice (some ⟨b, 0, none⟩) n c] w fun e w' => ∃ v, e = .returned v ∧ Below w.heap.size w w' ∧ CheckRes w' v n P T D := by
  obtain ⟨i0, hi, hz0, hz1, hz2⟩ := info_parts info3
  go_enter Try.func10, Try.ntmps10
  go_wp2_with fail
  go_loopw [3, 4, 5, 11] (fun v1 v2 v3 i wr => ∃ k : Nat, k ≤ n ∧ i = .int .i64 k ∧ GathAt w wr v1 v2 v3 P T D k) (fun _ _ _ i _ => n - (intOf i).toNat)
  case atStart => exact ⟨0, Nat.zero_le _, rfl, Gath.start w⟩
  case round =>
    obtain ⟨k, hk, rfl, hG⟩ := hrel
    by_cases hlt : k < n
    · obtain ⟨c0, c1, c2⟩ := ht.below hG.below hb k hlt
      have hil : (k : Int) < (n : Int) := by omega
      have HG : Hid (GathAt w wr u3 u4 u5 P T D k) := hG
      clear hG
      have hl1 : (gather (pC T D) P k).length ≤ k := by rw [gather_length]; exact cntIf_le _ _
      have hl2 : (gather (pA T D) P k).length ≤ k := by rw [gather_length]; exact cntIf_le _ _
      have hl3 : (gather (pN T D) P k).length ≤ k := by rw [gather_length]; exact cntIf_le _ _
      by_cases hd1 : D k = 1
      · rw [hd1] at c2
        have HE : Hid (gather (pC T D) P (k + 1) = gather (pC T D) P k ++ [P k] ∧ gather (pA T D) P (k + 1) = gather (pA T D) P k) :=
          ⟨gather_yes (by simp [pC, picks, hd1]), gather_no (by simp [pA, picks, hd1])⟩
        clear hd1
        go_wp2_with (at_builtin; refine wpList_append_own_at _ rfl (.tmp 19) (.tmp 22) 31 rfl w.heap.size 3 i0 (.int .i64 0) 1 8 Try.underlying31 hi hz0 hz1 hz2 rfl (by decide) u3 (gather (pC T D) P k).length ((gather (pC T D) P k).map (Value.int .i64)) rfl ((HG.out.o1.alloc _).alloc _) ⟨wr.heap.size + 1, 0, none⟩ 1 1 [.int .i64 (P k)] rfl rfl ?c1 ?c2 ?c3 ?c4 ?c5 ?_)
        case c1 => exact one_behind _ _ _ _
        case c2 => exact one_cell _
        case c3 => unfold maxLen; omega
        case c4 => omega
        case c5 => have := HG.out.below.size; simp; omega
        intro v' w1 hown hgrow _ hat
        have hG1 := ((HG.out.alloc _).alloc _).push1 hgrow hown (by simpa using hat)
        have hu : ∀ g, u3.ownBlock = some g → g ≠ wr.heap.size := fun g hg => by have := (HG.out.o1.lt g hg).2; omega
        have o0 : w1.cell? ⟨wr.heap.size, 0, none⟩ = some (.int .i64 (P k)) := by rw [grown_cell hgrow (by simp; omega) hu]; simp
        have o1 : w1.cell? ⟨wr.heap.size, 1, none⟩ = some (.int .u8 (T k)) := by rw [grown_cell hgrow (by simp; omega) hu]; simp
        clear hown hgrow hat hu
        have H1 := hide hG1
        clear hG1
        by_cases ht1 : T k = 1
        · rw [ht1] at o1
          have H2 : Hid (gather (pN T D) P (k + 1) = gather (pN T D) P k) := gather_no (by simp [pN, picks, ht1])
          clear ht1
          go_wp2_with fail
          go_roundw
          case rel => exact ⟨k + 1, by omega, by go_num, by unfold GathAt; rw [HE.out.1, HE.out.2, H2.out]; exact H1.out⟩
          case measure => simp [intOf]; omega
        · have ht1' : (T k != 1) = true := by rw [bne_iff_ne]; exact ht1
          have H2 : Hid (gather (pN T D) P (k + 1) = gather (pN T D) P k ++ [P k]) := gather_yes (by simp [pN, picks, ht1])
          clear ht1
          go_wp2_with (at_builtin; refine wpList_append_own_at _ rfl (.tmp 34) (.tmp 37) 31 rfl w.heap.size 3 i0 (.int .i64 0) 1 8 Try.underlying31 hi hz0 hz1 hz2 rfl (by decide) u5 (gather (pN T D) P k).length ((gather (pN T D) P k).map (Value.int .i64)) rfl (H1.out.o3.alloc _) ⟨w1.heap.size, 0, none⟩ 1 1 [.int .i64 (P k)] rfl rfl ?e1 ?e2 ?e3 ?e4 ?e5 ?_)
          case e1 => exact cell_one_new _ _ _
          case e2 => exact one_cell _
          case e3 => unfold maxLen; omega
          case e4 => omega
          case e5 => have := H1.out.below.size; simp; omega
          intro v'' w2 hown hgrow _ hat
          have H3 := hide ((H1.out.alloc _).push3 hgrow hown (by simpa using hat))
          clear hown hgrow hat
          go_wp2_with fail
          go_roundw
          case rel => exact ⟨k + 1, by omega, by go_num, by unfold GathAt; rw [HE.out.1, HE.out.2, H2.out]; exact H3.out⟩
          case measure => simp [intOf]; omega
      · by_cases hd2 : D k = 2
        · rw [hd2] at c2
          have HE : Hid (gather (pC T D) P (k + 1) = gather (pC T D) P k ∧ gather (pA T D) P (k + 1) = gather (pA T D) P k ++ [P k]) :=
            ⟨gather_no (by simp [pC, picks, hd2]), gather_yes (by simp [pA, picks, hd2])⟩
          clear hd1 hd2
          go_wp2_with (at_builtin; refine wpList_append_own_at _ rfl (.tmp 26) (.tmp 29) 31 rfl w.heap.size 3 i0 (.int .i64 0) 1 8 Try.underlying31 hi hz0 hz1 hz2 rfl (by decide) u4 (gather (pA T D) P k).length ((gather (pA T D) P k).map (Value.int .i64)) rfl ((HG.out.o2.alloc _).alloc _) ⟨wr.heap.size + 1, 0, none⟩ 1 1 [.int .i64 (P k)] rfl rfl ?d1 ?d2 ?d3 ?d4 ?d5 ?_)
          case d1 => exact one_behind _ _ _ _
          case d2 => exact one_cell _
          case d3 => unfold maxLen; omega
          case d4 => omega
          case d5 => have := HG.out.below.size; simp; omega
          intro v' w1 hown hgrow _ hat
          have hG1 := ((HG.out.alloc _).alloc _).push2 hgrow hown (by simpa using hat)
          have hu : ∀ g, u4.ownBlock = some g → g ≠ wr.heap.size := fun g hg => by have := (HG.out.o2.lt g hg).2; omega
          have o0 : w1.cell? ⟨wr.heap.size, 0, none⟩ = some (.int .i64 (P k)) := by rw [grown_cell hgrow (by simp; omega) hu]; simp
          have o1 : w1.cell? ⟨wr.heap.size, 1, none⟩ = some (.int .u8 (T k)) := by rw [grown_cell hgrow (by simp; omega) hu]; simp
          clear hown hgrow hat hu
          have H1 := hide hG1
          clear hG1
          by_cases ht1 : T k = 1
          · rw [ht1] at o1
            have H2 : Hid (gather (pN T D) P (k + 1) = gather (pN T D) P k) := gather_no (by simp [pN, picks, ht1])
            clear ht1
            go_wp2_with fail
            go_roundw
            case rel => exact ⟨k + 1, by omega, by go_num, by unfold GathAt; rw [HE.out.1, HE.out.2, H2.out]; exact H1.out⟩
            case measure => simp [intOf]; omega
          · have ht1' : (T k != 1) = true := by rw [bne_iff_ne]; exact ht1
            have H2 : Hid (gather (pN T D) P (k + 1) = gather (pN T D) P k ++ [P k]) := gather_yes (by simp [pN, picks, ht1])
            clear ht1
            go_wp2_with (at_builtin; refine wpList_append_own_at _ rfl (.tmp 34) (.tmp 37) 31 rfl w.heap.size 3 i0 (.int .i64 0) 1 8 Try.underlying31 hi hz0 hz1 hz2 rfl (by decide) u5 (gather (pN T D) P k).length ((gather (pN T D) P k).map (Value.int .i64)) rfl (H1.out.o3.alloc _) ⟨w1.heap.size, 0, none⟩ 1 1 [.int .i64 (P k)] rfl rfl ?e1 ?e2 ?e3 ?e4 ?e5 ?_)
            case e1 => exact cell_one_new _ _ _
            case e2 => exact one_cell _
            case e3 => unfold maxLen; omega
            case e4 => omega
            case e5 => have := H1.out.below.size; simp; omega
            intro v'' w2 hown hgrow _ hat
            have H3 := hide ((H1.out.alloc _).push3 hgrow hown (by simpa using hat))
            clear hown hgrow hat
            go_wp2_with fail
            go_roundw
            case rel => exact ⟨k + 1, by omega, by go_num, by unfold GathAt; rw [HE.out.1, HE.out.2, H2.out]; exact H3.out⟩
            case measure => simp [intOf]; omega
        · skip
          have HE : Hid (gather (pC T D) P (k + 1) = gather (pC T D) P k ∧ gather (pA T D) P (k + 1) = gather (pA T D) P k) :=
            ⟨gather_no (by simp [pC, picks, hd1]), gather_no (by simp [pA, picks, hd2])⟩
          have hd1' : (D k == 1) = false := by simpa using hd1
          have hd2' : (D k == 2) = false := by simpa using hd2
          clear hd1 hd2
          by_cases ht1 : T k = 1
          · rw [ht1] at c1
            have H2 : Hid (gather (pN T D) P (k + 1) = gather (pN T D) P k) := gather_no (by simp [pN, picks, ht1])
            clear ht1
            go_wp2_with fail
            go_roundw
            case rel => exact ⟨k + 1, by omega, by go_num, by unfold GathAt; rw [HE.out.1, HE.out.2, H2.out]; exact HG.out.alloc _⟩
            case measure => simp [intOf]; omega
          · have ht1' : (T k != 1) = true := by rw [bne_iff_ne]; exact ht1
            have H2 : Hid (gather (pN T D) P (k + 1) = gather (pN T D) P k ++ [P k]) := gather_yes (by simp [pN, picks, ht1])
            clear ht1
            go_wp2_with (at_builtin; refine wpList_append_own_at _ rfl (.tmp 34) (.tmp 37) 31 rfl w.heap.size 3 i0 (.int .i64 0) 1 8 Try.underlying31 hi hz0 hz1 hz2 rfl (by decide) u5 (gather (pN T D) P k).length ((gather (pN T D) P k).map (Value.int .i64)) rfl ((HG.out.o3.alloc _).alloc _) ⟨wr.heap.size + 1, 0, none⟩ 1 1 [.int .i64 (P k)] rfl rfl ?e1 ?e2 ?e3 ?e4 ?e5 ?_)
            case e1 => exact one_behind _ _ _ _
            case e2 => exact one_cell _
            case e3 => unfold maxLen; omega
            case e4 => omega
            case e5 => have := HG.out.below.size; simp; omega
            intro v'' w2 hown hgrow _ hat
            have H3 := hide (((HG.out.alloc _).alloc _).push3 hgrow hown (by simpa using hat))
            clear hown hgrow hat
            go_wp2_with fail
            go_roundw
            case rel => exact ⟨k + 1, by omega, by go_num, by unfold GathAt; rw [HE.out.1, HE.out.2, H2.out]; exact H3.out⟩
            case measure => simp [intOf]; omega
    · obtain rfl : k = n := by omega
      have hlC : (gather (pC T D) P k).length = cntIf (pC T D) k := gather_length _ _ _
      have hlA : (gather (pA T D) P k).length = cntIf (pA T D) k := gather_length _ _ _
      have hlN : (gather (pN T D) P k).length = cntIf (pN T D) k := gather_length _ _ _
      have hbC := cntIf_le (pC T D) k
      have hbA := cntIf_le (pA T D) k
      have hbN := cntIf_le (pN T D) k
      by_cases hC : cntIf (pC T D) k = 0
      · obtain ⟨a1, c1, hu3⟩ := own_shape hG.o1
        rw [hlC, hC] at hu3
        subst hu3
        have HB : Hid (Below w.heap.size w wr ∧ cntIf (pC T D) k = 0) := ⟨hG.below, hC⟩
        clear hG hlC hlA hlN hbC hbA hbN hC
        go_wp2_with fail
        go_ret
        exact ⟨_, rfl, HB.out.1, .inl ⟨.inl HB.out.2, rfl⟩⟩
      · have hC0 : 0 < cntIf (pC T D) k := by omega
        obtain ⟨g1, c1, hu3, _, _⟩ := hG.o1.form (by omega)
        subst hu3
        obtain ⟨a2, c2, hu4⟩ := own_shape hG.o2
        subst hu4
        obtain ⟨a3, c3, hu5⟩ := own_shape hG.o3
        subst hu5
        have HG : Hid (GathAt w wr _ _ _ P T D k) := hG
        have HL : Hid ((gather (pC T D) P k).length = cntIf (pC T D) k ∧ (gather (pA T D) P k).length = cntIf (pA T D) k ∧ (gather (pN T D) P k).length = cntIf (pN T D) k) := ⟨hlC, hlA, hlN⟩
        have hC1 : (((gather (pC T D) P k).length : Int) == 0) = false := beq_eq_false_iff_ne.2 (by omega)
        have hCb : (gather (pC T D) P k).length ≤ 4096 := by omega
        clear hG hlC hlA hlN hC
        go_wp2_with fail
        refine (sort_own w.heap.size g1 c1 (gather (pC T D) P k) wr HG.out.o1 hCb).mono ?_
        rintro e w1 ⟨rfl, ho1, hg1⟩
        have H1 := hide (HG.out.sort1 hg1 ho1)
        clear ho1 hg1
        by_cases hA : cntIf (pA T D) k = 0
        · have HA := hide hA
          have hA1 : ¬ ((0 : Int) < ((gather (pA T D) P k).length : Int)) := by rw [HL.out.2.1]; omega
          clear hA
          by_cases hN : cntIf (pN T D) k = 0
          · have hN1 : ¬ ((0 : Int) < ((gather (pN T D) P k).length : Int)) := by rw [HL.out.2.2]; omega
            have HF := hide (show Below w.heap.size w w1 ∧ CheckRes w1 (.slice none 0 0) k P T D from ⟨H1.out.below, .inl ⟨.inr ⟨HA.out, hN⟩, rfl⟩⟩)
            clear hN
            go_wp2_with fail
            go_ret
            exact ⟨_, rfl, HF.out⟩
          · skip
            have hN0 : 0 < cntIf (pN T D) k := by omega
            obtain ⟨g3, c3', hu5, _, _⟩ := HG.out.o3.form (by rw [HL.out.2.2]; exact hN0)
            obtain ⟨rfl, _, rfl⟩ := Value.slice.inj hu5
            have hN1 : (0 : Int) < ((gather (pN T D) P k).length : Int) := by rw [HL.out.2.2]; omega
            have hNb : (gather (pN T D) P k).length ≤ 4096 := by rw [HL.out.2.2]; omega
            clear hN hu5
            go_wp2_with fail
            refine (sort_own w.heap.size g3 c3 (gather (pN T D) P k) w1 H1.out.o3 hNb).mono ?_
            rintro e w4 ⟨rfl, ho3, hg3⟩
            have H4 := hide (H1.out.sort3 hg3 ho3)
            clear ho3 hg3
            have hcl : ∀ j, j < (sorted (pC T D) P k).length → w4.cell? ⟨g1, 0 + j, none⟩ = some (.int .i64 ((sorted (pC T D) P k).getD j 0)) := by
              obtain ⟨g, cap, hv, _, hcc⟩ := listAt_own H4.out.o1 (by rw [List.length_mergeSort, HL.out.1]; exact hC0)
              obtain ⟨hg, _, _⟩ := Value.slice.inj hv
              cases hg
              intro j hj; rw [Nat.zero_add]; exact hcc j hj
            have hzl : (gather (pC T D) P k).length ≤ (sorted (pC T D) P k).length := by unfold sorted; rw [List.length_mergeSort]; exact Nat.le_refl _
            have HC := hide hcl
            clear hcl
            go_wp2_with fail
            refine (Try.slices_Clone_int g1 0 (gather (pC T D) P k).length c1 (sorted (pC T D) P k) w4 hzl (by omega) HC.out).mono ?_
            rintro e w5 ⟨v5, rfl, ho5, _, hb5⟩
            obtain ⟨g5, c5, hv5, hg5, _⟩ := ho5.form (by rw [HL.out.1]; exact hC0)
            rw [hv5] at ho5 ⊢
            clear hv5
            have hzt : (sorted (pC T D) P k).take (gather (pC T D) P k).length = sorted (pC T D) P k := List.take_of_length_le (by unfold sorted; rw [List.length_mergeSort]; exact Nat.le_refl _)
            rw [hzt] at ho5
            have H5 := hide (H4.out.keep (below_grown hb5 none))
            have K5 := hide ho5
            have hs45 := hb5.size
            have HA5 := hide hg5
            clear ho5 hb5 hzt hzl
            obtain ⟨i1, hi1, hy0, hy1, hy2⟩ := info_parts info33
            go_wp2_with (at_builtin; refine wpList_append_own_at _ rfl (.tmp 61) (.tmp 66) 25 rfl w.heap.size 33 i1 (.agg #[.int .u8 0, .slice none 0 0, .slice none 0 0]) 3 56 Try.underlying25 hi1 hy0 hy1 hy2 rfl (by decide) (.slice none 0 0) 0 [] rfl (World.ownsRow_nil _ _ _ _) ⟨w5.heap.size, 0, none⟩ 1 1 [.int .u8 2, .slice (some ⟨g5, 0, none⟩) (gather (pC T D) P k).length c5, .slice (some ⟨g3, 0, none⟩) (gather (pN T D) P k).length c3] rfl rfl ?b1 ?b2 ?b3 ?b4 ?b5 ?_)
            case b1 => exact three_new _ _ _ _ _
            case b2 => exact three_cells _ _ _ _ _ _ _
            case b3 => unfold maxLen; omega
            case b4 => omega
            case b5 => have := H5.out.below.size; simp; omega
            intro v9 w6 hown9 hgrow9 _ hat9
            obtain ⟨g9, c9, hv9, _, hl9⟩ := hown9.form (by omega)
            rw [hv9] at hown9 ⊢
            clear hv9 hat9
            have H6 := (H5.out.alloc _).keep hgrow9
            have K6 := (K5.out.alloc _).kept hgrow9 (by simp [Value.ownBlock])
            have lK : ListAt w6 (.slice (some ⟨g5, 0, none⟩) (gather (pC T D) P k).length c5) (sorted (pC T D) P k) := listAt_own (base := w4.heap.size) (by rw [sorted_length, ← HL.out.1]; exact K6) (by rw [sorted_length]; exact hC0)
            have lN : ListAt w6 (.slice (some ⟨g3, 0, none⟩) (gather (pN T D) P k).length c3) (sorted (pN T D) P k) := listAt_own H6.o3 (by rw [sorted_length]; exact hN0)
            have B2 := breach_own 0 hown9 (by omega) rfl rfl rfl lK lN
            have HF := hide (show Below w.heap.size w w6 ∧ CheckRes w6 (.slice (some ⟨g9, 0, none⟩) 1 c9) k P T D from ⟨H6.below, .inr (.inr (.inl ⟨hC0, HA.out, hN0, g9, c9, rfl, hl9, B2⟩))⟩)
            clear H6 K6 lK lN B2 hown9 hgrow9
            go_wp2_with fail
            go_ret
            exact ⟨_, rfl, HF.out⟩
        · have hA0 : 0 < cntIf (pA T D) k := by omega
          obtain ⟨g2, c2', hu4, _, _⟩ := HG.out.o2.form (by rw [HL.out.2.1]; exact hA0)
          obtain ⟨rfl, _, rfl⟩ := Value.slice.inj hu4
          have hA1 : (0 : Int) < ((gather (pA T D) P k).length : Int) := by rw [HL.out.2.1]; omega
          have hAb : (gather (pA T D) P k).length ≤ 4096 := by rw [HL.out.2.1]; omega
          clear hA hu4
          go_wp2_with fail
          refine (sort_own w.heap.size g2 c2 (gather (pA T D) P k) w1 H1.out.o2 hAb).mono ?_
          rintro e w2 ⟨rfl, ho2, hg2⟩
          have H2 := hide (H1.out.sort2 hg2 ho2)
          clear ho2 hg2
          obtain ⟨i1, hi1, hy0, hy1, hy2⟩ := info_parts info33
          go_wp2_with (at_builtin; refine wpList_append_own_at _ rfl (.tmp 50) (.tmp 54) 25 rfl w.heap.size 33 i1 (.agg #[.int .u8 0, .slice none 0 0, .slice none 0 0]) 3 56 Try.underlying25 hi1 hy0 hy1 hy2 rfl (by decide) (.slice none 0 0) 0 [] rfl (World.ownsRow_nil _ _ _ _) ⟨w2.heap.size, 0, none⟩ 1 1 [.int .u8 1, .slice (some ⟨g1, 0, none⟩) (gather (pC T D) P k).length c1, .slice (some ⟨g2, 0, none⟩) (gather (pA T D) P k).length c2] rfl rfl ?a1 ?a2 ?a3 ?a4 ?a5 ?_)
          case a1 => exact three_new _ _ _ _ _
          case a2 => exact three_cells _ _ _ _ _ _ _
          case a3 => unfold maxLen; omega
          case a4 => omega
          case a5 => have := H2.out.below.size; simp; omega
          intro v8 w3 hown8 hgrow8 _ hat8
          obtain ⟨g8, c8, hv8, _, hl8⟩ := hown8.form (by omega)
          have p1 := apart_new (v := .slice none 0 0) (fun g h => by cases h) (H2.out.alloc (.cells #[] 3)).o1 (by simpa using hat8)
          have p2 := apart_new (v := .slice none 0 0) (fun g h => by cases h) (H2.out.alloc (.cells #[] 3)).o2 (by simpa using hat8)
          have p3 := apart_new (v := .slice none 0 0) (fun g h => by cases h) (H2.out.alloc (.cells #[] 3)).o3 (by simpa using hat8)
          rw [hv8] at hown8 p1 p2 p3 ⊢
          have H3 := hide ((H2.out.alloc _).keep hgrow8)
          have O3 := hide (show _ ∧ _ ∧ _ ∧ _ from ⟨hown8, p1, p2, p3⟩)
          clear hv8 hown8 p1 p2 p3 hgrow8 hat8
          by_cases hN : cntIf (pN T D) k = 0
          · have hN1 : ¬ ((0 : Int) < ((gather (pN T D) P k).length : Int)) := by rw [HL.out.2.2]; omega
            have lC : ListAt w3 (.slice (some ⟨g1, 0, none⟩) (gather (pC T D) P k).length c1) (sorted (pC T D) P k) := listAt_own H3.out.o1 (by rw [sorted_length]; exact hC0)
            have lA : ListAt w3 (.slice (some ⟨g2, 0, none⟩) (gather (pA T D) P k).length c2) (sorted (pA T D) P k) := listAt_own H3.out.o2 (by rw [sorted_length]; exact hA0)
            have B1 := breach_own 0 O3.out.1 (by omega) rfl rfl rfl lC lA
            have HF := hide (show Below w.heap.size w w3 ∧ CheckRes w3 (.slice (some ⟨g8, 0, none⟩) 1 c8) k P T D from ⟨H3.out.below, .inr (.inl ⟨hC0, hA0, hN, g8, c8, rfl, hl8, B1⟩)⟩)
            clear lC lA B1 hN
            go_wp2_with fail
            go_ret
            exact ⟨_, rfl, HF.out⟩
          · skip
            have hN0 : 0 < cntIf (pN T D) k := by omega
            obtain ⟨g3, c3', hu5, _, _⟩ := HG.out.o3.form (by rw [HL.out.2.2]; exact hN0)
            obtain ⟨rfl, _, rfl⟩ := Value.slice.inj hu5
            have hN1 : (0 : Int) < ((gather (pN T D) P k).length : Int) := by rw [HL.out.2.2]; omega
            have hNb : (gather (pN T D) P k).length ≤ 4096 := by rw [HL.out.2.2]; omega
            clear hN hu5
            go_wp2_with fail
            refine (sort_own w.heap.size g3 c3 (gather (pN T D) P k) w3 H3.out.o3 hNb).mono ?_
            rintro e w4 ⟨rfl, ho3, hg3⟩
            have H4 := hide (H3.out.sort3 hg3 ho3)
            have O4 := hide (kept_apart (v := .slice (some ⟨g3, 0, none⟩) (gather (pN T D) P k).length c3) O3.out.1 hg3 O3.out.2.2.2.symm)
            clear ho3 hg3
            have hcl : ∀ j, j < (sorted (pC T D) P k).length → w4.cell? ⟨g1, 0 + j, none⟩ = some (.int .i64 ((sorted (pC T D) P k).getD j 0)) := by
              obtain ⟨g, cap, hv, _, hcc⟩ := listAt_own H4.out.o1 (by rw [List.length_mergeSort, HL.out.1]; exact hC0)
              obtain ⟨hg, _, _⟩ := Value.slice.inj hv
              cases hg
              intro j hj; rw [Nat.zero_add]; exact hcc j hj
            have hzl : (gather (pC T D) P k).length ≤ (sorted (pC T D) P k).length := by unfold sorted; rw [List.length_mergeSort]; exact Nat.le_refl _
            have HC := hide hcl
            clear hcl
            go_wp2_with fail
            refine (Try.slices_Clone_int g1 0 (gather (pC T D) P k).length c1 (sorted (pC T D) P k) w4 hzl (by omega) HC.out).mono ?_
            rintro e w5 ⟨v5, rfl, ho5, _, hb5⟩
            obtain ⟨g5, c5, hv5, hg5, _⟩ := ho5.form (by rw [HL.out.1]; exact hC0)
            rw [hv5] at ho5 ⊢
            clear hv5
            have hzt : (sorted (pC T D) P k).take (gather (pC T D) P k).length = sorted (pC T D) P k := List.take_of_length_le (by unfold sorted; rw [List.length_mergeSort]; exact Nat.le_refl _)
            rw [hzt] at ho5
            have H5 := hide (H4.out.keep (below_grown hb5 none))
            have K5 := hide ho5
            have hs45 := hb5.size
            have O5 := hide (O4.out.kept (below_grown hb5 none) (by simp [Value.ownBlock]))
            have hg8 : g8 < w4.heap.size := own_lt O4.out rfl
            have a85 : Apart (.slice (some ⟨g8, 0, none⟩) 1 c8) (.slice (some ⟨g5, 0, none⟩) (gather (pC T D) P k).length c5) := by intro g h h'; simp [Value.ownBlock] at h h'; omega
            have HA5 := hide hg5
            clear ho5 hb5 hzt hzl
            go_wp2_with (at_builtin; refine wpList_append_own_at _ rfl (.tmp 61) (.tmp 66) 25 rfl w.heap.size 33 i1 (.agg #[.int .u8 0, .slice none 0 0, .slice none 0 0]) 3 56 Try.underlying25 hi1 hy0 hy1 hy2 rfl (by decide) (.slice (some ⟨g8, 0, none⟩) 1 c8) 1 [.int .u8 1, .slice (some ⟨g1, 0, none⟩) (gather (pC T D) P k).length c1, .slice (some ⟨g2, 0, none⟩) (gather (pA T D) P k).length c2] rfl (O5.out.alloc _) ⟨w5.heap.size, 0, none⟩ 1 1 [.int .u8 2, .slice (some ⟨g5, 0, none⟩) (gather (pC T D) P k).length c5, .slice (some ⟨g3, 0, none⟩) (gather (pN T D) P k).length c3] rfl rfl ?b1 ?b2 ?b3 ?b4 ?b5 ?_)
            case b1 => exact three_new _ _ _ _ _
            case b2 => exact three_cells _ _ _ _ _ _ _
            case b3 => unfold maxLen; omega
            case b4 => omega
            case b5 => have := H5.out.below.size; simp; omega
            intro v9 w6 hown9 hgrow9 _ hat9
            obtain ⟨g9, c9, hv9, _, hl9⟩ := hown9.form (by omega)
            rw [hv9] at hown9 ⊢
            clear hv9 hat9
            have H6 := (H5.out.alloc _).other (O5.out.alloc _) hgrow9 O3.out.2.1 O3.out.2.2.1 O3.out.2.2.2
            have K6 := kept_apart (K5.out.alloc _) hgrow9 a85
            have lK : ListAt w6 (.slice (some ⟨g5, 0, none⟩) (gather (pC T D) P k).length c5) (sorted (pC T D) P k) := listAt_own (base := w4.heap.size) (by rw [sorted_length, ← HL.out.1]; exact K6) (by rw [sorted_length]; exact hC0)
            have lN : ListAt w6 (.slice (some ⟨g3, 0, none⟩) (gather (pN T D) P k).length c3) (sorted (pN T D) P k) := listAt_own H6.o3 (by rw [sorted_length]; exact hN0)
            have lC : ListAt w6 (.slice (some ⟨g1, 0, none⟩) (gather (pC T D) P k).length c1) (sorted (pC T D) P k) := listAt_own H6.o1 (by rw [sorted_length]; exact hC0)
            have lA : ListAt w6 (.slice (some ⟨g2, 0, none⟩) (gather (pA T D) P k).length c2) (sorted (pA T D) P k) := listAt_own H6.o2 (by rw [sorted_length]; exact hA0)
            have B1 := breach_own 0 hown9 (by omega) rfl rfl rfl lC lA
            have B2 := breach_own 3 hown9 (by omega) rfl rfl rfl lK lN
            have HF := hide (show Below w.heap.size w w6 ∧ CheckRes w6 (.slice (some ⟨g9, 0, none⟩) 2 c9) k P T D from ⟨H6.below, .inr (.inr (.inr ⟨hC0, hA0, hN0, g9, c9, rfl, hl9, B1, B2⟩))⟩)
            clear H6 K6 lK lN lC lA B1 B2 hown9 hgrow9
            go_wp2_with fail
            go_ret
            exact ⟨_, rfl, HF.out⟩

end Go.Proofs.Qxb6603956a
