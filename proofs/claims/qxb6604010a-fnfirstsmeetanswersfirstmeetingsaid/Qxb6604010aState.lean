/-
  SEAT b6604010a: WHAT A 'firsts' HOLDS BEHIND A LIST OF FIRST MEETINGS; ZZMeet, ZZFirstsMet OVER IT.
-/
import Derived.Test.Qxb6604010aTurn
namespace Go.Proofs.Qxb6604010a
open Go.RowKit Go.Maps
set_option maxRecDepth 100000

theorem find_some_ex {L : List (Int × Int)} {v y : Int} (h : find L v = some y) : ∃ j, j < L.length ∧ (L.getD j (0, 0)).1 = v ∧ (L.getD j (0, 0)).2 = y ∧ ∀ k, k < j → (L.getD k (0, 0)).1 ≠ v := by
  induction L with
  | nil => cases h
  | cons p r ih =>
    by_cases e : p.1 = v
    · have h' : (if p.1 = v then some p.2 else find r v) = some y := h
      rw [if_pos e] at h'
      injection h' with h'
      exact ⟨0, by simp, e, h', fun k hk => by omega⟩
    · have h' : (if p.1 = v then some p.2 else find r v) = some y := h
      rw [if_neg e] at h'
      obtain ⟨j, h1, h2, h3, h4⟩ := ih h'
      refine ⟨j + 1, by simpa using h1, by simpa using h2, by simpa using h3, fun k hk => ?_⟩
      cases k with
      | zero => simpa using e
      | succ k => simpa using h4 k (by omega)

/-- The map's datum says what the list says. -/
def Agree (D : DataW Unit) (L : List (Int × Int)) : Prop :=
  ∀ v, Maps.has D (.int .i32 v) = (find L v).isSome ∧ D.atKey (.int .i32 v) (.lit (.int .i64 0)) = .lit (.int .i64 ((find L v).getD 0))

theorem Agree.put {D : DataW Unit} {L : List (Int × Int)} (h : Agree D L) (hD : IsMap D) {v x : Int} (hv : find L v = none) : Agree (D.put (.int .i32 v) (.lit (.int .i64 x))) (L ++ [(v, x)]) := by
  intro u
  rw [find_append, find_one]
  by_cases e : v = u
  · subst e
    rw [if_pos rfl, hv, has_put_same hD (by trivial), atKey_put_same hD (by trivial)]
    exact ⟨rfl, rfl⟩
  · have hne : Lit.int .i32 u ≠ Lit.int .i32 v := fun k => e (by injection k with _ k; exact k.symm)
    rw [if_neg e, has_put_other hne, atKey_put_other hne, Option.or_none]
    exact h u

def listOf (A B : Nat → Int) (k : Nat) : List (Int × Int) := (List.range k).map fun i => (A i, B i)
theorem listOf_succ (A B : Nat → Int) (k : Nat) : listOf A B (k + 1) = listOf A B k ++ [(A k, B k)] := by simp [listOf, List.range_succ]
theorem listOf_getD (A B : Nat → Int) {j k : Nat} (h : j < k) : (listOf A B k).getD j (0, 0) = (A j, B j) := by simp [listOf, h]
theorem listOf_eq {L : List (Int × Int)} {A B : Nat → Int} (h : ∀ j, j < L.length → L.getD j (0, 0) = (A j, B j)) : L = listOf A B L.length := by
  apply List.ext_getElem
  · simp [listOf]
  · intro i h1 h2
    have := h i h1
    simp [h1] at this
    rw [this]
    simp [listOf]

theorem isMap_mapOf (A B : Nat → Int) (k : Nat) : IsMap (mapOf A B k) := by
  induction k with
  | zero => exact isMap_empty
  | succ k ih => exact ih.put _ _

theorem agree_mapOf (A B : Nat → Int) (k : Nat) (hd : ∀ i j, i < j → j < k → A i ≠ A j) : Agree (mapOf A B k) (listOf A B k) := by
  induction k with
  | zero => intro v; exact ⟨rfl, rfl⟩
  | succ k ih =>
    rw [listOf_succ]
    refine (ih (fun i j h1 h2 => hd i j h1 (by omega))).put (isMap_mapOf A B k) ?_
    rw [find_none_iff]
    intro j hj
    have hj' : j < k := by simpa [listOf] using hj
    rw [listOf_getD A B hj']
    exact hd j k hj' (by omega)

def Wfs (L : List (Int × Int)) : Prop := ∀ j, j < L.length → (Lit.int .i32 (L.getD j (0, 0)).1).wf = true ∧ (Lit.int .i64 (L.getD j (0, 0)).2).wf = true

theorem getD_append_lt (L M : List (Int × Int)) {j : Nat} (h : j < L.length) : (L ++ M).getD j (0, 0) = L.getD j (0, 0) := by
  simp [List.getElem?_append_left h]
theorem getD_append_end (L : List (Int × Int)) (p : Int × Int) : (L ++ [p]).getD L.length (0, 0) = p := by simp

theorem Wfs.app {L : List (Int × Int)} (h : Wfs L) {v x : Int} (hv : (Lit.int .i32 v).wf = true) (hx : (Lit.int .i64 x).wf = true) : Wfs (L ++ [(v, x)]) := by
  intro j hj
  have hj' : j < L.length + 1 := by simpa using hj
  by_cases e : j < L.length
  · rw [getD_append_lt L _ e]; exact h j e
  · obtain rfl : j = L.length := by omega
    rw [getD_append_end]; exact ⟨hv, hx⟩

/-- Few: in the arrays. -/
def Few (w : World) (F : Nat) (L : List (Int × Int)) : Prop :=
  ∃ A B, L.length ≤ 8 ∧ w.rowIs F 60 18 (cellsOf L.length A B none) ∧ (∀ j, j < L.length → L.getD j (0, 0) = (A j, B j)) ∧ ∀ i j, i < j → j < L.length → A i ≠ A j
/-- Many: in the map. -/
def Many (base : Nat) (w : World) (F : Nat) (L : List (Int × Int)) : Prop :=
  ∃ A B bm D, 8 < L.length ∧ w.rowIs F 60 18 (cellsOf L.length A B (some bm)) ∧ F ≠ bm ∧ base ≤ bm ∧ owns w bm L.length D ∧ Agree D L
def St (base : Nat) (w : World) (F : Nat) (L : List (Int × Int)) : Prop := base ≤ F ∧ Wfs L ∧ (Few w F L ∨ Many base w F L)

theorem St.row {base : Nat} {w : World} {F : Nat} {L : List (Int × Int)} (h : St base w F L) : w.cell? ⟨F, 0, none⟩ = some (.int .i64 L.length) ∧ F < w.heap.size := by
  rcases h.2.2 with ⟨A, B, _, h, _⟩ | ⟨A, B, bm, D, _, h, _⟩
  · exact ⟨h.cell (by omega), h.lt⟩
  · exact ⟨h.cell (by omega), h.lt⟩

theorem St.drewN {base : Nat} {w : World} {F : Nat} {L : List (Int × Int)} (h : St base w F L) (k : Nat) : St base (w.drewN k) F L := h

theorem meet_any (base : Nat) (w : World) (F : Nat) (L : List (Int × Int)) (v x : Int) (h : St base w F L) (hL : L.length ≤ 4096) (hv : (Lit.int .i32 v).wf = true) (hx : (Lit.int .i64 x).wf = true) :
    Calls Try.prog 31 #[.pointer (some ⟨F, 0, none⟩), .int .i32 v, .int .i64 x] w fun e w' => e = .returned (.int .i64 ((find L v).getD x)) ∧ St base w' F (meetL L v x) ∧ Below base w w' := by
  have hlt := h.row.2
  obtain ⟨hF, hwf, hS⟩ := h
  have hbw : base ≤ w.heap.size := by omega
  unfold meetL
  rcases hS with ⟨A, B, h8, hrow, hAB, hd⟩ | ⟨A, B, bm, D, h8, hrow, hFb, hb, ho, ha⟩
  · cases hf : find L v with
    | some y =>
      obtain ⟨j, j1, j2, j3, j4⟩ := find_some_ex hf
      rw [hAB j j1] at j2 j3
      subst j3
      refine (meet_hit F L.length v x A B w j h8 hrow j1 j2 (fun k hk => by have := j4 k hk; rw [hAB k (by omega)] at this; exact this)).mono ?_
      rintro e w' ⟨rfl, k, rfl⟩
      exact ⟨rfl, ⟨hF, hwf, .inl ⟨A, B, h8, hrow, hAB, hd⟩⟩, below_drewN (Below.refl _ _) _⟩
    | none =>
      have hne : ∀ k, k < L.length → A k ≠ v := fun k hk => by have := (find_none_iff L v).1 hf k hk; rw [hAB k hk] at this; exact this
      by_cases e8 : L.length < 8
      · refine (meet_new F L.length v x A B w base hF e8 hrow hne).mono ?_
        rintro e w' ⟨rfl, hrow', hbel⟩
        refine ⟨rfl, ⟨hF, hwf.app hv hx, .inl ⟨_, _, by simp; omega, by simpa using hrow', ?_, ?_⟩⟩, hbel⟩
        · intro j hj
          have hj' : j < L.length + 1 := by simpa using hj
          by_cases e : j < L.length
          · rw [getD_append_lt L _ e, hAB j e]
            show _ = (if j = L.length then v else A j, if j = L.length then x else B j)
            rw [if_neg (by omega), if_neg (by omega)]
          · obtain rfl : j = L.length := by omega
            rw [getD_append_end]
            show _ = (if L.length = L.length then v else A L.length, if L.length = L.length then x else B L.length)
            rw [if_pos rfl, if_pos rfl]
        · intro i j hij hj
          have hj' : j < L.length + 1 := by simpa using hj
          show (if i = L.length then v else A i) ≠ (if j = L.length then v else A j)
          rw [if_neg (by omega)]
          by_cases e : j = L.length
          · rw [if_pos e]; exact hne i (by omega)
          · rw [if_neg e]; exact hd i j hij (by omega)
      · have e9 : L.length = 8 := by omega
        rw [e9] at hrow hne
        refine (meet_turn F v x A B w base hF hbw hrow hne (fun k hk => by have := (hwf k (by omega)).1; rw [hAB k (by omega)] at this; exact this) (fun k hk => by have := (hwf k (by omega)).2; rw [hAB k (by omega)] at this; exact this) hv hx).mono ?_
        rintro e w' ⟨rfl, bm, hb, hFb, hrow', ho, hbel⟩
        have eL := listOf_eq hAB
        rw [e9] at eL
        have ha := (agree_mapOf A B 8 (fun i j h1 h2 => hd i j h1 (by omega))).put (isMap_mapOf A B 8) (v := v) (x := x) (by rw [← eL]; exact hf)
        rw [← eL] at ha
        refine ⟨rfl, ⟨hF, hwf.app hv hx, .inr ⟨A, B, bm, _, by simp; omega, ?_, hFb, hb, ?_, ha⟩⟩, hbel⟩
        · simpa [e9] using hrow'
        · simpa [e9] using ho
  · have hav := ha v
    cases hf : find L v with
    | some y =>
      rw [hf] at hav
      refine (meet_known F L.length v x A B w bm L.length D y hrow ho hv hav.1 hav.2).mono ?_
      rintro e w' ⟨rfl, rfl⟩
      exact ⟨rfl, ⟨hF, hwf, .inr ⟨A, B, bm, D, h8, hrow, hFb, hb, ho, ha⟩⟩, Below.refl _ _⟩
    | none =>
      rw [hf] at hav
      refine (meet_more F L.length v x A B w base bm L.length D hF hb hbw (by omega) (by omega) hFb hrow ho hv hx hav.1).mono ?_
      rintro e w' ⟨rfl, hrow', ho', hbel⟩
      exact ⟨rfl, ⟨hF, hwf.app hv hx, .inr ⟨A, B, bm, _, by simp; omega, by simpa using hrow', hFb, hb, by simpa using ho', ha.put (World.ownsMap.isMap ho) hf⟩⟩, hbel⟩

theorem zzMeet (base : Nat) (w : World) (F : Nat) (L : List (Int × Int)) (v x : Int) (h : St base w F L) (hL : L.length ≤ 4096) (hv : (Lit.int .i32 v).wf = true) (hx : (Lit.int .i64 x).wf = true) :
    Calls Try.prog 25 #[.pointer (some ⟨F, 0, none⟩), .int .i32 v, .int .i64 x] w fun e w' => e = .returned (.int .i64 ((find L v).getD x)) ∧ St base w' F (meetL L v x) ∧ Below base w w' := by
  have HM := hide (meet_any base w F L v x h hL hv hx)
  clear h
  go_enter Try.func25, Try.ntmps25
  go_wp2_with (go_at_call 31; refine HM.out.mono ?_; rintro e w1 ⟨rfl, h1⟩; replace h1 := hide h1)
  go_ret
  exact ⟨rfl, h1.out⟩

end Go.Proofs.Qxb6604010a
