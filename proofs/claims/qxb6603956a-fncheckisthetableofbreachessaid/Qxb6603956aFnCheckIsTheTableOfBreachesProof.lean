/-
  SEAT b6603956a: 'Rows.FnCheckIsTheTableOfBreachesSaid', PROVED. The frame after the guide's skeleton tool; the argument, a slice of structs of three integers, opened by hand; the walk is Qxb6603956aBreach.lean's.
-/
import Derived.Test.Qxb6603956aRows
import Derived.Test.Qxb6603956aBreach
import Derived.WalkKit
import Derived.ProofKit
import Derived.OpenShut
import Derived.ShutString
import Derived.ChangeOld
import Derived.Below
import Derived.Deep.Strs
namespace Go.Proofs.Qxb6603956a.fnCheckIsTheTableOfBreaches
open Go.ChangeShapes Go.WideShapes Go.ChangeAt Go.RowKit
set_option linter.unusedVariables false

theorem own : ownKnob Try.prog.godebug = none := by kernel_rfl
theorem laidOut : laidOutB Try.prog = true := by kernel_rfl
theorem cells67 : Try.prog.cellsOf 67 = 3 := by kernel_rfl
theorem cells3 : Try.prog.cellsOf 3 = 1 := by kernel_rfl
theorem cells5 : Try.prog.cellsOf 5 = 1 := by kernel_rfl

/-- What the walk is told of the slice that came in. -/
def IsTrips (w : World) (a : Option Addr) (len cap : Nat) : Prop :=
  (a = none ∧ len = 0 ∧ cap = 0) ∨
  ∃ x, a = some x ∧ len ≤ maxLen ∧ ∃ P T D : Nat → Int, ∀ i, i < len → w.cell? (x.add (i * 3)) = some (.int .i64 (P i)) ∧ w.cell? (x.add (i * 3 + 1)) = some (.int .u8 (T i)) ∧ w.cell? (x.add (i * 3 + 1 + 1)) = some (.int .u8 (D i))

theorem walk (a0 : Option Addr) (len0 cap0 : Nat) (w : World) (w0 : IsTrips w a0 len0 cap0) :
    Calls Try.prog 3 #[.slice a0 len0 cap0] w fun e w' => e = .returned (.bool true) ∧ Below w.heap.size w w' := by
  rcases w0 with ⟨rfl, rfl, rfl⟩ | ⟨x, rfl, hm, P, T, D, hc⟩
  · exact breach_nil w
  · unfold maxLen at hm
    by_cases hlong : 4096 < len0
    · exact breach_long _ _ _ w hlong (by omega)
    by_cases h0 : len0 = 0
    · subst h0
      exact breach_empty x cap0 w
    obtain ⟨b, off, spot⟩ := x
    obtain rfl : spot = none := by simpa [Addr.add] using World.cell?_spot (hc 0 (by omega)).1
    refine breach_main b off len0 cap0 P T D w (by omega) (by omega) (fun i hi => ?_)
    have h := hc i hi
    simp only [add_plain] at h
    exact h

theorem three_of {l : List Value} (h : l.length = 3) : ∃ a b c, l = [a, b, c] := by
  match l, h with
  | [a, b, c], _ => exact ⟨a, b, c, rfl⟩

/-- One outcome's cells. -/
theorem cells_of_trod {H : Type} {enc : TypeId × Value → H} {w : World} {base n : Nat} {spare : Nat → Bool} {held : Bool} {a : Addr} {cs : List Value} {y : DataW H × List MemPlace} (hc : w.cells? base a 3 = some cs)
    (h : DataW.trod enc Try.prog w base spare held n 67 cs = some y) : ∃ p t d : Int, w.cell? a = some (.int .i64 p) ∧ w.cell? (a.add 1) = some (.int .u8 t) ∧ w.cell? (a.add 2) = some (.int .u8 d) := by
  obtain ⟨_, hl, hg⟩ := World.cells?_some hc
  obtain ⟨y0, y1, y2, m, _, _, h0, h1, h2⟩ := Go.Deep.trod_struct3 Try.underlying67 h
  obtain ⟨c0, c1, c2, rfl⟩ := three_of hl
  simp only [cells3, cells5] at h0 h1 h2
  obtain ⟨p, e0, _, _⟩ := DataW.trod_int Try.underlying3 h0
  obtain ⟨t, e1, _, _⟩ := DataW.trod_int Try.underlying5 h1
  obtain ⟨d, e2, _, _⟩ := DataW.trod_int Try.underlying5 h2
  simp at e0 e1 e2
  subst e0 e1 e2
  have g0 := hg 0 (by omega)
  have g1 := hg 1 (by omega)
  have g2 := hg 2 (by omega)
  exact ⟨p, t, d, by simpa [Addr.add] using g0, by simpa using g1, by simpa using g2⟩

set_option maxRecDepth 100000 in
theorem lifted (os : Os) (started : os.Started) (H : Type) (enc : TypeId × Value → H) :
    ReturnsInHanded {} Try.checked os 3 .any (Rows.fnCheckIsTheTableOfBreachesSpec.pre6 enc Try.prog Try.f3 Rows.fnCheckIsTheTableOfBreachesRow.domain false) (Rows.fnCheckIsTheTableOfBreachesSpec.post enc Try.prog Try.f3 false true false false) := by
  refine returnsInHanded_of_change (C := Try.checked) own started (by kernel_rfl) Try.func3
    (ChangeSpec.witness6 (enc := enc) (C := Try.checked) false ⟨#[], #[.slice none 0 0], []⟩ 8 (by kernel_rfl) (by kernel_rfl) (by kernel_rfl) (by kernel_rfl)) ?_
  intro W base args ds gs before hval0 hW hcnd _
  have hval : ∀ (j : Nat) t v, Try.f3.params[j]? = some t → args[j]? = some v → Value.okWide Try.prog W .any base t v := hval0
  have hW' := hW
  obtain ⟨p, q, hA0, hV, rfl, hfz, hnd⟩ := hW
  have hA : DataW.TrodAll enc Try.prog W 0 (fun _ => true) true Try.f3.params.toList args.toList ds p := hA0
  rw [Try.params3] at hA hval
  obtain ⟨v0, vs0, d0, ds0, p0, q0, hargs, rfl, rfl, h0, r0⟩ := trodAll_cons hA
  obtain ⟨rfl, rfl, rfl⟩ := trodAll_nil r0
  obtain rfl : args = #[v0] := by cases args; simp_all
  obtain ⟨rfl, rfl⟩ := trodVars_none hV
  obtain ⟨a0, len0, cap0, rfl⟩ := okWide_slice Try.underlying22 (hval 0 22 v0 rfl rfl)
  have k0 := h0
  have lt0 : ∀ x ∈ p0, x.block < W.heap.size := by obtain ⟨m, hm⟩ := k0; exact DataW.trod_lt m _ _ _ hm
  have w0 : IsTrips W a0 len0 cap0 := by
    obtain ⟨fuel, hf⟩ := h0
    rcases Go.Deep.open_slice Try.underlying22 hf with ⟨hcs, _⟩ | ⟨x, l, c, m, n, D, Pl, hcs, _, hl, hm, hmm, _, hx⟩
    · simp [Value.cells] at hcs
      obtain ⟨rfl, rfl, rfl⟩ := hcs
      exact .inl ⟨rfl, rfl, rfl⟩
    · simp [Value.cells] at hcs
      obtain ⟨rfl, rfl, rfl⟩ := hcs
      simp at hmm
      rw [cells67] at hx
      have each : ∀ i, i < len0 → ∃ ptd : Int × Int × Int, W.cell? (x.add (i * 3)) = some (.int .i64 ptd.1) ∧ W.cell? (x.add (i * 3 + 1)) = some (.int .u8 ptd.2.1) ∧ W.cell? (x.add (i * 3 + 1 + 1)) = some (.int .u8 ptd.2.2) := by
        intro i hi
        obtain ⟨cs, hc, ht⟩ := hx i (by omega)
        obtain ⟨p, t, d, e0, e1, e2⟩ := cells_of_trod hc ht
        rw [Go.Deep.add_add] at e1 e2
        exact ⟨(p, t, d), e0, e1, e2⟩
      obtain ⟨f, hf⟩ := Go.Deep.choose_lt each
      exact .inr ⟨x, rfl, by omega, fun i => (f i).1, fun i => (f i).2.1, fun i => (f i).2.2, hf⟩
  clear hA0 hval0
  refine (walk a0 len0 cap0 W w0).mono fun e W' ⟨he, bel⟩ => ?_
  subst he
  exact ⟨_, rfl, _, _, _, [], _, [], hW', trodAll_mk1 (shut_bool Try.underlying4 _), (trodAll_cons_mk (Below.trod laidOut (by kernel_rfl) (of_decide_eq_true (by kernel_rfl)) k0 bel lt0) trodAll_mk0), rfl, bel.frame _, fun h => by cases h⟩

theorem over : Rows.fnCheckIsTheTableOfBreachesRow.holds Try.pinned (OpenSpec.ofChange Rows.fnCheckIsTheTableOfBreachesSpec) :=
  OpenClaim.holds_of_wide 3 Try.f3 rfl rfl rfl rfl rfl rfl rfl ⟨rfl, rfl, rfl, rfl, rfl⟩ rfl rfl rfl rfl rfl (by kernel_rfl) Try.func3 (by kernel_rfl)
    (of_decide_eq_true (by kernel_rfl)) (by unfold Func.isWrapper; first | (rw [if_pos (by decide +kernel)]; kernel_rfl) | (rw [if_neg (by decide +kernel)]; exact ⟨rfl, rfl⟩))
    (fun os started H enc _ => lifted os started H enc)

/-- ████ THE STATEMENT ████ -/
theorem proved : Rows.FnCheckIsTheTableOfBreachesSaid := over
end Go.Proofs.Qxb6603956a.fnCheckIsTheTableOfBreaches
