/-
  SEAT b6604283aD: WHAT (ObjectIdentifier).String SPELLS.
-/
import Derived.Test.Qxb6604283aDoorFmt
namespace Go.Proofs.Qxb6604283aDoor
open Go.RowKit
set_option maxRecDepth 100000

/-- The first k numbers, with points between. -/
def outB (V : Nat → Nat) : Nat → List UInt8
  | 0 => []
  | k + 1 => outB V k ++ ((if k = 0 then [] else [46]) ++ Lib.decDigits (V k))

theorem nDigits_le (u : Nat) (hu : u < 18446744073709551616) : Lib.nDigits u ≤ 20 := by
  by_cases h : u = 0
  · subst h; rw [← Lib.decDigits_length, Lib.decDigits_one (by omega)]; simp
  · have := Lib.numDigits_eq u (by omega) hu
    split at this <;> omega

theorem outB_le (V : Nat → Nat) (k : Nat) (h : ∀ i, i < k → V i < 18446744073709551616) : (outB V k).length ≤ 21 * k := by
  induction k with
  | zero => simp [outB]
  | succ k ih =>
    have h1 := ih (fun i hi => h i (by omega))
    have h2 := nDigits_le (V k) (h k (by omega))
    unfold outB
    rw [List.length_append, List.length_append, Lib.decDigits_length]
    split
    · simp; omega
    · simp; omega

theorem tab_later {w w' : World} {name : String} {k : IntKind} {zs : List Int} (h : Lib.TabIs Tryd.prog w name k zs) (hb : Below w.heap.size w w') : Lib.TabIs Tryd.prog w' name k zs := by
  unfold Lib.TabIs World.var? at *
  cases hg : Tryd.prog.globalNamed name with
  | none => simp [hg] at h
  | some g =>
    simp only [hg, Option.bind_some] at h ⊢
    have hlt : g < w.heap.size := by
      rcases Nat.lt_or_ge g w.heap.size with h' | h'
      · exact h'
      · rw [Array.getElem?_eq_none h'] at h; simp at h
    rw [hb.block g hlt]
    exact h

theorem bldAt_later {B b : Nat} {p : Value} {bs : List Value} {w w' : World} (h : Lib.BuilderAt 31 5 B b p bs w) (hb : Below w.heap.size w w') : Lib.BuilderAt 31 5 B b p bs w' := by
  have hlt := h.lt
  obtain ⟨hB, v, hbk, hown, hne⟩ := h
  refine ⟨hB, v, (hb.block b hlt).trans hbk, ?_, hne⟩
  refine hown.kept (row := none) ⟨hb.os, hb.tape, hb.output, hb.size, fun i hi _ => hb.block i hi⟩ ?_
  cases hv : v.ownBlock with
  | none => exact .inl rfl
  | some x => exact .inr (by simp)
theorem bld_later {B b : Nat} {bs : List Value} {w w' : World} (h : Bld B b bs w) (hb : Below w.heap.size w w') : Bld B b bs w' := by
  rcases h with h | h
  · exact .inl (bldAt_later h hb)
  · exact .inr (bldAt_later h hb)

set_option maxHeartbeats 1600000 in
theorem string_any (b0 o0 n c : Nat) (V : Nat → Nat) (w : World) (hn : n ≤ 131072) (hV : ∀ i, i < n → V i < 18446744073709551616) (hc : ∀ i, i < n → w.cell? ⟨b0, o0 + i, none⟩ = some (.int .u64 (V i)))
    (htab : Lib.TabIs Tryd.prog w Tryd.powName .u64 Lib.pow10Tab) :
    Calls Tryd.prog 6 #[.slice (some ⟨b0, o0, none⟩) n c] w fun e w' => e = .returned (.string ⟨(outB V n).toArray⟩) ∧ Below w.heap.size w w' := by
  have HC := hide hc
  have HT := hide htab
  have HV := hide hV
  have HF := hide (Lib.fresh_isBuilder 31 5 w)
  have HFB := hide (show ∀ o, Below w.heap.size w (w.alloc o) from fun o => (Below.refl _ _).alloc (Nat.le_refl _) o)
  clear hc htab hV
  go_enter Tryd.func6, Tryd.ntmps6
  go_wp2
  go_loopw [8] (fun i wr => ∃ k : Nat, k ≤ n ∧ i = .int .i64 k ∧ Bld w.heap.size w.heap.size (Lib.byteCells (outB V k)) wr ∧ Below w.heap.size w wr) (fun i _ => n - (intOf i).toNat)
  case atStart => exact ⟨0, by omega, rfl, HF.out, HFB.out _⟩
  case round =>
    obtain ⟨k, hk, rfl, hbl, hb⟩ := hrel
    have hsz := hb.size
    by_cases hlt : k < n
    · have hkI : (k : Int) < (n : Int) := by omega
      have hcell : wr.cell? ⟨b0, o0 + k, none⟩ = some (.int .u64 (V k)) := cell_later hb (HC.out k hlt)
      have hle := outB_le V k (fun i hi => HV.out i (by omega))
      have hdl := nDigits_le (V k) (HV.out k hlt)
      have hx : (outB V (k + 1)) = outB V k ++ ((if k = 0 then [] else [46]) ++ Lib.decDigits (V k)) := rfl
      replace hx := hide hx
      replace hbl := hide hbl
      replace hb := hide hb
      by_cases h0 : k = 0
      · subst h0
        rw [Nat.add_zero] at hcell
        go_wp2_with fail
        go_at_call 9
        refine (fmt_any (V 0) (HV.out 0 hlt) wr (tab_later HT.out hb.out)).mono ?_
        rintro e w1 ⟨rfl, h1⟩
        have hb1 := bld_later hbl.out h1
        have hbb := hb.out.trans (h1.mono hsz)
        replace h1 := hide h1
        replace hb1 := hide hb1
        replace hbb := hide hbb
        go_wp2_with fail
        go_at_call 8
        refine (writeString _ _ _ _ _ hb1.out ?_ hbb.out.size).mono ?_
        · rw [Lib.byteCells_length]
          show _ + (Lib.decDigits (V 0)).toArray.size ≤ _
          rw [List.size_toArray, Lib.decDigits_length]; omega
        rintro e w2 ⟨rfl, hb2, h2⟩
        replace hb2 := hide hb2
        replace h2 := hide h2
        go_wp2
        go_roundw
        case rel => exact ⟨0 + 1, by omega, by go_num, by rw [hx.out, if_pos trivial, List.nil_append, Lib.byteCells_append]; exact hb2.out, hbb.out.trans h2.out⟩
        case measure => simp [intOf]; omega
      · have hk0 : (0 : Int) < (k : Int) := by omega
        go_wp2_with fail
        go_at_call 7
        refine (writeByte _ _ _ 46 _ hbl.out ?_ hb.out.size).mono ?_
        · rw [Lib.byteCells_length]; omega
        rintro e w0 ⟨rfl, hb0, hh0⟩
        have hb0' := hb.out.trans hh0
        have hsz0 := hb0'.size
        replace hb0 := hide hb0
        replace hb0' := hide hb0'
        clear hh0
        go_wp2_with fail
        go_at_call 9
        refine (fmt_any (V k) (HV.out k hlt) w0 (tab_later HT.out hb0'.out)).mono ?_
        rintro e w1 ⟨rfl, h1⟩
        have hb1 := bld_later hb0.out h1
        have hbb := hb0'.out.trans (h1.mono hsz0)
        clear h1
        replace hb1 := hide hb1
        replace hbb := hide hbb
        go_wp2_with fail
        go_at_call 8
        refine (writeString _ _ _ _ _ hb1.out ?_ hbb.out.size).mono ?_
        · rw [List.length_append, Lib.byteCells_length]
          show _ + (Lib.decDigits (V k)).toArray.size ≤ _
          rw [List.size_toArray, Lib.decDigits_length]; simp; omega
        rintro e w2 ⟨rfl, hb2, h2⟩
        replace hb2 := hide hb2
        replace h2 := hide h2
        go_wp2
        go_roundw
        case rel => exact ⟨k + 1, by omega, by go_num, by rw [hx.out, if_neg h0, Lib.byteCells_append, Lib.byteCells_append, ← List.append_assoc]; exact hb2.out, hbb.out.trans h2.out⟩
        case measure => simp [intOf]; omega
    · obtain rfl : k = n := by omega
      replace hb := hide hb
      have HS := hide (Tryd.Builder_String_any w.heap.size w.heap.size _ wr hbl hsz)
      clear hbl
      go_wp2_with (go_at_call 10; refine HS.out.mono ?_; rintro e w1 ⟨rfl, h1⟩; replace h1 := hide h1)
      go_ret
      exact ⟨rfl, hb.out.trans h1.out⟩

end Go.Proofs.Qxb6604283aDoor
