/-
  SEAT b6604283aD: WHAT (*strings.Builder).copyCheck, WriteByte, WriteString DO AT THIS DUMP (its copyCheck bears a refused line that no run of ours comes to: so the shelf does not lay them).
-/
import Derived.Test.Qxb6604283aDoorShelf
import Derived.WalkKit
import Derived.WalkSpells
import Derived.ProofKit
import Derived.Deep.OwnRows
import Derived.Deep.QuietTactic
import Derived.Deep.LoopGhost
import Derived.BigQuiet
namespace Go.Proofs.Qxb6604283aDoor
open Go.RowKit
set_option maxRecDepth 100000

theorem hide {p : Prop} (h : p) : Hid p := h

theorem to_up (b : Nat) (w : World) (hsh : w.shape? b = some (31, 2)) : (convert 28 39 (.pointer (some ⟨b, 0, none⟩))).run Tryd.prog w = .ok (.pointer (some ⟨b, 0, none⟩)) w := by
  obtain ⟨j, hj, hjs⟩ := Option.map_eq_some_iff.1 Tryd.Builder_Extra_169.sizeBuilder
  have hj' : Tryd.prog.info? 31 = some j := hj
  have hne : j.size ≠ 0 := by rw [hjs]; decide
  simp only [convert, Sem.run_bind, run_underlying Tryd.underlying28, run_underlying Tryd.underlying39, Result.andThen]
  change Sem.run Tryd.prog (underlying 28 >>= fun s => _) w = _
  simp [run_underlying Tryd.underlying28, run_underlying Tryd.underlying39, Conv.seenAt, viewAt, cellsIn, hsh, sizeOf, typeInfo, hj', hne]

theorem from_up (b : Nat) (w : World) (hsh : w.shape? b = some (31, 2)) : (convert 39 28 (.pointer (some ⟨b, 0, none⟩))).run Tryd.prog w = .ok (.pointer (some ⟨b, 0, none⟩)) w := by
  obtain ⟨j, hj, hjs⟩ := Option.map_eq_some_iff.1 Tryd.Builder_Extra_169.sizeBuilder
  have hj' : Tryd.prog.info? 31 = some j := hj
  have hl : liesAt Tryd.prog Tryd.prog.depth 31 (2 / Tryd.prog.cellsOf 31) 0 31 1 = true := Tryd.Builder_Extra_169.liesBuilder
  simp only [convert, Sem.run_bind, run_underlying Tryd.underlying28, run_underlying Tryd.underlying39, Result.andThen]
  change Sem.run Tryd.prog (underlying 39 >>= fun s => _) w = _
  simp [run_underlying Tryd.underlying28, run_underlying Tryd.underlying39, Conv.seenAt, viewAt, hsh, variablesAt, hl, sizeOf, typeInfo, hj']

theorem no_escape (x : Value) (w : World) : (callFunc 13 #[x]).run Tryd.prog w = .ok (.value x) w := by kernel_rfl
theorem copy_used (b : Nat) (w : World) (h0 : w.cell? ⟨b, 0, none⟩ = some (.pointer (some ⟨b, 0, none⟩))) :
    Calls Tryd.prog 11 #[.pointer (some ⟨b, 0, none⟩)] w fun e w' => e = .returned (.tuple #[]) ∧ w' = w := by
  obtain ⟨j, hj, _⟩ := Option.map_eq_some_iff.1 Tryd.Builder_Extra_169.sizeBuilder
  have hq := fun w : World => Lib.run_neq_ptr_same (P := Tryd.prog) w ⟨b, 0, none⟩ Tryd.underlying28 hj
  go_enter Tryd.func11, Tryd.ntmps11
  go_wp2
  go_end0
  exact ⟨rfl, rfl⟩

theorem copy_fresh (b : Nat) (w : World) (h0 : w.cell? ⟨b, 0, none⟩ = some (.pointer none)) (hsh : w.shape? b = some (31, 2)) (hfz : w.frozen? ⟨b, 0, none⟩ = false) :
    Calls Tryd.prog 11 #[.pointer (some ⟨b, 0, none⟩)] w fun e w' => e = .returned (.tuple #[]) ∧ w' = w.setCell ⟨b, 0, none⟩ (.pointer (some ⟨b, 0, none⟩)) := by
  have hc1 := to_up b w hsh
  have hc2 := from_up b w hsh
  have hcf := fun x => no_escape x w
  go_enter Tryd.func11, Tryd.ntmps11
  go_wp2
  go_end0
  exact ⟨rfl, rfl⟩

/-- A builder of the call's own that holds the bytes bs. -/
abbrev Bld (B b : Nat) (bs : List Value) (w : World) : Prop := Lib.IsBuilder 31 5 B b bs w

theorem copyCheck (B b : Nat) (bs : List Value) (w : World) (h : Bld B b bs w) :
    Calls Tryd.prog 11 #[.pointer (some ⟨b, 0, none⟩)] w fun e w' => e = .returned (.tuple #[]) ∧ (Lib.BuilderAt 31 5 B b (.pointer (some ⟨b, 0, none⟩)) bs w' ∧ Below B w w') := by
  rcases h with h | h
  · refine (copy_fresh b w h.cell0 h.shape h.frozen0).mono ?_
    rintro e w' ⟨rfl, rfl⟩
    exact ⟨rfl, h.used _, (Below.refl B w).setCell (p := ⟨b, 0, none⟩) h.1 _⟩
  · refine (copy_used b w h.cell0).mono ?_
    rintro e w' ⟨rfl, rfl⟩
    exact ⟨rfl, h, Below.refl B _⟩

theorem info5 : (Tryd.prog.info? 5).map (fun i => (i.zero, i.size, i.bytes)) = some (some (.int .u8 0), 1, 1) := by kernel_rfl

set_option maxHeartbeats 1600000 in
theorem writeString (B b : Nat) (bs : List Value) (s : ByteArray) (w : World) (h : Bld B b bs w) (hlen : bs.length + s.size ≤ 140737488355328) (hBw : B ≤ w.heap.size) :
    Calls Tryd.prog 8 #[.pointer (some ⟨b, 0, none⟩), .string s] w fun e w' => e = .returned (.tuple #[.int .i64 s.size, .nilIface]) ∧ Bld B b (bs ++ Lib.strCells s) w' ∧ Below B w w' := by
  obtain ⟨i0, hi, hz0, hz1, hz2⟩ := info_parts info5
  have HK := hide (copyCheck B b bs w h)
  clear h
  go_enter Tryd.func8, Tryd.ntmps8
  go_wp2_with (go_at_call 11; refine HK.out.mono ?_)
  rintro e w1 ⟨rfl, h1, hb1⟩
  have hlt := h1.lt
  obtain ⟨hB, v, hbk, hown, hne⟩ := h1
  have c1 : w1.cell? ⟨b, 1, none⟩ = some v := by rw [Lib.cell_of_heap hbk]; rfl
  have hsz := hb1.size
  go_wp2_with (at_builtin; refine Lib.wpList_append_own_string _ rfl _ _ 29 9 rfl B 5 i0 Tryd.underlying29 Tryd.underlying9 hi hz0 hz1 hz2 _ _ _ rfl hown s rfl ?c3 ?c4 ?c5 ?_)
  case c3 => unfold maxLen; omega
  case c4 => omega
  case c5 => omega
  intro v' w2 hown' hgrow _
  have hb2 : w2.heap[b]? = some (.cells #[.pointer (some ⟨b, 0, none⟩), v] 31 (0, 0)) := by
    rw [hgrow.block b hlt (fun e => hne e.symm)]; exact hbk
  have d1 : w2.cell? ⟨b, 1, none⟩ = some v := by rw [Lib.cell_of_heap hb2]; rfl
  have f1 : w2.frozen? ⟨b, 1, none⟩ = false := Lib.frozen_of_heap hb2 1
  have HE := hide (show Bld B b (bs ++ Lib.strCells s) (w2.setCell ⟨b, 1, none⟩ v') ∧ Below B w (w2.setCell ⟨b, 1, none⟩ v') from
    ⟨.inr (Lib.BuilderAt.put (T := 31) (e := 5) hB hb2 (bs' := bs ++ Lib.strCells s) (by simpa [Lib.strCells_length] using hown') (by decide)),
     (hb1.grown hgrow (by omega) (fun k hk => (hown.lt k hk).1)).setCell (p := ⟨b, 1, none⟩) hB _⟩)
  obtain ⟨ao, n', cap, rfl⟩ : ∃ ao n' cap, v' = .slice ao n' cap := by
    rcases hown'.2 with ⟨hv, _⟩ | ⟨g, cap, cur, hv, _⟩
    · exact ⟨_, _, _, hv⟩
    · exact ⟨_, _, _, hv⟩
  clear hown hown' hgrow hb1 hbk hb2 hne
  go_wp2
  go_ret2
  exact ⟨rfl, HE.out⟩

set_option maxHeartbeats 1600000 in
theorem writeByte (B b : Nat) (bs : List Value) (c : Int) (w : World) (h : Bld B b bs w) (hlen : bs.length + 1 ≤ 140737488355328) (hBw : B ≤ w.heap.size) :
    Calls Tryd.prog 7 #[.pointer (some ⟨b, 0, none⟩), .int .u8 c] w fun e w' => e = .returned .nilIface ∧ Bld B b (bs ++ [.int .u8 c]) w' ∧ Below B w w' := by
  obtain ⟨i0, hi, hz0, hz1, hz2⟩ := info_parts info5
  have HK := hide (copyCheck B b bs w h)
  clear h
  go_enter Tryd.func7, Tryd.ntmps7
  go_wp2_with (go_at_call 11; refine HK.out.mono ?_)
  rintro e w1 ⟨rfl, h1, hb1⟩
  have hlt := h1.lt
  obtain ⟨hB, v, hbk, hown, hne⟩ := h1
  have c1 : w1.cell? ⟨b, 1, none⟩ = some v := by rw [Lib.cell_of_heap hbk]; rfl
  have hsz := hb1.size
  go_wp2_with (at_builtin; refine wpList_append_own _ rfl _ _ 29 rfl B 5 i0 (.int .u8 0) 1 1 Tryd.underlying29 hi hz0 hz1 hz2 rfl (by decide) _ _ _ rfl (hown.alloc _) ⟨w1.heap.size, 0, none⟩ 1 1 [.int .u8 c] rfl rfl ?c1 ?c2 ?c3 ?c4 ?c5 ?_)
  case c1 =>
    intro j u hj
    match j, hj with
    | 0, hj => simp at hj; subst hj; simp [Addr.add]
  case c2 => intro u hu; simp at hu; subst hu; rfl
  case c3 => unfold maxLen; omega
  case c4 => omega
  case c5 => simp; omega
  intro v' w2 hown' hgrow _
  have hb2 : w2.heap[b]? = some (.cells #[.pointer (some ⟨b, 0, none⟩), v] 31 (0, 0)) := by
    rw [hgrow.block b (by simp; omega) (fun e => hne e.symm), Lib.alloc_old w1 _ b hlt]; exact hbk
  have d1 : w2.cell? ⟨b, 1, none⟩ = some v := by rw [Lib.cell_of_heap hb2]; rfl
  have f1 : w2.frozen? ⟨b, 1, none⟩ = false := Lib.frozen_of_heap hb2 1
  have HE := hide (show Bld B b (bs ++ [.int .u8 c]) (w2.setCell ⟨b, 1, none⟩ v') ∧ Below B w (w2.setCell ⟨b, 1, none⟩ v') from
    ⟨.inr (Lib.BuilderAt.put (T := 31) (e := 5) hB hb2 (bs' := bs ++ [.int .u8 c]) (by simpa using hown') (by decide)),
     ((hb1.alloc (by omega) _).grown hgrow (by simp; omega) (fun k hk => (hown.lt k hk).1)).setCell (p := ⟨b, 1, none⟩) hB _⟩)
  obtain ⟨g, cap, rfl⟩ : ∃ g cap, v' = .slice (some ⟨g, 0, none⟩) (bs.length + 1) cap := by
    rcases hown'.2 with ⟨_, h0⟩ | ⟨g, cap, cur, hv, _⟩
    · omega
    · exact ⟨g, cap, hv⟩
  clear hown hown' hgrow hb1 hbk hb2 hne
  go_wp2
  go_ret
  exact ⟨rfl, HE.out⟩

end Go.Proofs.Qxb6604283aDoor
