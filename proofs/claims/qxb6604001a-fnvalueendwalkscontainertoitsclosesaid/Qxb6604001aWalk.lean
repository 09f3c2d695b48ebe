/-
  SEAT b6604001a: zzB1Clone, AND THE WALK OF FnValueEndWalksContainerToItsClose.
-/
import Derived.Test.Qxb6604001aVal
import Derived.Test.Qxb6604001aEnd
import Derived.Laws.CopyOwn
import Derived.Deep.DeepCutAuto
namespace Go.Proofs.Qxb6604001a
open Go.RowKit
set_option maxRecDepth 100000

theorem info5 : (Try.prog.info? 5).map (fun i => (i.zero, i.size, i.bytes)) = some (some (.int .u8 0), 1, 1) := by kernel_rfl
theorem size5 : (Try.prog.info? 5).map (·.size) = some 1 := by kernel_rfl

theorem clone_cells (w : World) (g n : Nat) (Z : Nat → Int) (old : Array Value) (rest : List Value) (hg : w.heap[g]? = some (.cells old 5 (0, 0))) :
    Data (w.setRow g (((List.range n).map fun i => Value.int .u8 (Z i)) ++ rest).toArray) g n Z := by
  intro k hk
  have hh := setRow_heap w g old (((List.range n).map fun i => Value.int .u8 (Z i)) ++ rest).toArray 5 _ hg
  simp only [World.cell?, hh]
  simp
  rw [List.getElem?_append_left (by simp; exact hk)]
  simp [hk]

set_option maxHeartbeats 800000 in
theorem clone_any (b off n c : Nat) (Z : Nat → Int) (w : World) (hn : n ≤ 65536) (hc : ∀ i, i < n → w.cell? ⟨b, off + i, none⟩ = some (.int .u8 (Z i))) :
    Calls Try.prog 8 #[.slice (some ⟨b, off, none⟩) n c] w fun e w' => e = .returned (.slice (some ⟨w.heap.size, 0, none⟩) n n) ∧ Data w' w.heap.size n Z ∧ Below w.heap.size w w' ∧ w.heap.size < w'.heap.size := by
  have hmk := run_make_row' (P := Try.prog) 22 5 (.int .u8 0) 1 Try.underlying22 info5 rfl .i64 .i64 n (by omega) (by omega)
  have q22 : ∀ (w : World) (a : Option Addr) (n c n' c' : Nat), (binOp .eql 22 (.slice a n c) (.slice none n' c')).run Try.prog w = .ok (.bool a.isNone) w := fun w a n c n' c' => Lib.run_eql_slice_nil w _ _ a n c n' c' Try.underlying22
  have HC := hide hc
  clear hc
  go_enter Try.func8, Try.ntmps8
  go_wp2_with (refine wpList_copy_own rfl (.tmp 9) (.tmp 10) 22 22 rfl 5 Try.underlying22 size5 w.heap.size 0 n n ⟨b, off, none⟩ n c rfl rfl (madeCells #[.int .u8 0] n) 5 ?c1 ((List.range n).map fun i => Value.int .u8 (Z i)) ?c2 ?c3 ?c4 ?c5 ?_)
  case c1 => exact Go.Deep.blk_alloc_new _ _
  case c2 => simp
  case c3 =>
    intro j v hj
    have hjn : j < n := by
      rcases Nat.lt_or_ge j n with h | h
      · exact h
      · rw [List.getElem?_eq_none (by simpa using h)] at hj; cases hj
    simp [hjn] at hj
    subst hj
    rw [Go.WideShapes.add_plain, World.cell?_alloc_lt _ _ _ (World.block_lt_of_cell? _ _ (HC.out j hjn))]
    exact HC.out j hjn
  case c4 => simp [size_madeCells]
  case c5 => intro v hv; simp at hv; obtain ⟨i, _, rfl⟩ := hv; rfl
  have HX := hide (show ∀ rest, _ from fun rest => clone_cells (w.alloc (.cells (madeCells #[.int .u8 0] n) 5)) w.heap.size n Z _ rest (Go.Deep.blk_alloc_new _ _))
  have HB := hide (show ∀ x, Below w.heap.size w ((w.alloc (.cells (madeCells #[.int .u8 0] n) 5)).setRow w.heap.size x) from fun x => below_setRow ((Below.refl _ _).alloc (Nat.le_refl _) _) (Nat.le_refl _) x)
  go_wp2
  go_ret
  exact ⟨rfl, HX.out _, HB.out _, by simp [World.setRow]⟩
section
variable (a : Option Addr) (n c : Nat) (x : Int) (w : World)

theorem early_long (h : 65536 < n) (hm : n ≤ 9223372036854775807) : Calls Try.prog 6 #[.slice a n c, .int .i64 x] w fun e w' => e = .returned (.bool true) ∧ Below w.heap.size w w' := by
  by_cases h2 : 1048576 < n
  · go_enter Try.func6, Try.ntmps6
    go_wp2
    go_ret
    exact ⟨rfl, Below.refl _ _⟩
  · go_enter Try.func6, Try.ntmps6
    go_wp2
    go_ret
    exact ⟨rfl, Below.refl _ _⟩
theorem early_neg (h : n ≤ 65536) (hx : x < 0) : Calls Try.prog 6 #[.slice a n c, .int .i64 x] w fun e w' => e = .returned (.bool true) ∧ Below w.heap.size w w' := by
  go_enter Try.func6, Try.ntmps6
  go_wp2
  go_ret
  exact ⟨rfl, Below.refl _ _⟩
theorem early_far (h : n ≤ 65536) (h0 : 0 ≤ x) (hx : (n : Int) ≤ x) : Calls Try.prog 6 #[.slice a n c, .int .i64 x] w fun e w' => e = .returned (.bool true) ∧ Below w.heap.size w w' := by
  go_enter Try.func6, Try.ntmps6
  go_wp2
  go_ret
  exact ⟨rfl, Below.refl _ _⟩
end

theorem early_other (b off n c i : Nat) (d : Nat → Int) (w : World) (hn : n ≤ 65536) (hi : i < n) (hc : ∀ k, k < n → w.cell? ⟨b, off + k, none⟩ = some (.int .u8 (d k))) (h1 : (d i != 123) = true) (h2 : (d i != 91) = true) :
    Calls Try.prog 6 #[.slice (some ⟨b, off, none⟩) n c, .int .i64 i] w fun e w' => e = .returned (.bool true) ∧ Below w.heap.size w w' := by
  have hci := hc i hi
  have hiI : (i : Int) < (n : Int) := by omega
  clear hc
  go_enter Try.func6, Try.ntmps6
  go_wp2
  go_ret
  exact ⟨rfl, Below.refl _ _⟩

theorem skip_at (b N c a p : Nat) (x : Int) (d : Nat → Int) (w : World) (hN : N ≤ 65536) (hb : b < w.heap.size) (hd : Data w b N d) (hs : SkipTo d N a p) (hx : x = (a : Int)) :
    Calls Try.prog 9 #[.slice (some ⟨b, 0, none⟩) N c, .int .i64 x] w fun e w' => e = .returned (.int .i64 p) ∧ Below w.heap.size w w' := by
  subst hx; exact skip_any b N c a p d w hN hb hd hs

theorem bytes_ok (a : Option Addr) (n c : Nat) (x : Int) (w : World) (h : n ≤ 65536) : Calls Try.prog 17 #[.slice a n c, .int .i64 x] w fun e w' => e = .returned (.bool true) ∧ w = w' := by
  go_enter Try.func17, Try.ntmps17
  go_wp2
  go_ret
  exact ⟨rfl, rfl⟩

/-- What is left of the walk at p. -/
def Left (d : Nat → Int) (N last g p : Nat) : Prop := p = last ∨ (p < last ∧ ∃ v, p < v ∧ v ≤ last ∧ VEnd d N p v ∧ walkGo d N last g v)

set_option maxHeartbeats 1600000 in
theorem walk_main (b off n c i : Nat) (d : Nat → Int) (w : World) (hn : n ≤ 65536) (hi : i < n) (hc : ∀ k, k < n → w.cell? ⟨b, off + k, none⟩ = some (.int .u8 (d k))) (ho : d i = 91 ∨ d i = 123) :
    Calls Try.prog 6 #[.slice (some ⟨b, off, none⟩) n c, .int .i64 i] w fun e w' => e = .returned (.bool true) ∧ Below w.heap.size w w' := by
  have HC := hide hc
  have HO := hide ho
  have hci := hc i hi
  have hiI : (i : Int) < (n : Int) := by omega
  clear hc
  have HOP := hide (show isOpen (d i) = true by rcases ho with h | h <;> rw [h] <;> rfl)
  clear ho
  go_enter Try.func6, Try.ntmps6
  go_upto_region 7 with (go_at_call 17; refine (bytes_ok _ _ _ _ _ hn).mono ?_; rintro e w' ⟨rfl, rfl⟩)
  go_cut [35] (fun s35 wx => s35 = .bool false ∧ w = wx)
  case first =>
    rcases HO.out with h | h
    · rw [h] at hci
      clear h
      go_wp2_with fail
      go_meet
      exact ⟨rfl, rfl⟩
    · rw [h] at hci
      clear h
      go_wp2_with fail
      go_meet
      exact ⟨rfl, rfl⟩
  case rest =>
  obtain ⟨rfl, rfl⟩ := hcut
  clear hci
  go_wp2_with fail
  refine (clone_any b off n c d w hn HC.out).mono ?_
  rintro e w1 ⟨rfl, hd1, hb1, hl1⟩
  have H1 := hide (show _ ∧ _ from ⟨hd1, hb1⟩)
  clear hd1 hb1 HC
  go_wp2_with fail
  refine (domain_any w.heap.size n n i d w1 hn hi HO.out hl1 H1.out.1).mono ?_
  rintro e w2 ⟨hb2, he⟩
  have hd2 : Data w2 w.heap.size n d := H1.out.1.below hb2 hl1
  have hl2 : w.heap.size < w2.heap.size := Nat.lt_of_lt_of_le hl1 hb2.size
  have H2 := hide (show _ ∧ _ from ⟨hd2, H1.out.2.trans (hb2.mono (Nat.le_of_lt hl1))⟩)
  clear hb2 hd2
  rcases he with rfl | ⟨v, rfl, hg⟩
  · go_wp2_with fail
    go_ret
    exact ⟨rfl, H2.out.2⟩
  obtain ⟨last, rfl⟩ : ∃ last, v = last + 1 := ⟨v - 1, by have := hg.lt; omega⟩
  have hlN := hg.le
  obtain ⟨m, hm⟩ := hg.walk HOP.out
  rw [Nat.add_sub_cancel] at hm
  clear hg
  cases m with
  | zero => exact hm.elim
  | succ m =>
  obtain ⟨p, hs, hleft⟩ := hm
  have HS := hide hs
  have HL := hide (show Left d n last m p from hleft)
  have hpn := hs.2.1
  clear hs hleft
  go_wp2_with fail
  refine (skip_at w.heap.size n n (i + 1) p _ d w2 hn hl2 H2.out.1 HS.out (by omega)).mono ?_
  rintro e w3 ⟨rfl, hb3⟩
  have hl3 : w.heap.size < w3.heap.size := Nat.lt_of_lt_of_le hl2 hb3.size
  have H3 := hide (show Data w3 w.heap.size n d ∧ Below w.heap.size w w3 from ⟨H2.out.1.below hb3 hl2, H2.out.2.trans (hb3.mono (Nat.le_of_lt hl2))⟩)
  clear hb3
  go_wp2_with fail
  go_loopg [7] m (fun g t wr => ∃ p : Nat, t = .int .i64 p ∧ p < n ∧ Left d n last g p ∧ w.heap.size < wr.heap.size ∧ Data wr w.heap.size n d ∧ Below w.heap.size w wr)
  case atStart => exact ⟨p, rfl, hpn, HL.out, hl3, H3.out.1, H3.out.2⟩
  case round =>
    obtain ⟨q, rfl, hqn, hleft, hlr, hdr, hbr⟩ := hrel
    have HR := hide (show _ ∧ _ from ⟨hdr, hbr⟩)
    clear hdr hbr
    rcases hleft with rfl | ⟨hql, v', hqv, hvl, hve, hwg⟩
    · go_wp2_with fail
      go_ret
      exact ⟨rfl, HR.out.2⟩
    · have HV := hide hve
      have HW := hide hwg
      have hqI : (q : Int) < (last : Int) := by omega
      have hv1 : ¬ ((v' : Int) ≤ (q : Int)) := by omega
      have hv2 : ¬ ((last : Int) < (v' : Int)) := by omega
      clear hve hwg
      go_wp2_with fail
      refine (valueEnd_any w.heap.size n n q v' d wr hn hqn hlr HR.out.1 hqv HV.out).mono ?_
      rintro e w4 ⟨rfl, hb4⟩
      have hl4 : w.heap.size < w4.heap.size := Nat.lt_of_lt_of_le hlr hb4.size
      have H4 := hide (show Data w4 w.heap.size n d ∧ Below w.heap.size w w4 from ⟨HR.out.1.below hb4 hlr, HR.out.2.trans (hb4.mono (Nat.le_of_lt hlr))⟩)
      clear hb4
      cases gk with
      | zero => exact HW.out.elim
      | succ g =>
      obtain ⟨p', hs', hleft'⟩ := HW.out
      have HS' := hide hs'
      have HL' := hide (show Left d n last g p' from hleft')
      have hpn' := hs'.2.1
      clear hs' hleft'
      go_wp2_with fail
      refine (skip_at w.heap.size n n v' p' _ d w4 hn hl4 H4.out.1 HS'.out rfl).mono ?_
      rintro e w5 ⟨rfl, hb5⟩
      have H5 := hide (show w.heap.size < w5.heap.size ∧ Data w5 w.heap.size n d ∧ Below w.heap.size w w5 from ⟨Nat.lt_of_lt_of_le hl4 hb5.size, H4.out.1.below hb5 hl4, H4.out.2.trans (hb5.mono (Nat.le_of_lt hl4))⟩)
      clear hb5
      go_wp2_with fail
      go_roundg g
      case measure => omega
      case rel => exact ⟨p', rfl, hpn', HL'.out, H5.out.1, H5.out.2.1, H5.out.2.2⟩

end Go.Proofs.Qxb6604001a
