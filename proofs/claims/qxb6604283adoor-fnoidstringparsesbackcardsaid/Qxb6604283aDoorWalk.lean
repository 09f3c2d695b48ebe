/-
  SEAT b6604283aD: zzBytes, zzBerB1CloneU64, AND THE WALK OF FnOIDStringParsesBack.
-/
import Derived.Test.Qxb6604283aDoorSpell
import Derived.Laws.CopyOwn
import Derived.Deep.DeepCutAuto
namespace Go.Proofs.Qxb6604283aDoor
open Go.RowKit
open Go.Lib (nDigits decDigits)
set_option maxRecDepth 100000

theorem bytes_ok (a : Option Addr) (n c : Nat) (w : World) (h : n ≤ 1048576) :
    Calls Tryd.prog 4 #[.slice a n c] w fun e w' => e = .returned (.bool true) ∧ w = w' := by
  go_enter Tryd.func4, Tryd.ntmps4
  go_wp2
  go_ret
  exact ⟨rfl, rfl⟩

theorem info27 : (Tryd.prog.info? 27).map (fun i => (i.zero, i.size, i.bytes)) = some (some (.int .u64 0), 1, 8) := by kernel_rfl
theorem size27 : (Tryd.prog.info? 27).map (·.size) = some 1 := by kernel_rfl

theorem clone_cells (w : World) (g n : Nat) (Z : Nat → Nat) (old : Array Value) (rest : List Value) (hg : w.heap[g]? = some (.cells old 27 (0, 0))) :
    ∀ k, k < n → (w.setRow g (((List.range n).map fun i => Value.int .u64 (Z i)) ++ rest).toArray).cell? ⟨g, k, none⟩ = some (.int .u64 (Z k)) := by
  intro k hk
  have hh := setRow_heap w g old (((List.range n).map fun i => Value.int .u64 (Z i)) ++ rest).toArray 27 _ hg
  simp only [World.cell?, hh]
  simp
  rw [List.getElem?_append_left (by simp; exact hk)]
  simp [hk]

set_option maxHeartbeats 800000 in
theorem clone_some (x : Addr) (n c : Nat) (Z : Nat → Nat) (w : World) (hn : n ≤ 131072) (hc : ∀ i, i < n → w.cell? (x.add i) = some (.int .u64 (Z i))) :
    Calls Tryd.prog 5 #[.slice (some x) n c] w fun e w' => e = .returned (.slice (some ⟨w.heap.size, 0, none⟩) n n) ∧ (∀ k, k < n → w'.cell? ⟨w.heap.size, k, none⟩ = some (.int .u64 (Z k))) ∧ Below w.heap.size w w' ∧ w.heap.size < w'.heap.size := by
  have hmk := run_make_row' (P := Tryd.prog) 22 27 (.int .u64 0) 8 Tryd.underlying22 info27 rfl .i64 .i64 n (by omega) (by omega)
  have q22 : ∀ (w : World) (a : Option Addr) (n c n' c' : Nat), (binOp .eql 22 (.slice a n c) (.slice none n' c')).run Tryd.prog w = .ok (.bool a.isNone) w := fun w a n c n' c' => Lib.run_eql_slice_nil w _ _ a n c n' c' Tryd.underlying22
  have HC := hide hc
  clear hc
  go_enter Tryd.func5, Tryd.ntmps5
  go_wp2_with (refine wpList_copy_own rfl (.tmp 9) (.tmp 10) 22 22 rfl 27 Tryd.underlying22 size27 w.heap.size 0 n n x n c rfl rfl (madeCells #[.int .u64 0] n) 27 ?c1 ((List.range n).map fun i => Value.int .u64 (Z i)) ?c2 ?c3 ?c4 ?c5 ?_)
  case c1 => exact Go.Deep.blk_alloc_new _ _
  case c2 => simp
  case c3 =>
    intro j v hj
    have hjn : j < n := by
      rcases Nat.lt_or_ge j n with h | h
      · exact h
      · rw [List.getElem?_eq_none (by simpa using h)] at hj; cases hj
    simp [hjn] at hj
    subst hj
    rw [World.cell?_alloc_lt _ _ _ (World.block_lt_of_cell? _ _ (HC.out j hjn))]
    exact HC.out j hjn
  case c4 => simp [size_madeCells]
  case c5 => intro v hv; simp at hv; obtain ⟨i, _, rfl⟩ := hv; rfl
  have HX := hide (show ∀ rest, _ from fun rest => clone_cells (w.alloc (.cells (madeCells #[.int .u64 0] n) 27)) w.heap.size n Z _ rest (Go.Deep.blk_alloc_new _ _))
  have HB := hide (show ∀ x, Below w.heap.size w ((w.alloc (.cells (madeCells #[.int .u64 0] n) 27)).setRow w.heap.size x) from fun x => below_setRow ((Below.refl _ _).alloc (Nat.le_refl _) _) (Nat.le_refl _) x)
  go_wp2
  go_ret
  exact ⟨rfl, HX.out _, HB.out _, by simp [World.setRow]⟩

theorem clone_none (w : World) : Calls Tryd.prog 5 #[.slice none 0 0] w fun e w' => e = .returned (.slice none 0 0) ∧ w = w' := by
  have q22 : ∀ (w : World) (a : Option Addr) (n c n' c' : Nat), (binOp .eql 22 (.slice a n c) (.slice none n' c')).run Tryd.prog w = .ok (.bool a.isNone) w := fun w a n c n' c' => Lib.run_eql_slice_nil w _ _ a n c n' c' Tryd.underlying22
  go_enter Tryd.func5, Tryd.ntmps5
  go_wp2
  go_ret
  exact ⟨rfl, rfl⟩

theorem string_none (a : Option Addr) (c : Nat) (w : World) : Calls Tryd.prog 6 #[.slice a 0 c] w fun e w' => e = .returned (.string ⟨#[]⟩) ∧ Below w.heap.size w w' := by
  have HF := hide (Lib.fresh_isBuilder 31 5 w)
  have HFB := hide (show ∀ o, Below w.heap.size w (w.alloc o) from fun o => (Below.refl _ _).alloc (Nat.le_refl _) o)
  go_enter Tryd.func6, Tryd.ntmps6
  go_wp2
  go_loopw [8] (fun i wr => i = .int .i64 0 ∧ Bld w.heap.size w.heap.size [] wr ∧ Below w.heap.size w wr) (fun _ _ => 0)
  case atStart => exact ⟨rfl, HF.out, HFB.out _⟩
  case round =>
    obtain ⟨rfl, hbl, hb⟩ := hrel
    have HS := hide (Tryd.Builder_String_empty w.heap.size w.heap.size wr hbl hb.size)
    replace hb := hide hb
    clear hbl
    go_wp2_with (go_at_call 10; refine HS.out.mono ?_; rintro e w1 ⟨rfl, h1⟩; replace h1 := hide h1)
    go_ret
    exact ⟨rfl, hb.out.trans h1.out⟩

section
variable (a : Option Addr) (n c : Nat) (w : World)

theorem early_bytes (hm : n ≤ 9223372036854775807) (h : 1048576 < n) : Calls Tryd.prog 3 #[.slice a n c] w fun e w' => e = .returned (.bool true) ∧ Below w.heap.size w w' := by
  have HB := hide (show Calls Tryd.prog 4 #[.slice a n c] w fun e w' => e = .returned (.bool false) ∧ w = w' from by
    go_enter Tryd.func4, Tryd.ntmps4
    go_wp2
    go_ret
    exact ⟨rfl, rfl⟩)
  go_enter Tryd.func3, Tryd.ntmps3
  go_wp2_with (go_at_call 4; refine HB.out.mono ?_; rintro e w' ⟨rfl, rfl⟩)
  go_ret
  exact ⟨rfl, Below.refl _ _⟩
theorem early_long (h : n ≤ 1048576) (h2 : 131072 < n) : Calls Tryd.prog 3 #[.slice a n c] w fun e w' => e = .returned (.bool true) ∧ Below w.heap.size w w' := by
  have HB := hide (bytes_ok a n c w h)
  go_enter Tryd.func3, Tryd.ntmps3
  go_wp2_with (go_at_call 4; refine HB.out.mono ?_; rintro e w' ⟨rfl, rfl⟩)
  go_ret
  exact ⟨rfl, Below.refl _ _⟩
theorem early_nil : Calls Tryd.prog 3 #[.slice none 0 0] w fun e w' => e = .returned (.bool true) ∧ Below w.heap.size w w' := by
  have HB := hide (bytes_ok none 0 0 w (by omega))
  have HC := hide (clone_none w)
  have HS := hide (string_none none 0 w)
  go_enter Tryd.func3, Tryd.ntmps3
  go_wp2_with (first | (go_at_call 4; refine HB.out.mono ?_; rintro e w' ⟨rfl, rfl⟩) | (go_at_call 5; refine HC.out.mono ?_; rintro e w' ⟨rfl, rfl⟩) | (go_at_call 6; refine HS.out.mono ?_; rintro e w1 ⟨rfl, h1⟩; replace h1 := hide h1))
  go_ret
  exact ⟨rfl, h1.out⟩
theorem early_empty (x : Addr) : Calls Tryd.prog 3 #[.slice (some x) 0 c] w fun e w' => e = .returned (.bool true) ∧ Below w.heap.size w w' := by
  have HB := hide (bytes_ok (some x) 0 c w (by omega))
  have HC := hide (clone_some x 0 c (fun _ => 0) w (by omega) (fun i hi => absurd hi (by omega)))
  have HS := hide (fun w => string_none (some ⟨w.heap.size, 0, none⟩) 0 w)
  go_enter Tryd.func3, Tryd.ntmps3
  go_wp2_with (go_at_call 4; refine HB.out.mono ?_; rintro e w' ⟨rfl, rfl⟩)
  go_at_call 5
  refine HC.out.mono ?_
  rintro e w1 ⟨rfl, _, h1, h2⟩
  have HS := hide (string_none (some ⟨w.heap.size, 0, none⟩) 0 w1)
  have hm := Nat.le_of_lt h2
  replace h1 := hide h1
  go_wp2_with (go_at_call 6; refine HS.out.mono ?_; rintro e w2 ⟨rfl, h3⟩; replace h3 := hide h3)
  go_ret
  exact ⟨rfl, h1.out.trans (h3.out.mono hm)⟩
end

set_option maxHeartbeats 3200000 in
theorem walk_main (x : Addr) (n c : Nat) (V : Nat → Nat) (w : World) (hn : n ≤ 131072) (hn1 : 1 ≤ n) (hV : ∀ i, i < n → V i < 18446744073709551616) (hc : ∀ i, i < n → w.cell? (x.add i) = some (.int .u64 (V i)))
    (htab : Lib.TabIs Tryd.prog w Tryd.powName .u64 Lib.pow10Tab) :
    Calls Tryd.prog 3 #[.slice (some x) n c] w fun e w' => e = .returned (.bool true) ∧ Below w.heap.size w w' := by
  have HB := hide (bytes_ok (some x) n c w (by omega))
  have HC := hide (clone_some x n c V w hn hc)
  have HT := hide htab
  have HV := hide hV
  have SP := hide (spelt V n hV)
  have hn0 : ((n : Int) == 0) = false := by rw [beq_eq_false_iff_ne]; omega
  have hn2 : decide (131072 < (n : Int)) = false := by rw [decide_eq_false_iff_not]; omega
  clear hc htab hV
  go_enter Tryd.func3, Tryd.ntmps3
  go_wp2_with (go_at_call 4; refine HB.out.mono ?_; rintro e w' ⟨rfl, rfl⟩)
  go_at_call 5
  refine HC.out.mono ?_
  rintro e w1 ⟨rfl, hcell, hb1, hlt1⟩
  have hs6 := hide (string_any w.heap.size 0 n n V w1 hn HV.out (fun i hi => by rw [Nat.zero_add]; exact hcell i hi) (tab_later HT.out hb1))
  have hm := Nat.le_of_lt hlt1
  replace hcell := hide hcell
  replace hb1 := hide hb1
  generalize (⟨(outB V n).toArray⟩ : ByteArray) = s at SP hs6
  go_wp2_with (go_at_call 6; refine hs6.out.mono ?_; rintro e w2 ⟨rfl, hb2⟩; replace hb2 := hide hb2)
  have HE := hide (show Below w.heap.size w w2 from hb1.out.trans (hb2.out.mono hm))
  have HCL := hide (show ∀ k, k < n → w2.cell? ⟨w.heap.size, k, none⟩ = some (.int .u64 (V k)) from fun k hk => cell_later hb2.out (hcell.out k hk))
  have hss : s.size ≤ 3000000 := by have := SP.out.size; omega
  clear HB HC HT hb1 hcell hs6 hb2
  go_loopw [4, 5] (fun p i wr => ∃ k : Nat, k ≤ n ∧ i = .int .i64 k ∧ (k < n ∧ p = .int .i64 (posOf V k) ∨ k = n ∧ p = .int .i64 s.size) ∧ w2 = wr) (fun _ i _ => n - (intOf i).toNat)
  case atStart => exact ⟨0, by omega, rfl, .inl ⟨by omega, rfl⟩, rfl⟩
  case round =>
    obtain ⟨k, hk, rfl, hp, rfl⟩ := hrel
    rcases hp with ⟨hlt, rfl⟩ | ⟨rfl, rfl⟩
    · have hkI : (k : Int) < (n : Int) := by omega
      obtain ⟨P, hP⟩ : ∃ P, posOf V k = P := ⟨_, rfl⟩
      obtain ⟨D, hD⟩ : ∃ D, nDigits (V k) = D := ⟨_, rfl⟩
      obtain ⟨U, hU⟩ : ∃ U, V k = U := ⟨_, rfl⟩
      have hD1 : 1 ≤ D := by rw [← hD]; exact Lib.nDigits_pos _
      have hUm : U < 18446744073709551616 := by rw [← hU]; exact HV.out k hlt
      have HDG := hide (show ∀ t, t < D → ∃ h : P + t < s.size, (s[P + t]'h).toNat = 48 + digAt U t from fun t ht => by
        have := SP.out.dig k t hlt (by rw [hD]; exact ht)
        rw [hU] at this; subst hP; exact this)
      have HUD := hide (show nDigits U = D by rw [← hU]; exact hD)
      have hcl := HCL.out k hlt
      rw [hU] at hcl
      rw [hP]
      have HP := hide hP
      have HD := hide hD
      clear hP hD hU
      go_wp2
      go_loopw [4, 7] (fun p a wr => ∃ t : Nat, t ≤ D ∧ p = .int .i64 (P + t : Nat) ∧ a = .int .u64 (accOf U t) ∧ w2 = wr) (fun p _ _ => P + D - (intOf p).toNat)
      case atStart => exact ⟨0, by omega, rfl, by rw [acc_zero]; rfl, rfl⟩
      case round =>
        obtain ⟨t, ht, rfl, rfl, rfl⟩ := hrel
        obtain ⟨q, hq⟩ : ∃ q, P + t = q := ⟨_, rfl⟩
        rw [hq]
        by_cases htD : t < D
        · obtain ⟨hqs, hsx⟩ := HDG.out t htD
          have hac := acc_succ U t (by rw [HUD.out]; exact htD)
          have hau := acc_le U (t + 1)
          have hd9 := dig_le U t
          obtain ⟨A, hA⟩ : ∃ A, accOf U t = A := ⟨_, rfl⟩
          obtain ⟨d, hd⟩ : ∃ d, digAt U t = d := ⟨_, rfl⟩
          rw [hd] at hac hd9 hsx
          rw [hA] at hac
          rw [hA]
          subst hq
          obtain ⟨q, hq⟩ : ∃ q, P + t = q := ⟨_, rfl⟩
          have HQ := hide hq
          have hqI : (q : Int) < (s.size : Int) := by omega
          have hq' : q < s.size := by omega
          have hsx' : (s[q]'hq').toNat = 48 + d := by subst hq; exact hsx
          rw [hq]
          replace hac := hide hac
          have hb : A * 10 + d < 18446744073709551616 := by rw [hac.out] at hau; omega
          clear hsx hau hq hqs hA hd
          by_cases hAe : A = 1844674407370955161
          · subst hAe
            have hd5 : d ≤ 5 := by omega
            go_wp2
            go_roundw
            case rel => exact ⟨t + 1, by omega, by rw [← HQ.out]; go_num, by rw [hac.out]; go_num, by trivial⟩
            case measure => have := HQ.out; simp [intOf]; omega
          · have hAl : A < 1844674407370955161 := by omega
            go_wp2
            go_roundw
            case rel => exact ⟨t + 1, by omega, by rw [← HQ.out]; go_num, by rw [hac.out]; go_num, by trivial⟩
            case measure => have := HQ.out; simp [intOf]; omega
        · obtain rfl : t = D := by omega
          have HQ := hide hq
          obtain ⟨hp0, hs0⟩ := HDG.out 0 hD1
          have hps : P < s.size := by omega
          have hs0' : (s[P]'hps).toNat = 48 + digAt U 0 := hs0
          have hd9 := dig_le U 0
          have hfst : digAt U 0 ≠ 0 ∨ t = 1 := by
            by_cases e : 1 < t
            · exact .inl (first_ne U (by rw [HUD.out]; exact e))
            · exact .inr (by omega)
          obtain ⟨d, hd⟩ : ∃ d, digAt U 0 = d := ⟨_, rfl⟩
          rw [hd] at hs0' hd9 hfst
          have hacc : accOf U t = U := by rw [← HUD.out]; exact acc_end U
          rw [hacc]
          have hqP : ((q : Int) == (P : Int)) = false := by rw [beq_eq_false_iff_ne]; omega
          have hdb : ((48 + (d : Int) == 48) = true ∧ (1 < (q : Int) - P ↔ False)) ∨ (48 + (d : Int) == 48) = false := by
            rcases hfst with h | h
            · exact .inr (by rw [beq_eq_false_iff_ne]; omega)
            · by_cases h0 : d = 0
              · exact .inl ⟨by rw [beq_iff_eq]; omega, ⟨fun k => by omega, fun k => k.elim⟩⟩
              · exact .inr (by rw [beq_eq_false_iff_ne]; omega)
          clear hfst hd hacc hs0 hp0 hq
          by_cases hlast : k + 1 = n
          · have hqs : q = s.size := by rw [← HQ.out, ← HP.out, ← HD.out]; exact SP.out.last k hlast
            subst hqs
            have hkn : (k : Int) + 1 = (n : Int) := by omega
            rcases hdb with ⟨hdb, hqq⟩ | hdb
            · go_wp2
              go_roundw
              case rel => exact ⟨k + 1, by omega, by go_num, .inr ⟨hlast, rfl⟩, by trivial⟩
              case measure => simp [intOf]; omega
            · go_wp2
              go_roundw
              case rel => exact ⟨k + 1, by omega, by go_num, .inr ⟨hlast, rfl⟩, by trivial⟩
              case measure => simp [intOf]; omega
          · obtain ⟨hqs, hs4⟩ := SP.out.point k (by omega)
            have hq' : q < s.size := by rw [← HQ.out, ← HP.out, ← HD.out]; exact hqs
            have hs4' : (s[q]'hq').toNat = 46 := by
              have e : posOf V k + nDigits (V k) = q := by rw [HP.out, HD.out]; exact HQ.out
              subst e; exact hs4
            have hkn : (k : Int) + 1 < (n : Int) := by omega
            clear hqs hs4
            have HPS := hide (show posOf V (k + 1) = q + 1 by rw [pos_succ, HP.out, HD.out, HQ.out])
            rcases hdb with ⟨hdb, hqq⟩ | hdb
            · go_wp2
              go_roundw
              case rel => exact ⟨k + 1, by omega, by go_num, .inl ⟨by omega, by rw [HPS.out]; go_num⟩, by trivial⟩
              case measure => simp [intOf]; omega
            · go_wp2
              go_roundw
              case rel => exact ⟨k + 1, by omega, by go_num, .inl ⟨by omega, by rw [HPS.out]; go_num⟩, by trivial⟩
              case measure => simp [intOf]; omega
    · go_wp2
      go_ret
      exact ⟨rfl, HE.out⟩

end Go.Proofs.Qxb6604283aDoor
