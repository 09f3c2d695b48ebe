/-
  SEAT b6604001a: PLAIN: bytes, strings, the scan by depth, the walk of a container. No Go in sight. 'd': the byte at an index; 'N': how many bytes there are.
-/
namespace Go.Proofs.Qxb6604001a

def isWs (c : Int) : Bool := c == 32 || c == 9 || c == 10 || c == 13
def isSep (c : Int) : Bool := isWs c || c == 44 || c == 58
def isEnd (c : Int) : Bool := isSep c || c == 93 || c == 125
def isDig (c : Int) : Bool := decide (48 ≤ c) && decide (c ≤ 57)
def isHex (c : Int) : Bool := isDig c || (decide (97 ≤ c) && decide (c ≤ 102)) || (decide (65 ≤ c) && decide (c ≤ 70))
def isOpen (c : Int) : Bool := c == 91 || c == 123
def isClose (c : Int) : Bool := c == 93 || c == 125
/-- A byte that a scan by depth passes by: no quote, no bracket. -/
def isOther (c : Int) : Bool := !(c == 34) && !isOpen c && !isClose c

section
variable (d : Nat → Int) (N : Nat)

/-- Where the string whose text goes on at j ends, if it ends: just past its closing quote. -/
def strGo : Nat → Nat → Option Nat
  | 0, _ => none
  | m + 1, j => if j < N then (if d j = 92 then strGo m (j + 2) else if d j = 34 then some (j + 1) else strGo m (j + 1)) else none

/-- The string with its quote at i ends at e. -/
def StrE (i e : Nat) : Prop := ∃ m, strGo d N m (i + 1) = some e

/-- The scan by depth from i at depth D comes to its close and answers r. -/
def scanGo : Nat → Nat → Nat → Nat → Prop
  | 0, _, _, _ => False
  | m + 1, i, D, r => i < N ∧ ((d i = 34 ∧ ∃ e, StrE d N i e ∧ scanGo m e D r) ∨ (isOpen (d i) = true ∧ scanGo m (i + 1) (D + 1) r) ∨
      (isClose (d i) = true ∧ ((D = 1 ∧ r = i + 1) ∨ (2 ≤ D ∧ scanGo m (i + 1) (D - 1) r))) ∨ (isOther (d i) = true ∧ scanGo m (i + 1) D r))
def Scan (i D r : Nat) : Prop := ∃ m, scanGo d N m i D r

/-- From a the scan comes to b, at whatever depth inside a container. -/
def Pass (a b : Nat) : Prop := ∀ D r, 1 ≤ D → Scan d N b D r → Scan d N a D r

/-- p is the first place from a on that holds no separator. -/
def SkipTo (a p : Nat) : Prop := a ≤ p ∧ p < N ∧ (∀ k, a ≤ k → k < p → isSep (d k) = true) ∧ isSep (d p) = false
/-- Behind a there is white space up to p. -/
def WsTo (a p : Nat) : Prop := a ≤ p ∧ p ≤ N ∧ ∀ k, a ≤ k → k < p → isWs (d k) = true

/-- The value at i ends at v, as a scan tells. -/
def VE (i v : Nat) : Prop :=
  (d i = 34 ∧ StrE d N i v) ∨ (isOpen (d i) = true ∧ Scan d N i 0 v) ∨ (d i ≠ 34 ∧ isOpen (d i) = false ∧ ∀ k, i ≤ k → k < v → isEnd (d k) = false)
/-- .. and where it is a number or a word, what follows ends it. -/
def VEnd (i v : Nat) : Prop :=
  (d i = 34 ∧ StrE d N i v) ∨ (isOpen (d i) = true ∧ Scan d N i 0 v) ∨ (d i ≠ 34 ∧ isOpen (d i) = false ∧ (∀ k, i ≤ k → k < v → isEnd (d k) = false) ∧ v < N ∧ isEnd (d v) = true)

/-- The walk from value to value comes from a to 'last'. -/
def walkGo (last : Nat) : Nat → Nat → Prop
  | 0, _ => False
  | m + 1, a => ∃ p, SkipTo d N a p ∧ (p = last ∨ (p < last ∧ ∃ v, p < v ∧ v ≤ last ∧ VEnd d N p v ∧ walkGo last m v))
def Walk (a last : Nat) : Prop := ∃ m, walkGo d N last m a

/-- A value lies from i to v. -/
structure Good (i v : Nat) : Prop where
  lt : i < v
  le : v ≤ N
  first : isSep (d i) = false
  pass : Pass d N i v
  ve : VE d N i v
  walk : isOpen (d i) = true → Walk d N (i + 1) (v - 1)

/-- Inside the container that begins at i, all is well up to j. -/
structure Upto (i j : Nat) : Prop where
  lt : i < j
  le : j ≤ N
  walk : ∀ last, Walk d N j last → Walk d N (i + 1) last
  pass : Pass d N (i + 1) j
end

section
variable {d : Nat → Int} {N : Nat}

theorem strGo_bound {m j e : Nat} (h : strGo d N m j = some e) : j < e ∧ e ≤ N := by
  induction m generalizing j with
  | zero => simp [strGo] at h
  | succ m ih =>
    unfold strGo at h
    split at h
    · split at h
      · have := ih h; omega
      · split at h
        · simp at h; omega
        · have := ih h; omega
    · simp at h

theorem strGo_up {m j e : Nat} (h : strGo d N m j = some e) : strGo d N (m + 1) j = some e := by
  induction m generalizing j with
  | zero => simp [strGo] at h
  | succ m ih =>
    unfold strGo at h ⊢
    split at h
    · rename_i hj
      rw [if_pos hj]
      split at h
      · rename_i h1; rw [if_pos h1]; exact ih h
      · rename_i h1
        rw [if_neg h1]
        split at h
        · rename_i h2; rw [if_pos h2]; exact h
        · rename_i h2; rw [if_neg h2]; exact ih h
    · simp at h

theorem scan_str {i e D r : Nat} (hi : i < N) (h : d i = 34) (hs : StrE d N i e) (k : Scan d N e D r) : Scan d N i D r := by
  obtain ⟨m, hm⟩ := k
  exact ⟨m + 1, hi, .inl ⟨h, e, hs, hm⟩⟩
theorem scan_open {i D r : Nat} (hi : i < N) (h : isOpen (d i) = true) (k : Scan d N (i + 1) (D + 1) r) : Scan d N i D r := by
  obtain ⟨m, hm⟩ := k
  exact ⟨m + 1, hi, .inr (.inl ⟨h, hm⟩)⟩
theorem scan_done {i : Nat} (hi : i < N) (h : isClose (d i) = true) : Scan d N i 1 (i + 1) := ⟨1, hi, .inr (.inr (.inl ⟨h, .inl ⟨rfl, rfl⟩⟩))⟩
theorem scan_close {i D r : Nat} (hi : i < N) (h : isClose (d i) = true) (hD : 1 ≤ D) (k : Scan d N (i + 1) D r) : Scan d N i (D + 1) r := by
  obtain ⟨m, hm⟩ := k
  exact ⟨m + 1, hi, .inr (.inr (.inl ⟨h, .inr ⟨by omega, hm⟩⟩))⟩
theorem scan_other {i D r : Nat} (hi : i < N) (h : isOther (d i) = true) (k : Scan d N (i + 1) D r) : Scan d N i D r := by
  obtain ⟨m, hm⟩ := k
  exact ⟨m + 1, hi, .inr (.inr (.inr ⟨h, hm⟩))⟩

theorem pass_refl (a : Nat) : Pass d N a a := fun _ _ _ h => h
theorem pass_trans {a b c : Nat} (h : Pass d N a b) (k : Pass d N b c) : Pass d N a c := fun D r hD hc => h D r hD (k D r hD hc)
theorem pass_other {a b : Nat} (hb : b ≤ N) (h : ∀ k, a ≤ k → k < b → isOther (d k) = true) (hab : a ≤ b) : Pass d N a b := by
  obtain ⟨n, rfl⟩ : ∃ n, b = a + n := ⟨b - a, by omega⟩
  induction n generalizing a with
  | zero => exact pass_refl a
  | succ n ih =>
    have h1 : Pass d N (a + 1) (a + 1 + n) := ih (by omega) (fun k h1 h2 => h k (by omega) (by omega)) (by omega)
    intro D r hD hc
    refine scan_other (by omega) (h a (by omega) (by omega)) (h1 D r hD ?_)
    rw [show a + 1 + n = a + (n + 1) by omega]
    exact hc

theorem other_of_ws {c : Int} (h : isWs c = true) : isOther c = true := by
  simp only [isWs, Bool.or_eq_true, beq_iff_eq] at h
  rcases h with ((rfl | rfl) | rfl) | rfl <;> rfl
theorem other_of_sep {c : Int} (h : isSep c = true) : isOther c = true := by
  simp only [isSep, isWs, Bool.or_eq_true, beq_iff_eq] at h
  rcases h with (((((rfl | rfl) | rfl) | rfl) | rfl) | rfl) <;> rfl
theorem sep_of_ws {c : Int} (h : isWs c = true) : isSep c = true := by simp [isSep, h]
theorem end_of_sep {c : Int} (h : isSep c = true) : isEnd c = true := by simp [isEnd, h]
theorem end_of_close {c : Int} (h : isClose c = true) : isEnd c = true := by
  simp only [isClose, Bool.or_eq_true, beq_iff_eq] at h
  rcases h with rfl | rfl <;> rfl
theorem sep_of_close {c : Int} (h : isClose c = true) : isSep c = false := by
  simp only [isClose, Bool.or_eq_true, beq_iff_eq] at h
  rcases h with rfl | rfl <;> rfl

theorem skip_unique {a p q : Nat} (h : SkipTo d N a p) (k : SkipTo d N a q) : p = q := by
  obtain ⟨h1, _, h3, h4⟩ := h
  obtain ⟨k1, _, k3, k4⟩ := k
  rcases Nat.lt_trichotomy p q with hlt | heq | hgt
  · have := k3 p h1 hlt; rw [h4] at this; simp at this
  · exact heq
  · have := h3 q k1 hgt; rw [k4] at this; simp at this

theorem walk_le {a last : Nat} (h : Walk d N a last) : a ≤ last := by
  obtain ⟨m, hm⟩ := h
  cases m with
  | zero => exact hm.elim
  | succ m =>
    obtain ⟨p, hs, hp⟩ := hm
    have := hs.1
    rcases hp with rfl | ⟨hp, _⟩ <;> omega

theorem walk_sep {a last : Nat} (ha : isSep (d a) = true) (h : Walk d N (a + 1) last) : Walk d N a last := by
  obtain ⟨m, hm⟩ := h
  cases m with
  | zero => exact hm.elim
  | succ m =>
    obtain ⟨p, ⟨h1, h2, h3, h4⟩, hp⟩ := hm
    refine ⟨m + 1, p, ⟨by omega, h2, fun k k1 k2 => ?_, h4⟩, hp⟩
    by_cases e : k = a
    · rw [e]; exact ha
    · exact h3 k (by omega) k2

theorem walk_ws {a b last : Nat} (hab : a ≤ b) (hw : ∀ k, a ≤ k → k < b → isWs (d k) = true) (h : Walk d N b last) : Walk d N a last := by
  obtain ⟨n, rfl⟩ : ∃ n, b = a + n := ⟨b - a, by omega⟩
  induction n generalizing a with
  | zero => exact h
  | succ n ih =>
    refine walk_sep (sep_of_ws (hw a (by omega) (by omega))) (ih (by omega) (fun k k1 k2 => hw k (by omega) (by omega)) ?_)
    rw [show a + 1 + n = a + (n + 1) by omega]
    exact h

theorem walk_end {a : Nat} (ha : a < N) (h : isSep (d a) = false) : Walk d N a a :=
  ⟨1, a, ⟨Nat.le_refl _, ha, fun k k1 k2 => absurd k2 (by omega), h⟩, .inl rfl⟩

theorem walk_val {p v last : Nat} (hp : p < N) (hf : isSep (d p) = false) (hpv : p < v) (hv : VEnd d N p v) (h : Walk d N v last) : Walk d N p last := by
  have hle := walk_le h
  obtain ⟨m, hm⟩ := h
  exact ⟨m + 1, p, ⟨Nat.le_refl _, hp, fun k k1 k2 => absurd k2 (by omega), hf⟩, .inr ⟨by omega, v, hpv, hle, hv, hm⟩⟩

/-- THE START: behind the opening bracket. -/
theorem upto_start {i j : Nat} (hw : WsTo d N (i + 1) j) : Upto d N i j :=
  ⟨by have := hw.1; omega, hw.2.1, fun _ h => walk_ws hw.1 hw.2.2 h, pass_other hw.2.1 (fun k k1 k2 => other_of_ws (hw.2.2 k k1 k2)) hw.1⟩

/-- A VALUE, white space behind it, and something that ends it. -/
theorem upto_value {i j v j' : Nat} (h : Upto d N i j) (g : Good d N j v) (hw : WsTo d N v j') (hj : j' < N) (he : isEnd (d j') = true) : Upto d N i j' := by
  have hv : v ≤ j' := hw.1
  have hend : isEnd (d v) = true := by
    by_cases e : v = j'
    · rw [e]; exact he
    · exact end_of_sep (sep_of_ws (hw.2.2 v (Nat.le_refl _) (by omega)))
  have hlt := g.lt
  have hle := h.lt
  have hVE : VEnd d N j v := by
    rcases g.ve with a | a | ⟨a, b, c⟩
    · exact .inl a
    · exact .inr (.inl a)
    · exact .inr (.inr ⟨a, b, c, by omega, hend⟩)
  refine ⟨by omega, hw.2.1, fun last hl => h.walk last (walk_val (by omega) g.first hlt hVE (walk_ws hv hw.2.2 hl)), ?_⟩
  exact pass_trans h.pass (pass_trans g.pass (pass_other hw.2.1 (fun k k1 k2 => other_of_ws (hw.2.2 k k1 k2)) hv))

/-- A COMMA OR A COLON, and white space behind it. -/
theorem upto_sep {i j j' : Nat} (h : Upto d N i j) (hs : isSep (d j) = true) (hw : WsTo d N (j + 1) j') : Upto d N i j' := by
  have h1 := hw.1
  have h2 := h.lt
  refine ⟨by omega, hw.2.1, fun last hl => h.walk last (walk_sep hs (walk_ws h1 hw.2.2 hl)), pass_trans h.pass ?_⟩
  refine pass_other hw.2.1 (fun k k1 k2 => ?_) (by omega)
  by_cases e : k = j
  · rw [e]; exact other_of_sep hs
  · exact other_of_ws (hw.2.2 k (by omega) k2)

/-- THE CLOSE. -/
theorem upto_close {i j : Nat} (hi : i < N) (ho : isOpen (d i) = true) (hf : isSep (d i) = false) (h : Upto d N i j) (hj : j < N) (hc : isClose (d j) = true) : Good d N i (j + 1) := by
  have h2 := h.lt
  refine ⟨by omega, by omega, hf, ?_, .inr (.inl ⟨ho, ?_⟩), fun _ => ?_⟩
  · intro D r hD hs
    exact scan_open hi ho (h.pass (D + 1) r (by omega) (scan_close hj hc hD hs))
  · exact scan_open hi ho (h.pass 1 (j + 1) (by omega) (scan_done hj hc))
  · exact h.walk j (walk_end hj (sep_of_close hc))

/-- A STRING. -/
theorem good_str {i v : Nat} (hi : i < N) (h : d i = 34) (hs : StrE d N i v) : Good d N i v := by
  obtain ⟨m, hm⟩ := hs
  have hb := strGo_bound hm
  exact ⟨by omega, hb.2, by rw [h]; rfl, fun D r _ k => scan_str hi h ⟨m, hm⟩ k, .inl ⟨h, m, hm⟩, fun ho => by rw [h] at ho; exact absurd ho (by decide)⟩

/-- A byte of a number or a word. -/
def isPlain (c : Int) : Bool := !isEnd c && !(c == 34) && !isOpen c
theorem plain_other {c : Int} (h : isPlain c = true) : isOther c = true ∧ isEnd c = false ∧ c ≠ 34 ∧ isOpen c = false ∧ isSep c = false := by
  simp only [isPlain, Bool.and_eq_true, Bool.not_eq_true'] at h
  obtain ⟨⟨h1, h2⟩, h3⟩ := h
  have hc : isClose c = false := by
    cases e : isClose c with
    | false => rfl
    | true => rw [end_of_close e] at h1; exact absurd h1 (by decide)
  have hsep : isSep c = false := by
    cases e : isSep c with
    | false => rfl
    | true => rw [end_of_sep e] at h1; exact absurd h1 (by decide)
  refine ⟨by simp [isOther, h2, h3, hc], h1, ?_, h3, hsep⟩
  intro e; rw [e] at h2; exact absurd h2 (by decide)

theorem good_plain {i v : Nat} (hlt : i < v) (hle : v ≤ N) (h : ∀ k, i ≤ k → k < v → isPlain (d k) = true) : Good d N i v := by
  obtain ⟨h1, h2, h3, h4, h5⟩ := plain_other (h i (Nat.le_refl _) hlt)
  exact ⟨hlt, hle, h5, pass_other hle (fun k k1 k2 => (plain_other (h k k1 k2)).1) (by omega), .inr (.inr ⟨h3, h4, fun k k1 k2 => (plain_other (h k k1 k2)).2.1⟩), fun ho => by rw [h4] at ho; exact absurd ho (by decide)⟩

/-- A byte of a number. -/
def isNum (c : Int) : Bool := isDig c || c == 45 || c == 43 || c == 46 || c == 101 || c == 69
theorem plain_of_num {c : Int} (h : isNum c = true) : isPlain c = true := by
  simp only [isNum, isDig, Bool.or_eq_true, Bool.and_eq_true, decide_eq_true_eq, beq_iff_eq] at h
  simp only [isPlain, isEnd, isSep, isWs, isOpen, Bool.and_eq_true, Bool.not_eq_true', Bool.or_eq_false_iff, beq_eq_false_iff_ne]
  omega

/-! ### Strings, as the grammar reads them -/
theorem str_quote {j : Nat} (hj : j < N) (h : d j = 34) : strGo d N 1 j = some (j + 1) := by
  unfold strGo; rw [if_pos hj, if_neg (by rw [h]; decide), if_pos h]
theorem str_step {m j e : Nat} (hj : j < N) (h1 : d j ≠ 34) (h2 : d j ≠ 92) (k : strGo d N m (j + 1) = some e) : strGo d N (m + 1) j = some e := by
  unfold strGo; rw [if_pos hj, if_neg h2, if_neg h1]; exact k
theorem str_esc {m j e : Nat} (hj : j < N) (h : d j = 92) (k : strGo d N m (j + 2) = some e) : strGo d N (m + 1) j = some e := by
  unfold strGo; rw [if_pos hj, if_pos h]; exact k

/-- From a the string goes on to b. -/
def StrPass (d : Nat → Int) (N a b : Nat) : Prop := ∀ m e, strGo d N m b = some e → ∃ m', strGo d N m' a = some e
theorem strpass_refl (a : Nat) : StrPass d N a a := fun m _ h => ⟨m, h⟩
theorem strpass_trans {a b c : Nat} (h : StrPass d N a b) (k : StrPass d N b c) : StrPass d N a c := fun m e hc => let ⟨m', h'⟩ := k m e hc; h m' e h'
theorem strpass_step {j : Nat} (hj : j < N) (h1 : d j ≠ 34) (h2 : d j ≠ 92) : StrPass d N j (j + 1) := fun m _ k => ⟨m + 1, str_step hj h1 h2 k⟩
theorem strpass_esc {j : Nat} (hj : j < N) (h : d j = 92) : StrPass d N j (j + 2) := fun m _ k => ⟨m + 1, str_esc hj h k⟩
theorem hex_plain {c : Int} (h : isHex c = true) : c ≠ 34 ∧ c ≠ 92 := by
  simp only [isHex, isDig, Bool.or_eq_true, Bool.and_eq_true, decide_eq_true_eq] at h
  omega
theorem strpass_hex {a b : Nat} (hab : a ≤ b) (hb : b ≤ N) (h : ∀ k, a ≤ k → k < b → isHex (d k) = true) : StrPass d N a b := by
  obtain ⟨n, rfl⟩ : ∃ n, b = a + n := ⟨b - a, by omega⟩
  induction n generalizing a with
  | zero => exact strpass_refl a
  | succ n ih =>
    have h0 := hex_plain (h a (by omega) (by omega))
    have h1 := ih (a := a + 1) (by omega) (by omega) (fun k k1 k2 => h k (by omega) (by omega))
    rw [show a + 1 + n = a + (n + 1) by omega] at h1
    exact strpass_trans (strpass_step (by omega) h0.1 h0.2) h1
theorem str_end {i j : Nat} (h : StrPass d N (i + 1) j) (hj : j < N) (hq : d j = 34) : StrE d N i (j + 1) := h 1 (j + 1) (str_quote hj hq)
end

end Go.Proofs.Qxb6604001a
