import PyProof.Rows.All
import Wide.All
import OpenK.AllK
import Wide.FinOn
import Lean
import PySem.Challenge.RW_rl0074_01
set_option Elab.async false
noncomputable section
/-! words, borders, periods: plain -/
namespace Mine
/-- the i-th letter -/
abbrev at' (w : List Nat) (i : Nat) : Nat := w.getD i 0

def isB (w : List Nat) (L b : Nat) : Prop := b < L ∧ ∀ t, t < b → at' w t = at' w (L - b + t)
def isBb (w : List Nat) (L b : Nat) : Bool := decide (b < L) && (List.range b).all fun t => at' w t == at' w (L - b + t)
theorem isBb_iff {w : List Nat} {L b : Nat} : isBb w L b = true ↔ isB w L b := by simp [isBb, isB]
/-- the longest border (shorter than L) of the first L letters -/
noncomputable def lbB (w : List Nat) (L : Nat) : Nat → Nat
  | 0 => 0
  | b + 1 => if isBb w L (b + 1) = true then b + 1 else lbB w L b
def lb (w : List Nat) (L : Nat) : Nat := lbB w L (L - 1)

theorem isB_zero {w : List Nat} {L : Nat} (h : 0 < L) : isB w L 0 := ⟨h, fun _ ht => absurd ht (Nat.not_lt_zero _)⟩
theorem lbB_spec (w : List Nat) (L : Nat) (hL : 0 < L) : ∀ m, isB w L (lbB w L m) ∧ lbB w L m ≤ m ∧ ∀ c, c ≤ m → isB w L c → c ≤ lbB w L m
  | 0 => ⟨isB_zero hL, Nat.le_refl _, fun c hc _ => hc⟩
  | b + 1 => by
    unfold lbB
    split
    · rename_i h; exact ⟨isBb_iff.mp h, Nat.le_refl _, fun c hc _ => hc⟩
    · rename_i h
      rw [isBb_iff] at h
      obtain ⟨a1, a2, a3⟩ := lbB_spec w L hL b
      refine ⟨a1, Nat.le_succ_of_le a2, fun c hc hb => ?_⟩
      by_cases e : c = b + 1
      · subst e; exact absurd hb h
      · exact a3 c (by omega) hb
theorem lb_isB {w : List Nat} {L : Nat} (hL : 0 < L) : isB w L (lb w L) := (lbB_spec w L hL _).1
theorem lb_max {w : List Nat} {L c : Nat} (hL : 0 < L) (h : isB w L c) : c ≤ lb w L := (lbB_spec w L hL _).2.2 c (by have := h.1; omega) h
theorem lb_lt {w : List Nat} {L : Nat} (hL : 0 < L) : lb w L < L := (lb_isB hL).1
theorem lb_one (w : List Nat) : lb w 1 = 0 := rfl
theorem lb_unique {w : List Nat} {L b : Nat} (hL : 0 < L) (h : isB w L b) (hm : ∀ c, isB w L c → c ≤ b) : lb w L = b := Nat.le_antisymm (hm _ (lb_isB hL)) (lb_max hL h)

/-- a border's border -/
theorem isB_trans {w : List Nat} {L b c : Nat} (h1 : isB w L b) (h2 : isB w b c) : isB w L c := by
  refine ⟨Nat.lt_trans h2.1 h1.1, fun t ht => ?_⟩
  rw [h2.2 t ht, h1.2 (b - c + t) (by have := h2.1; omega)]
  congr 1
  have := h1.1; have := h2.1; omega
theorem isB_below {w : List Nat} {L b c : Nat} (h1 : isB w L b) (h2 : isB w L c) (hcb : c < b) : isB w b c := by
  refine ⟨hcb, fun t ht => ?_⟩
  rw [h2.2 t ht, h1.2 (b - c + t) (by omega)]
  congr 1
  have := h1.1; omega
/-- one letter on -/
theorem isB_succ {w : List Nat} {L b : Nat} : isB w (L + 1) (b + 1) ↔ isB w L b ∧ at' w b = at' w L := by
  constructor
  · rintro ⟨h1, h2⟩
    refine ⟨⟨by omega, fun t ht => ?_⟩, ?_⟩
    · have := h2 t (by omega); rw [this]; congr 1; omega
    · have := h2 b (by omega); rw [this]; congr 1; omega
  · rintro ⟨⟨h1, h2⟩, h3⟩
    refine ⟨by omega, fun t ht => ?_⟩
    by_cases e : t = b
    · subst e; rw [h3]; congr 1; omega
    · rw [h2 t (by omega)]; congr 1; omega

/-- the search's word: idx is a border and no longer one goes on -/
def Kmp (w : List Nat) (i idx : Nat) : Prop := isB w i idx ∧ ∀ c, isB w i c → idx < c → at' w c ≠ at' w i
theorem kmp_start {w : List Nat} {i : Nat} (hi : 0 < i) : Kmp w i (lb w i) := ⟨lb_isB hi, fun c hc hlt => absurd (lb_max hi hc) (by omega)⟩
theorem kmp_step {w : List Nat} {i idx : Nat} (h : Kmp w i idx) (hne : at' w i ≠ at' w idx) (h0 : 0 < idx) : Kmp w i (lb w idx) := by
  refine ⟨isB_trans h.1 (lb_isB h0), fun c hc hlt => ?_⟩
  rcases Nat.lt_trichotomy c idx with hlt' | e | hgt
  · exact absurd (lb_max h0 (isB_below h.1 hc hlt')) (by omega)
  · subst e; exact fun e => hne e.symm
  · exact h.2 c hc hgt
theorem kmp_hit {w : List Nat} {i idx : Nat} (h : Kmp w i idx) (he : at' w i = at' w idx) : lb w (i + 1) = idx + 1 := by
  refine lb_unique (Nat.succ_pos _) (isB_succ.mpr ⟨h.1, he.symm⟩) fun c hc => ?_
  cases c with
  | zero => omega
  | succ c =>
    obtain ⟨h1, h2⟩ := isB_succ.mp hc
    rcases Nat.lt_or_ge idx c with hlt | hge
    · exact absurd h2 (h.2 c h1 hlt)
    · omega
theorem kmp_miss {w : List Nat} {i : Nat} (h : Kmp w i 0) (hne : at' w i ≠ at' w 0) : lb w (i + 1) = 0 := by
  refine lb_unique (Nat.succ_pos _) (isB_zero (Nat.succ_pos _)) fun c hc => ?_
  cases c with
  | zero => omega
  | succ c =>
    obtain ⟨h1, h2⟩ := isB_succ.mp hc
    by_cases e : c = 0
    · subst e; exact absurd h2.symm hne
    · exact absurd h2 (h.2 c h1 (by omega))

def tbl (w : List Nat) : List Nat := (List.range w.length).map fun k => lb w (k + 1)
theorem tbl_length (w : List Nat) : (tbl w).length = w.length := by simp [tbl]
theorem tbl_at {w : List Nat} {k : Nat} (h : k < w.length) : (tbl w)[k]? = some (lb w (k + 1)) := by simp [tbl, h]
theorem tbl_le {w : List Nat} {k : Nat} : lb w (k + 1) ≤ k := Nat.le_of_lt_succ (lb_lt (Nat.succ_pos _))

/-- periods -/
def Per (w : List Nat) (i j p : Nat) : Prop := ∀ t, i ≤ t → t + p < j → at' w t = at' w (t + p)
theorem at_drop (w : List Nat) (i t : Nat) : at' (w.drop i) t = at' w (i + t) := by simp [at', List.getD, List.getElem?_drop]
theorem isB_iff_per {w : List Nat} {i L p : Nat} (hp : 0 < p) (hpL : p ≤ L) : isB (w.drop i) L (L - p) ↔ Per w i (i + L) p := by
  constructor
  · rintro ⟨_, h⟩ t ht hlt
    have := h (t - i) (by omega)
    rw [at_drop, at_drop] at this
    rw [show i + (t - i) = t by omega, show i + (L - (L - p) + (t - i)) = t + p by omega] at this
    exact this
  · intro h
    refine ⟨by omega, fun t ht => ?_⟩
    rw [at_drop, at_drop, h (i + t) (by omega) (by omega)]
    congr 1
    omega
/-- the least period of the L letters from i on -/
def lp (w : List Nat) (i L : Nat) : Nat := L - lb (w.drop i) L
theorem lp_pos {w : List Nat} {i L : Nat} (hL : 0 < L) : 0 < lp w i L := by unfold lp; have := lb_lt (w := w.drop i) hL; omega
theorem lp_le {w : List Nat} {i L : Nat} : lp w i L ≤ L := by unfold lp; omega
theorem lp_per {w : List Nat} {i L : Nat} (hL : 0 < L) : Per w i (i + L) (lp w i L) := by
  have := lb_lt (w := w.drop i) hL
  refine (isB_iff_per (lp_pos hL) lp_le).mp ?_
  have e : L - lp w i L = lb (w.drop i) L := by unfold lp; omega
  rw [e]; exact lb_isB hL
theorem lp_least {w : List Nat} {i L p : Nat} (hp : 0 < p) (hpL : p ≤ L) (h : Per w i (i + L) p) : lp w i L ≤ p := by
  have := lb_max (w := w.drop i) (L := L) (by omega) ((isB_iff_per hp hpL).mpr h)
  unfold lp; omega
theorem lp_eq_iff {w : List Nat} {i L p : Nat} (hp : 0 < p) (hpL : p ≤ L) : lp w i L = p ↔ Per w i (i + L) p ∧ ∀ q, 0 < q → q < p → ¬ Per w i (i + L) q := by
  constructor
  · rintro rfl
    exact ⟨lp_per (by omega), fun q h1 h2 h3 => absurd (lp_least h1 (by omega) h3) (by omega)⟩
  · rintro ⟨h1, h2⟩
    have hle := lp_least hp hpL h1
    rcases Nat.lt_or_ge (lp w i L) p with hlt | hge
    · exact absurd (lp_per (by omega)) (h2 _ (lp_pos (by omega)) hlt)
    · omega
theorem Per.mono {w : List Nat} {i j i' j' p : Nat} (h : Per w i j p) (hi : i ≤ i') (hj : j' ≤ j) : Per w i' j' p := fun t ht hlt => h t (by omega) (by omega)

/-- the runs as the tables tell them -/
def toldIf (w : List Nat) (low size : Nat) : Bool :=
  decide (2 * lp w low size ≤ size) && !(decide (0 < low) && at' w (low - 1) == at' w (low - 1 + lp w low size)) && !(decide (low + size < w.length) && lp w low (size + 1) == lp w low size)
def told (w : List Nat) : List (Nat × Nat × Nat) := (List.range w.length).flatMap fun low => ((List.range' 2 (w.length - low - 1)).filter (toldIf w low)).map fun size => (low, low + size, lp w low size)

structure Run (w : List Nat) (i j p : Nat) : Prop where
  pos : 0 < p
  two : i + 2 * p ≤ j
  le : j ≤ w.length
  per : Per w i j p
  least : ∀ q, 0 < q → q < p → ¬ Per w i j q
  left : ¬ (0 < i ∧ at' w (i - 1) = at' w (i - 1 + p))
  right : ¬ (j < w.length ∧ at' w (j - p) = at' w j)

theorem lp_next {w : List Nat} {i L : Nat} (hL : 0 < L) : lp w i (L + 1) = lp w i L ↔ at' w (i + L - lp w i L) = at' w (i + L) := by
  have hp := lp_pos (w := w) (i := i) hL
  have hle := lp_le (w := w) (i := i) (L := L)
  constructor
  · intro e
    have := lp_per (w := w) (i := i) (L := L + 1) (by omega) (i + L - lp w i L) (by omega) (by rw [e]; omega)
    rw [e] at this
    rw [this]; congr 1; omega
  · intro e
    rw [lp_eq_iff hp (by omega)]
    refine ⟨fun t ht hlt => ?_, fun q h1 h2 h3 => ?_⟩
    · by_cases hc : t + lp w i L < i + L
      · exact lp_per hL t ht hc
      · have : t = i + L - lp w i L := by omega
        subst this
        rw [e]; congr 1; omega
    · exact absurd (lp_least (L := L) h1 (by omega) (h3.mono (Nat.le_refl _) (by omega))) (by omega)

theorem told_iff {w : List Nat} {i j p : Nat} : (i, j, p) ∈ told w ↔ Run w i j p := by
  unfold told
  simp only [List.mem_flatMap, List.mem_range, List.mem_map, List.mem_filter, List.mem_range'_1, Prod.mk.injEq]
  constructor
  · rintro ⟨low, hlow, size, ⟨⟨hs1, hs2⟩, hif⟩, rfl, rfl, rfl⟩
    have hsz : 0 < size := by omega
    have hp := lp_pos (w := w) (i := low) hsz
    simp only [toldIf, Bool.and_eq_true, Bool.not_eq_true', decide_eq_true_eq, Bool.and_eq_false_iff, decide_eq_false_iff_not, beq_eq_false_iff_ne] at hif
    obtain ⟨⟨h1, h2⟩, h3⟩ := hif
    refine ⟨hp, by omega, by omega, lp_per hsz, ((lp_eq_iff hp lp_le).mp rfl).2, fun ⟨a, b⟩ => ?_, fun ⟨a, b⟩ => ?_⟩
    · rcases h2 with h2 | h2
      · exact h2 a
      · exact h2 b
    · rcases h3 with h3 | h3
      · exact h3 a
      · exact h3 ((lp_next hsz).mpr b)
  · intro R
    have h2 := R.two; have hl := R.le; have hp := R.pos
    have hlp : lp w i (j - i) = p := (lp_eq_iff hp (by omega)).mpr (by rw [show i + (j - i) = j by omega]; exact ⟨R.per, R.least⟩)
    refine ⟨i, by omega, j - i, ⟨⟨by omega, by omega⟩, ?_⟩, rfl, by omega, hlp⟩
    simp only [toldIf, hlp, Bool.and_eq_true, Bool.not_eq_true', decide_eq_true_eq, Bool.and_eq_false_iff, decide_eq_false_iff_not, beq_eq_false_iff_ne]
    refine ⟨⟨by omega, ?_⟩, ?_⟩
    · by_cases h : 0 < i
      · exact .inr fun e => R.left ⟨h, e⟩
      · exact .inl h
    · by_cases h : i + (j - i) < w.length
      · refine .inr fun e => R.right ⟨by omega, ?_⟩
        have := (lp_next (w := w) (i := i) (L := j - i) (by omega)).mp (e.trans hlp.symm)
        rw [hlp, show i + (j - i) = j by omega] at this
        exact this
      · exact .inl h
end Mine
end
noncomputable section
namespace Mine
/-! the order of words -/
theorem lt_cons {a b : Nat} {x y : List Nat} : a :: x < b :: y ↔ a < b ∨ a = b ∧ x < y := List.cons_lt_cons_iff
theorem lt_irr : ∀ (x : List Nat), ¬ x < x
  | [], h => by simp at h
  | a :: x, h => by
    rcases lt_cons.mp h with h | h
    · omega
    · exact lt_irr x h.2
theorem lt_tr : ∀ {x y z : List Nat}, x < y → y < z → x < z
  | [], [], _, h, _ => absurd h (lt_irr [])
  | [], _ :: _, [], _, h => by simp at h
  | [], _ :: _, _ :: _, _, _ => by simp
  | _ :: _, [], _, h, _ => by simp at h
  | _ :: _, _ :: _, [], _, h => by simp at h
  | a :: x, b :: y, c :: z, h1, h2 => by
    rw [lt_cons] at h1 h2 ⊢
    rcases h1 with h1 | ⟨h1, h1'⟩ <;> rcases h2 with h2 | ⟨h2, h2'⟩
    · exact .inl (by omega)
    · exact .inl (by omega)
    · exact .inl (by omega)
    · exact .inr ⟨by omega, lt_tr h1' h2'⟩
theorem lt_tri : ∀ (x y : List Nat), x < y ∨ x = y ∨ y < x
  | [], [] => .inr (.inl rfl)
  | [], _ :: _ => .inl (by simp)
  | _ :: _, [] => .inr (.inr (by simp))
  | a :: x, b :: y => by
    rcases Nat.lt_trichotomy a b with h | h | h
    · exact .inl (lt_cons.mpr (.inl h))
    · subst h
      rcases lt_tri x y with q | q | q
      · exact .inl (lt_cons.mpr (.inr ⟨rfl, q⟩))
      · exact .inr (.inl (by rw [q]))
      · exact .inr (.inr (lt_cons.mpr (.inr ⟨rfl, q⟩)))
    · exact .inr (.inr (lt_cons.mpr (.inl h)))
theorem lt_pre : ∀ (s : List Nat) {x y : List Nat}, s ++ x < s ++ y ↔ x < y
  | [], _, _ => Iff.rfl
  | a :: s, x, y => by
    rw [List.cons_append, List.cons_append, lt_cons]
    constructor
    · rintro (h | h)
      · omega
      · exact (lt_pre s).mp h.2
    · exact fun h => .inr ⟨rfl, (lt_pre s).mpr h⟩
theorem lt_app : ∀ {x y : List Nat} (a b : List Nat), x.length = y.length → x < y → x ++ a < y ++ b
  | [], [], _, _, _, h => absurd h (lt_irr [])
  | [], _ :: _, _, _, hl, _ => by simp at hl
  | _ :: _, [], _, _, hl, _ => by simp at hl
  | c :: x, d :: y, a, b, hl, h => by
    rw [List.cons_append, List.cons_append, lt_cons]
    rcases lt_cons.mp h with h | h
    · exact .inl h
    · exact .inr ⟨h.1, lt_app a b (by simpa using hl) h.2⟩

/-! the tails -/
def tail' (w e : List Nat) (k : Nat) : List Nat := w.drop k ++ e
theorem tail_cons {w e : List Nat} {k : Nat} (h : k < w.length) : tail' w e k = at' w k :: tail' w e (k + 1) := by
  unfold tail' at'
  rw [List.drop_eq_getElem_cons h, List.cons_append]
  congr 1
  simp [List.getD, h]
theorem tail_end {w e : List Nat} : tail' w e w.length = e := by simp [tail']
theorem tail_length {w e : List Nat} {k : Nat} (_ : k ≤ w.length) : (tail' w e k).length = w.length - k + e.length := by simp [tail']
theorem tail_ne {w e : List Nat} {a b : Nat} (ha : a ≤ w.length) (hb : b ≤ w.length) (hne : a ≠ b) : tail' w e a ≠ tail' w e b := by
  intro h
  have := congrArg List.length h
  rw [tail_length ha, tail_length hb] at this
  omega
/-- r letters alike: go on behind them -/
theorem tail_skip {w e : List Nat} : ∀ (r : Nat) {a b : Nat}, a + r ≤ w.length → b + r ≤ w.length → (∀ t, t < r → at' w (a + t) = at' w (b + t)) → (tail' w e a < tail' w e b ↔ tail' w e (a + r) < tail' w e (b + r))
  | 0, _, _, _, _, _ => Iff.rfl
  | r + 1, a, b, ha, hb, h => by
    have h0 := h 0 (by omega)
    rw [Nat.add_zero, Nat.add_zero] at h0
    rw [tail_cons (by omega), tail_cons (k := b) (by omega), lt_cons, h0]
    have := tail_skip (w := w) (e := e) r (a := a + 1) (b := b + 1) (by omega) (by omega) fun t ht => by
      have := h (t + 1) (by omega)
      rw [show a + 1 + t = a + (t + 1) by omega, show b + 1 + t = b + (t + 1) by omega]; exact this
    rw [show a + (r + 1) = a + 1 + r by omega, show b + (r + 1) = b + 1 + r by omega, ← this]
    constructor
    · rintro (q | q)
      · omega
      · exact q.2
    · exact fun q => .inr ⟨rfl, q⟩
/-- a first difference decides -/
theorem tail_diff {w e : List Nat} {a b r : Nat} (ha : a + r < w.length) (hb : b + r < w.length) (h : ∀ t, t < r → at' w (a + t) = at' w (b + t)) (hd : at' w (a + r) < at' w (b + r)) : tail' w e a < tail' w e b := by
  rw [tail_skip r (by omega) (by omega) h, tail_cons ha, tail_cons hb, lt_cons]
  exact .inl hd

/-! found -/
noncomputable def lowOf (w : List Nat) (step : Nat) : Nat → Nat
  | 0 => 0
  | l + 1 => if at' w l = at' w (l + step) then lowOf w step l else l + 1
noncomputable def hiOf (w : List Nat) (step : Nat) : Nat → Nat → Nat
  | 0, h => h
  | f + 1, h => if at' w h = at' w (h - step) then hiOf w step f (h + 1) else h
def highOf (w : List Nat) (step h : Nat) : Nat := hiOf w step (w.length - h) h
def stops (w e : List Nat) (place : Nat) : List Nat := (List.range' (place + 1) (w.length - place)).filter fun k => decide (tail' w e k < tail' w e place)
def foundAt (w : List Nat) (place stop : Nat) : List (Nat × Nat × Nat) :=
  if 2 * (stop - place) ≤ highOf w (stop - place) stop - lowOf w (stop - place) place then [(lowOf w (stop - place) place, highOf w (stop - place) stop, stop - place)] else []
def found (w e : List Nat) : List (Nat × Nat × Nat) := (List.range w.length).flatMap fun place => ((stops w e place).take 1).flatMap (foundAt w place)

theorem lowOf_spec (w : List Nat) (step : Nat) : ∀ l, lowOf w step l ≤ l ∧ (∀ t, lowOf w step l ≤ t → t < l → at' w t = at' w (t + step)) ∧ ¬ (0 < lowOf w step l ∧ at' w (lowOf w step l - 1) = at' w (lowOf w step l - 1 + step))
  | 0 => ⟨Nat.le_refl _, fun t _ h => absurd h (Nat.not_lt_zero _), fun h => absurd h.1 (Nat.lt_irrefl _)⟩
  | l + 1 => by
    unfold lowOf
    split
    · rename_i h
      obtain ⟨a1, a2, a3⟩ := lowOf_spec w step l
      refine ⟨by omega, fun t h1 h2 => ?_, a3⟩
      by_cases e : t = l
      · subst e; exact h
      · exact a2 t h1 (by omega)
    · rename_i h
      exact ⟨Nat.le_refl _, fun t h1 h2 => absurd h2 (by omega), fun q => h q.2⟩
theorem lowOf_down (w : List Nat) (step i : Nat) : ∀ l, i ≤ l → (∀ t, i ≤ t → t < l → at' w t = at' w (t + step)) → lowOf w step l = lowOf w step i
  | 0, h, _ => by rw [Nat.le_zero.mp h]
  | l + 1, h, hp => by
    by_cases e : i = l + 1
    · rw [e]
    · show (if at' w l = at' w (l + step) then lowOf w step l else l + 1) = _
      rw [if_pos (hp l (by omega) (by omega))]
      exact lowOf_down w step i l (by omega) fun t h1 h2 => hp t h1 (by omega)
theorem lowOf_stay {w : List Nat} {step i : Nat} (h : ¬ (0 < i ∧ at' w (i - 1) = at' w (i - 1 + step))) : lowOf w step i = i := by
  cases i with
  | zero => rfl
  | succ l =>
    show (if at' w l = at' w (l + step) then lowOf w step l else l + 1) = _
    have h' : ¬ at' w l = at' w (l + step) := fun e => h ⟨Nat.succ_pos _, by simpa using e⟩
    rw [if_neg h']
theorem highOf_step {w : List Nat} {step h : Nat} (hl : h < w.length) (e : at' w h = at' w (h - step)) : highOf w step h = highOf w step (h + 1) := by
  unfold highOf
  rw [show w.length - h = w.length - (h + 1) + 1 by omega]
  show (if at' w h = at' w (h - step) then _ else _) = _
  rw [if_pos e]
theorem highOf_stay {w : List Nat} {step h : Nat} (hn : ¬ (h < w.length ∧ at' w h = at' w (h - step))) : highOf w step h = h := by
  unfold highOf
  cases hf : w.length - h with
  | zero => rfl
  | succ f =>
    show (if at' w h = at' w (h - step) then _ else _) = _
    rw [if_neg fun e => hn ⟨by omega, e⟩]
theorem highOf_spec (w : List Nat) (step : Nat) : ∀ f h, h + f = w.length → h ≤ highOf w step h ∧ highOf w step h ≤ w.length ∧ (∀ t, h ≤ t → t < highOf w step h → at' w t = at' w (t - step)) ∧ ¬ (highOf w step h < w.length ∧ at' w (highOf w step h) = at' w (highOf w step h - step))
  | 0, h, hf => by
    have e : highOf w step h = h := highOf_stay fun q => by omega
    rw [e]; exact ⟨Nat.le_refl _, by omega, fun t h1 h2 => absurd h2 (by omega), fun q => by omega⟩
  | f + 1, h, hf => by
    by_cases q : at' w h = at' w (h - step)
    · rw [highOf_step (by omega) q]
      obtain ⟨a1, a2, a3, a4⟩ := highOf_spec w step f (h + 1) (by omega)
      refine ⟨by omega, a2, fun t h1 h2 => ?_, a4⟩
      by_cases e : t = h
      · subst e; exact q
      · exact a3 t (by omega) h2
    · have e : highOf w step h = h := highOf_stay fun x => q x.2
      rw [e]; exact ⟨Nat.le_refl _, by omega, fun t h1 h2 => absurd h2 (by omega), fun x => q x.2⟩
theorem highOf_up (w : List Nat) (step : Nat) {h j : Nat} (hj : j ≤ w.length) (hle : h ≤ j) (hp : ∀ t, h ≤ t → t < j → at' w t = at' w (t - step)) : highOf w step h = highOf w step j := by
  obtain ⟨d, rfl⟩ : ∃ d, j = h + d := ⟨j - h, by omega⟩
  clear hle
  induction d generalizing h with
  | zero => rfl
  | succ d ih =>
    rw [highOf_step (by omega) (hp h (Nat.le_refl _) (by omega)), show h + (d + 1) = h + 1 + d by omega]
    exact ih (by omega) fun t h1 h2 => hp t (by omega) (by omega)

/-- the first later lesser tail -/
theorem stops_first {w e : List Nat} {place stop : Nat} : stop ∈ (stops w e place).take 1 ↔ place < stop ∧ stop ≤ w.length ∧ tail' w e stop < tail' w e place ∧ ∀ m, place < m → m < stop → ¬ tail' w e m < tail' w e place := by
  unfold stops
  rw [show (w.length - place) = (w.length - place) from rfl]
  have key : ∀ (n a : Nat), stop ∈ ((List.range' a n).filter fun k => decide (tail' w e k < tail' w e place)).take 1 ↔ a ≤ stop ∧ stop < a + n ∧ tail' w e stop < tail' w e place ∧ ∀ m, a ≤ m → m < stop → ¬ tail' w e m < tail' w e place := by
    intro n
    induction n with
    | zero => intro a; simp; omega
    | succ n ih =>
      intro a
      rw [List.range'_succ, List.filter_cons]
      by_cases h : tail' w e a < tail' w e place
      · rw [if_pos (by simpa using h)]
        simp only [List.take_succ_cons, List.take_zero, List.mem_singleton]
        constructor
        · rintro rfl; exact ⟨Nat.le_refl _, by omega, h, fun m h1 h2 => absurd h1 (by omega)⟩
        · rintro ⟨h1, h2, h3, h4⟩
          rcases Nat.lt_or_ge a stop with q | q
          · exact absurd h (h4 a (Nat.le_refl _) q)
          · omega
      · rw [if_neg (by simpa using h), ih]
        constructor
        · rintro ⟨h1, h2, h3, h4⟩
          refine ⟨by omega, by omega, h3, fun m q1 q2 => ?_⟩
          by_cases e : m = a
          · subst e; exact h
          · exact h4 m (by omega) q2
        · rintro ⟨h1, h2, h3, h4⟩
          have : a ≠ stop := by rintro rfl; exact h h3
          exact ⟨by omega, by omega, h3, fun m q1 q2 => h4 m (by omega) q2⟩
  rw [key]
  constructor
  · rintro ⟨h1, h2, h3, h4⟩; exact ⟨by omega, by omega, h3, fun m q1 q2 => h4 m (by omega) q2⟩
  · rintro ⟨h1, h2, h3, h4⟩; exact ⟨by omega, by omega, h3, fun m q1 q2 => h4 m (by omega) q2⟩

/-- no border between a place and its stop -/
theorem stop_bare {w e : List Nat} {k s b : Nat} (hks : k < s) (hs : s ≤ w.length) (hlt : tail' w e s < tail' w e k) (hfirst : ∀ m, k < m → m < s → ¬ tail' w e m < tail' w e k) (hb : 0 < b) (hbs : b < s - k)
    (hbord : ∀ t, t < b → at' w (k + t) = at' w (s - b + t)) : False := by
  have h1 : tail' w e k < tail' w e (s - b) := by
    rcases lt_tri (tail' w e k) (tail' w e (s - b)) with q | q | q
    · exact q
    · exact absurd q (tail_ne (by omega) (by omega) (by omega))
    · exact absurd q (hfirst _ (by omega) (by omega))
  have h2 : tail' w e k < tail' w e (k + b) := by
    rcases lt_tri (tail' w e k) (tail' w e (k + b)) with q | q | q
    · exact q
    · exact absurd q (tail_ne (by omega) (by omega) (by omega))
    · exact absurd q (hfirst _ (by omega) (by omega))
  rw [tail_skip b (by omega) (by omega) hbord, show s - b + b = s by omega] at h1
  exact lt_irr _ (lt_tr h2 (lt_tr h1 hlt))

theorem found_told {w e : List Nat} {r : Nat × Nat × Nat} (h : r ∈ found w e) : r ∈ told w := by
  unfold found at h
  simp only [List.mem_flatMap, List.mem_range] at h
  obtain ⟨k, hk, s, hs, hr⟩ := h
  obtain ⟨hks, hsl, hlt, hfirst⟩ := stops_first.mp hs
  unfold foundAt at hr
  split at hr
  · rename_i h2
    rw [List.mem_singleton] at hr
    subst hr
    obtain ⟨l1, l2, l3⟩ := lowOf_spec w (s - k) k
    obtain ⟨g1, g2, g3, g4⟩ := highOf_spec w (s - k) (w.length - s) s (by omega)
    generalize lowOf w (s - k) k = low at *
    generalize highOf w (s - k) s = high at *
    have hper : Per w low high (s - k) := by
      intro t ht hlt'
      by_cases q : t < k
      · exact l2 t ht q
      · have := g3 (t + (s - k)) (by omega) hlt'
        rw [show t + (s - k) - (s - k) = t by omega] at this
        exact this.symm
    refine told_iff.mpr ⟨by omega, by omega, g2, hper, fun q hq1 hq2 hq => ?_, l3, fun q => g4 ⟨q.1, q.2.symm⟩⟩
    refine stop_bare (b := s - k - q) hks hsl hlt hfirst (by omega) (by omega) fun t ht => ?_
    have := hq (k + t) (by omega) (by omega)
    rw [this]; congr 1; omega
  · simp at hr

/-! every run is found -/
section
variable (v : Nat → Nat) (p : Nat)
def win (a : Nat) : List Nat := (List.range p).map fun t => v (a + t)
theorem win_length (a : Nat) : (win v p a).length = p := by simp [win]
theorem seg_split (f : Nat → Nat) (a b : Nat) : (List.range (a + b)).map f = (List.range a).map f ++ (List.range b).map fun t => f (a + t) := by
  rw [List.range_add, List.map_append, List.map_map]
  rfl
theorem win_split {a b c : Nat} (h : b + c = p) : win v p a = (List.range b).map (fun t => v (a + t)) ++ (List.range c).map fun t => v (a + b + t) := by
  unfold win
  rw [← h, seg_split]
  simp only [Nat.add_assoc]
theorem win_least : ∀ n, 0 < n → ∃ k, k < n ∧ ∀ m, m < n → ¬ win v p m < win v p k
  | 0, h => absurd h (Nat.lt_irrefl _)
  | 1, _ => ⟨0, by omega, fun m hm => by rw [show m = 0 by omega]; exact lt_irr _⟩
  | n + 2, _ => by
    obtain ⟨k, hk, h⟩ := win_least (n + 1) (by omega)
    by_cases q : win v p (n + 1) < win v p k
    · refine ⟨n + 1, by omega, fun m hm hlt => ?_⟩
      by_cases e : m = n + 1
      · subst e; exact lt_irr _ hlt
      · exact h m (by omega) (lt_tr hlt q)
    · refine ⟨k, by omega, fun m hm => ?_⟩
      by_cases e : m = n + 1
      · subst e; exact q
      · exact h m (by omega)
end

theorem first_diff {f g : Nat → Nat} : ∀ (n : Nat), (∀ t, t < n → f t = g t) ∨ ∃ r, r < n ∧ (∀ t, t < r → f t = g t) ∧ f r ≠ g r
  | 0 => .inl fun _ h => absurd h (Nat.not_lt_zero _)
  | n + 1 => by
    rcases first_diff (f := f) (g := g) n with h | ⟨r, h1, h2, h3⟩
    · by_cases e : f n = g n
      · left
        intro t ht
        by_cases q : t = n
        · subst q; exact e
        · exact h t (by omega)
      · exact .inr ⟨n, by omega, h, e⟩
    · exact .inr ⟨r, by omega, h2, h3⟩

/-- the least turn of a word without a lesser period: what stands behind its start is greater, and so before the turn's end -/
theorem least_turn {v : Nat → Nat} {p : Nat} (hp : 0 < p) (hv : ∀ t, v (t + p) = v t) (hprim : ∀ d, 0 < d → d < p → ¬ ∀ t, v (t + d) = v t) :
    ∃ k, k < p ∧ ∀ d, 0 < d → d < p → ∃ r, r + d < p ∧ (∀ t, t < r → v (k + t) = v (k + d + t)) ∧ v (k + r) < v (k + d + r) := by
  obtain ⟨k, hk, hmin⟩ := win_least v p p hp
  have hvn : ∀ n t, v (t + p * n) = v t := by
    intro n
    induction n with
    | zero => intro t; rfl
    | succ n ih => intro t; rw [Nat.mul_succ, ← Nat.add_assoc, hv, ih]
  have hwin : ∀ a, win v p a = win v p (a % p) := by
    intro a
    unfold win
    congr 1
    funext t
    have := hvn (a / p) (a % p + t)
    rw [← this]
    congr 1
    have := Nat.mod_add_div a p
    omega
  have hmin' : ∀ a, ¬ win v p a < win v p k := fun a => by rw [hwin a]; exact hmin _ (Nat.mod_lt _ hp)
  refine ⟨k, hk, fun d hd hdp => ?_⟩
  rcases first_diff (f := fun t => v (k + t)) (g := fun t => v (k + d + t)) (p - d) with hall | ⟨r, hr, heq, hne⟩
  · exfalso
    -- s : p - d letters from k on; also from k + d on
    have e1 : win v p k = (List.range (p - d)).map (fun t => v (k + t)) ++ (List.range d).map fun t => v (k + (p - d) + t) := win_split v p (by omega)
    have e2 : win v p k = (List.range d).map (fun t => v (k + t)) ++ (List.range (p - d)).map fun t => v (k + d + t) := win_split v p (by omega)
    have e3 : win v p (k + d) = (List.range (p - d)).map (fun t => v (k + d + t)) ++ (List.range d).map fun t => v (k + d + (p - d) + t) := win_split v p (by omega)
    have e4 : win v p (k + (p - d)) = (List.range d).map (fun t => v (k + (p - d) + t)) ++ (List.range (p - d)).map fun t => v (k + (p - d) + d + t) := win_split v p (by omega)
    have es : ((List.range (p - d)).map fun t => v (k + d + t)) = (List.range (p - d)).map fun t => v (k + t) := by
      apply List.map_congr_left
      intro t ht
      exact (hall t (List.mem_range.mp ht)).symm
    have ex : ((List.range d).map fun t => v (k + d + (p - d) + t)) = (List.range d).map fun t => v (k + t) := by
      congr 1; funext t
      rw [show k + d + (p - d) + t = k + t + p by omega, hv]
    have es' : ((List.range (p - d)).map fun t => v (k + (p - d) + d + t)) = (List.range (p - d)).map fun t => v (k + t) := by
      congr 1; funext t
      rw [show k + (p - d) + d + t = k + t + p by omega, hv]
    rw [es, ex] at e3
    rw [es] at e2
    rw [es'] at e4
    have h1 := hmin' (k + d)
    rw [e3, e1, lt_pre] at h1
    have h2 := hmin' (k + (p - d))
    rw [e4, e2] at h2
    have h2' : ¬ ((List.range d).map fun t => v (k + (p - d) + t)) < (List.range d).map fun t => v (k + t) := fun q => h2 (lt_app _ _ (by simp) q)
    have exz : ((List.range d).map fun t => v (k + t)) = (List.range d).map fun t => v (k + (p - d) + t) := by
      rcases lt_tri ((List.range d).map fun t => v (k + t)) ((List.range d).map fun t => v (k + (p - d) + t)) with q | q | q
      · exact absurd q h1
      · exact q
      · exact absurd q h2'
    have hw : win v p (k + d) = win v p k := by rw [e3, e1, exz]
    refine hprim d hd hdp fun t => ?_
    -- any place is k + u, u < p, plus turns
    have hu : ∀ u, u < p → v (k + d + u) = v (k + u) := by
      intro u hu
      have := congrArg (fun l => l[u]?) hw
      simpa [win, hu] using this
    have ht := hu ((t + p * k - k) % p) (Nat.mod_lt _ hp)
    have key : ∀ c, v (k + c + (t + p * k - k) % p) = v (t + c) := by
      intro c
      have hk1 : k ≤ t + p * k := by
        have := Nat.mul_le_mul_right k hp
        omega
      rw [← hvn ((t + p * k - k) / p) (k + c + (t + p * k - k) % p), ← hvn k (t + c)]
      congr 1
      have := Nat.mod_add_div (t + p * k - k) p
      omega
    rw [key d] at ht
    have := key 0
    rw [Nat.add_zero, Nat.add_zero] at this
    rw [this] at ht
    exact ht
  · refine ⟨r, by omega, heq, ?_⟩
    rcases Nat.lt_or_ge (v (k + r)) (v (k + d + r)) with q | q
    · exact q
    · exfalso
      have hlt : v (k + d + r) < v (k + r) := by
        have hne' : v (k + r) ≠ v (k + d + r) := hne
        omega
      refine hmin' (k + d) ?_
      have e1 : win v p (k + d) = (List.range r).map (fun t => v (k + d + t)) ++ (List.range (p - r)).map fun t => v (k + d + r + t) := win_split v p (by omega)
      have e2 : win v p k = (List.range r).map (fun t => v (k + t)) ++ (List.range (p - r)).map fun t => v (k + r + t) := win_split v p (by omega)
      have es : ((List.range r).map fun t => v (k + d + t)) = (List.range r).map fun t => v (k + t) := by
        apply List.map_congr_left
        intro t ht
        exact (heq t (List.mem_range.mp ht)).symm
      rw [e1, e2, es, lt_pre]
      obtain ⟨n, hn⟩ : ∃ n, p - r = n + 1 := ⟨p - r - 1, by omega⟩
      rw [hn, List.range_succ_eq_map, List.map_cons, List.map_cons, lt_cons]
      left
      simpa using hlt

theorem run_found {w e : List Nat} {i j p : Nat} (R : Run w i j p) (hend : tail' w e j < tail' w e (j - p)) : (i, j, p) ∈ found w e := by
  have hp := R.pos; have h2 := R.two; have hl := R.le
  -- the endless word of the run
  let v : Nat → Nat := fun t => at' w (i + t % p)
  have hv : ∀ t, v (t + p) = v t := fun t => by show at' w (i + (t + p) % p) = _; rw [Nat.add_mod_right]
  have hrun : ∀ t, i + t < j → at' w (i + t) = v t := by
    intro t
    induction t using Nat.strongRecOn with
    | ind t ih =>
      intro hlt
      by_cases q : t < p
      · show _ = at' w (i + t % p); rw [Nat.mod_eq_of_lt q]
      · have := R.per (i + (t - p)) (by omega) (by omega)
        rw [show i + (t - p) + p = i + t by omega] at this
        rw [← this, ih (t - p) (by omega) (by omega), ← hv (t - p), show t - p + p = t by omega]
  have hprim : ∀ d, 0 < d → d < p → ¬ ∀ t, v (t + d) = v t := by
    intro d hd hdp h
    refine R.least d hd hdp fun t ht hlt => ?_
    have a := hrun (t - i) (by omega)
    have b := hrun (t - i + d) (by omega)
    rw [show i + (t - i) = t by omega] at a
    rw [show i + (t - i + d) = t + d by omega] at b
    rw [a, b, h]
  obtain ⟨k, hk, hturn⟩ := least_turn hp hv hprim
  have hper : ∀ t, i ≤ t → t + p < j → at' w t = at' w (t + p) := R.per
  have hstop : i + k + p ∈ (stops w e (i + k)).take 1 := by
    refine stops_first.mpr ⟨by omega, by omega, ?_, fun m h1 h3 => ?_⟩
    · rw [tail_skip (j - (i + k + p)) (by omega) (by omega) fun t ht => by
        have := hper (i + k + t) (by omega) (by omega)
        rw [this]; congr 1; omega]
      rw [show i + k + p + (j - (i + k + p)) = j by omega, show i + k + (j - (i + k + p)) = j - p by omega]
      exact hend
    · obtain ⟨r, hr1, hr2, hr3⟩ := hturn (m - (i + k)) (by omega) (by omega)
      have hval : ∀ t, i + k + t < j → at' w (i + k + t) = v (k + t) := fun t ht => by rw [Nat.add_assoc]; exact hrun (k + t) (by omega)
      have hval2 : ∀ t, m + t < j → at' w (m + t) = v (k + (m - (i + k)) + t) := fun t ht => by
        have := hrun (k + (m - (i + k)) + t) (by omega)
        rw [← this]; congr 1; omega
      have : tail' w e (i + k) < tail' w e m := by
        refine tail_diff (r := r) (by omega) (by omega) (fun t ht => ?_) ?_
        · rw [hval t (by omega), hval2 t (by omega)]; exact hr2 t ht
        · rw [hval r (by omega), hval2 r (by omega)]; exact hr3
      exact fun q => lt_irr _ (lt_tr this q)
  unfold found
  simp only [List.mem_flatMap, List.mem_range]
  refine ⟨i + k, by omega, i + k + p, hstop, ?_⟩
  unfold foundAt
  have estep : i + k + p - (i + k) = p := by omega
  rw [estep]
  have elow : lowOf w p (i + k) = i := by
    rw [lowOf_down w p i (i + k) (by omega) fun t h1 h3 => hper t h1 (by omega)]
    exact lowOf_stay R.left
  have ehigh : highOf w p (i + k + p) = j := by
    rw [highOf_up w p hl (by omega) (j := j) fun t h1 h3 => ?_]
    · exact highOf_stay fun q => R.right ⟨q.1, q.2.symm⟩
    · have := hper (t - p) (by omega) (by omega)
      rw [show t - p + p = t by omega] at this
      exact this.symm
  rw [elow, ehigh, if_pos (by omega)]
  simp

/-! a word that is less than all its other turns has no border -/
def firstW (x : List Nat) : Bool := (List.range' 1 (x.length - 1)).all fun k => !decide (¬ x < x.drop k ++ x.take k)
theorem firstW_bare {x : List Nat} (h : ∀ k, 0 < k → k < x.length → x < x.drop k ++ x.take k) {b : Nat} (hb : 0 < b) (hbl : b < x.length) : x.take b ≠ x.drop (x.length - b) := by
  intro e
  have h1 := h (x.length - b) (by omega) (by omega)
  have h2 := h b hb hbl
  have ex1 : x = x.take b ++ x.drop b := (List.take_append_drop b x).symm
  have ex2 : x = x.take (x.length - b) ++ x.take b := by
    have := (List.take_append_drop (x.length - b) x).symm
    rw [← e] at this
    exact this
  rw [← e] at h1
  have h1' : x.take b ++ x.drop b < x.take b ++ x.take (x.length - b) := by rw [← ex1]; exact h1
  rw [lt_pre] at h1'
  have h3 := lt_app (x.take b) (x.take b) (by simp) h1'
  rw [← ex2] at h3
  exact lt_irr _ (lt_tr h2 h3)

/-- the table's rest behind a turn's first letters -/
theorem rest_told {x : List Nat} {p t : Nat} (hp : 0 < p) (hper : Per x 0 x.length p) (hbare : ∀ b, 0 < b → b < p → ¬ isB x p b) (h1 : p ≤ t + 1) (h2 : t < x.length) : lb x (t + 1) = t + 1 - p := by
  refine lb_unique (Nat.succ_pos _) ?_ fun c hc => ?_
  · have := (isB_iff_per (w := x) (i := 0) (L := t + 1) hp h1).mpr (hper.mono (Nat.le_refl _) (by omega))
    simpa using this
  · rcases Nat.lt_or_ge (t + 1 - p) c with hlt | hge
    · exfalso
      have hc1 := hc.1
      -- a period q < p, so a border of the first p letters
      refine hbare (p - (t + 1 - c)) (by omega) (by omega) ⟨by omega, fun u hu => ?_⟩
      have := hc.2 u (by omega)
      rw [this]; congr 1; omega
    · exact hge
end Mine
end
noncomputable section
/-! the last plain law -/
namespace Mine
theorem at_map {f : Nat → Nat} {w : List Nat} {t : Nat} (h : t < w.length) : at' (w.map f) t = f (at' w t) := by
  simp [at', List.getD, h]
theorem at_mem {w : List Nat} {t : Nat} (h : t < w.length) : at' w t ∈ w := by
  have : at' w t = w[t] := by simp [at', List.getD, h]
  rw [this]; exact List.getElem_mem h
def InjOn (f : Nat → Nat) (w : List Nat) : Prop := ∀ a ∈ w, ∀ b ∈ w, f a = f b → a = b
theorem InjOn.drop {f : Nat → Nat} {w : List Nat} (h : InjOn f w) (i : Nat) : InjOn f (w.drop i) := fun a ha b hb => h a (List.mem_of_mem_drop ha) b (List.mem_of_mem_drop hb)
theorem at_eq {f : Nat → Nat} {w : List Nat} (hf : InjOn f w) {s t : Nat} (hs : s < w.length) (ht : t < w.length) : at' (w.map f) s = at' (w.map f) t ↔ at' w s = at' w t := by
  rw [at_map hs, at_map ht]
  exact ⟨hf _ (at_mem hs) _ (at_mem ht), fun e => by rw [e]⟩
theorem isB_map {f : Nat → Nat} {w : List Nat} (hf : InjOn f w) {L b : Nat} (hL : L ≤ w.length) : isB (w.map f) L b ↔ isB w L b := by
  unfold isB
  constructor
  · rintro ⟨h1, h2⟩
    exact ⟨h1, fun t ht => (at_eq hf (by omega) (by omega)).mp (h2 t ht)⟩
  · rintro ⟨h1, h2⟩
    exact ⟨h1, fun t ht => (at_eq hf (by omega) (by omega)).mpr (h2 t ht)⟩
theorem lb_map {f : Nat → Nat} {w : List Nat} (hf : InjOn f w) {L : Nat} (h0 : 0 < L) (hL : L ≤ w.length) : lb (w.map f) L = lb w L :=
  lb_unique h0 ((isB_map hf hL).mpr (lb_isB h0)) fun c hc => lb_max h0 ((isB_map hf hL).mp hc)
theorem lp_map {f : Nat → Nat} {w : List Nat} (hf : InjOn f w) {i L : Nat} (h0 : 0 < L) (hL : i + L ≤ w.length) : lp (w.map f) i L = lp w i L := by
  unfold lp
  rw [← List.map_drop, lb_map (hf.drop i) h0 (by rw [List.length_drop]; omega)]
theorem toldIf_map {f : Nat → Nat} {w : List Nat} (hf : InjOn f w) {low size : Nat} (h0 : 0 < size) (hs : low + size ≤ w.length) : toldIf (w.map f) low size = toldIf w low size := by
  unfold toldIf
  rw [lp_map hf h0 hs, List.length_map]
  have hp := lp_pos (w := w) (i := low) h0
  have hle := lp_le (w := w) (i := low) (L := size)
  congr 1
  · congr 1
    congr 1
    by_cases hl : 0 < low
    · simp only [hl, decide_true, Bool.true_and]
      rw [Bool.eq_iff_iff, beq_iff_eq, beq_iff_eq]
      exact at_eq hf (by omega) (by omega)
    · simp [hl]
  · congr 1
    by_cases hl : low + size < w.length
    · simp only [hl, decide_true, Bool.true_and]
      rw [lp_map hf (by omega) (by omega)]
    · simp [hl]
theorem told_map {f : Nat → Nat} {w : List Nat} (hf : InjOn f w) : told (w.map f) = told w := by
  unfold told
  rw [List.length_map]
  have : ∀ low ∈ List.range w.length, ((List.range' 2 (w.length - low - 1)).filter (toldIf (w.map f) low)).map (fun size => (low, low + size, lp (w.map f) low size)) = ((List.range' 2 (w.length - low - 1)).filter (toldIf w low)).map (fun size => (low, low + size, lp w low size)) := by
    intro low hlow
    simp at hlow
    have hfil : (List.range' 2 (w.length - low - 1)).filter (toldIf (w.map f) low) = (List.range' 2 (w.length - low - 1)).filter (toldIf w low) := by
      refine List.filter_congr fun size hs => ?_
      simp at hs
      exact toldIf_map hf (by omega) (by omega)
    rw [hfil]
    refine List.map_congr_left fun size hs => ?_
    have hs' := (List.mem_filter.mp hs).1
    simp at hs'
    rw [lp_map hf (by omega) (by omega)]
  rw [List.flatMap_def, List.flatMap_def, List.map_congr_left this]

/-- the two faces of a word: one upwards, one downwards -/
structure Faces (L : List Nat) (f g : Nat → Nat) (top : Nat) : Prop where
  up : ∀ a ∈ L, ∀ b ∈ L, a < b → f a < f b
  down : ∀ a ∈ L, ∀ b ∈ L, a < b → g b < g a
  top : ∀ a ∈ L, g a < top
theorem Faces.fi {L : List Nat} {f g : Nat → Nat} {top : Nat} (F : Faces L f g top) : InjOn f L := fun a ha b hb e => by
  rcases Nat.lt_trichotomy a b with h | h | h
  · exact absurd (F.up a ha b hb h) (by omega)
  · exact h
  · exact absurd (F.up b hb a ha h) (by omega)
theorem Faces.gi {L : List Nat} {f g : Nat → Nat} {top : Nat} (F : Faces L f g top) : InjOn g L := fun a ha b hb e => by
  rcases Nat.lt_trichotomy a b with h | h | h
  · exact absurd (F.down a ha b hb h) (by omega)
  · exact h
  · exact absurd (F.down b hb a ha h) (by omega)

theorem found_in {L : List Nat} {f g : Nat → Nat} {top : Nat} (F : Faces L f g top) {r : Nat × Nat × Nat} (h : r ∈ found (L.map f) [] ++ found (L.map g) [top]) : r ∈ told (L.map f) := by
  rcases List.mem_append.mp h with h | h
  · exact found_told h
  · have := found_told h
    rw [told_map F.gi] at this
    rw [told_map F.fi]
    exact this

theorem tail_head {w e : List Nat} {a b : Nat} (ha : a < w.length) (hb : b < w.length) (h : at' w a < at' w b) : tail' w e a < tail' w e b := by
  rw [tail_cons ha, tail_cons hb, lt_cons]
  exact .inl h
/-- which face -/
def upB (L : List Nat) (f : Nat → Nat) (j p : Nat) : Bool := decide (at' (L.map f ++ [32]) j < at' (L.map f) (j - p))
theorem run_in {L : List Nat} {f g : Nat → Nat} {top : Nat} (F : Faces L f g top) {i j p : Nat} (h : (i, j, p) ∈ told (L.map f)) :
    (i, j, p) ∈ found (L.map f) [] ++ found (L.map g) [top] := by
  have R := told_iff.mp h
  have R' : Run (L.map g) i j p := told_iff.mp (by rw [told_map F.gi, ← told_map F.fi]; exact h)
  have hp := R.pos; have h2 := R.two; have hl := R.le
  rw [List.length_map] at hl
  rcases Nat.lt_or_ge j L.length with hj | hj
  · have hne : at' (L.map f) (j - p) ≠ at' (L.map f) j := fun e => R.right ⟨by rw [List.length_map]; exact hj, e⟩
    rcases Nat.lt_or_ge (at' (L.map f) j) (at' (L.map f) (j - p)) with hlt | hge
    · exact List.mem_append.mpr (.inl (run_found R (tail_head (by rw [List.length_map]; exact hj) (by rw [List.length_map]; omega) hlt)))
    · refine List.mem_append.mpr (.inr (run_found R' (tail_head (by rw [List.length_map]; exact hj) (by rw [List.length_map]; omega) ?_)))
      rw [at_map hj, at_map (by omega)] at hge hne
      rw [at_map hj, at_map (by omega)]
      have hm1 := at_mem hj
      have hm2 := at_mem (w := L) (t := j - p) (by omega)
      rcases Nat.lt_trichotomy (at' L (j - p)) (at' L j) with h | h | h
      · exact F.down _ hm2 _ hm1 h
      · rw [h] at hne; exact absurd rfl hne
      · have := F.up _ hm1 _ hm2 h; omega
  · have hjl : j = L.length := by omega
    refine List.mem_append.mpr (.inl (run_found R ?_))
    have e1 : tail' (L.map f) [] j = [] := by unfold tail'; rw [List.drop_eq_nil_of_le (by rw [List.length_map]; exact hj)]; rfl
    rw [e1, tail_cons (by rw [List.length_map]; omega)]
    simp

def rot (x : List Nat) (k : Nat) : List Nat := x.drop k ++ x.take k
def firstB (x : List Nat) : Bool := decide ((List.range' 1 (x.length - 1)).filter (fun k => !decide (x < rot x k)) = [])
theorem rests {w : List Nat} {i j p k : Nat} (R : Run w i j p) (hik : i ≤ k) (hkj : k + p ≤ j) (hf : firstB ((w.drop k).take p) = true) : (tbl ((w.drop k).take (j - k))).drop (p - 1) = List.range (j - k - p + 1) := by
  have hp := R.pos; have hl := R.le
  generalize hx : (w.drop k).take (j - k) = x
  have hxl : x.length = j - k := by rw [← hx, List.length_take, List.length_drop]; omega
  have hxt : ∀ t, t < j - k → at' x t = at' w (k + t) := by
    intro t ht
    rw [← hx]
    simp [at', List.getD, ht, List.getElem?_drop]
  have hper : Per x 0 x.length p := by
    intro t _ ht
    rw [hxl] at ht
    rw [hxt t (by omega), hxt (t + p) (by omega)]
    have := R.per (k + t) (by omega) (by omega)
    rw [this]
    congr 1
    omega
  have hy : (w.drop k).take p = x.take p := by rw [← hx, List.take_take, Nat.min_eq_left (by omega)]
  rw [hy] at hf
  have hyl : (x.take p).length = p := by rw [List.length_take]; omega
  have hfirst : ∀ m, 0 < m → m < (x.take p).length → x.take p < (x.take p).drop m ++ (x.take p).take m := by
    intro m hm1 hm2
    unfold firstB at hf
    have h0 := of_decide_eq_true hf
    rw [List.filter_eq_nil_iff] at h0
    have h3 := h0 m (by simp; omega)
    by_cases hc : x.take p < rot (x.take p) m
    · exact hc
    · exact absurd (by rw [decide_eq_false hc]; rfl) h3
  have hbare : ∀ b, 0 < b → b < p → ¬ isB x p b := by
    intro b hb hbp hB
    refine firstW_bare hfirst hb (by rw [hyl]; exact hbp) ?_
    apply List.ext_getElem?
    intro t
    rcases Nat.lt_or_ge t b with ht | ht
    · have h3 := hB.2 t ht
      rw [List.getElem?_take, if_pos ht, List.getElem?_drop, hyl, List.getElem?_take, if_pos (by omega), List.getElem?_take, if_pos (by omega)]
      rw [List.getElem?_eq_getElem (by omega : t < x.length), List.getElem?_eq_getElem (by omega : p - b + t < x.length)]
      have e1 : at' x t = x[t] := by simp [at', List.getD, (by omega : t < x.length)]
      have e2 : at' x (p - b + t) = x[p - b + t] := by simp [at', List.getD, (by omega : p - b + t < x.length)]
      rw [← e1, ← e2, h3]
    · rw [List.getElem?_eq_none (by rw [List.length_take]; omega), List.getElem?_eq_none (by rw [List.length_drop, hyl]; omega)]
  apply List.ext_getElem?
  intro t
  rw [List.getElem?_drop]
  rcases Nat.lt_or_ge t (j - k - p + 1) with ht | ht
  · rw [tbl_at (by omega), rest_told hp hper hbare (by omega) (by omega), List.getElem?_range ht]
    congr 1
    omega
  · rw [List.getElem?_eq_none (by rw [tbl_length]; omega), List.getElem?_eq_none (by rw [List.length_range]; omega)]
end Mine
end
noncomputable section
open PySem PySem.W PyProof.Rows
set_option Elab.async false
namespace Mine

/-- run a tree outright, the calls by «rec» -/
noncomputable def evT (prog : Program) (w : World) (rec : Ctx → Pos → Shared → Option (Result × Shared)) (Γ : Ctx) {α : Type} : Sem α → Pos → Shared → Option (Except Value α × Pos × Shared)
  | .pure a, p, s => some (.ok a, p, s)
  | .raise e, p, s => some (.error e, p, s)
  | .rule _ k, p, s => evT prog w rec Γ (k ()) p s
  | .at p' k, _, s => evT prog w rec Γ (k ()) p' s
  | .load a _ k, p, s => match s.heap.get? a with
    | some o => evT prog w rec Γ (k o) p s
    | none => none
  | .update a _ f k, p, s => match (s.heap.get? a).isSome with
    | true => evT prog w rec Γ (k ()) p { s with heap := s.heap.update a f }
    | false => none
  | .loadIfAlive a k, p, s => evT prog w rec Γ (k (s.heap.get? a)) p s
  | .point _ k, p, s => evT prog w rec Γ (k ()) p s
  | .alloc o k, p, s => evT prog w rec Γ (k s.heap.objs.size) p { s with heap := s.heap.push o }
  | .fresh k, p, s => evT prog w rec Γ (k s.toks) p { s with toks := s.toks + 1 }
  | .ask k, p, s => evT prog w rec Γ (k ⟨prog, w.params⟩) p s
  | .handled own k, p, s => evT prog w rec Γ (k (if own then Γ.own else Γ.handled)) p s
  | .stack k, p, s => evT prog w rec Γ (k ((Γ.code, p) :: Γ.below)) p s
  | .call c h _ _ k, p, s => match rec (Γ.enter c h p) p s with
    | some (r, s') => evT prog w rec Γ (k r) p s'
    | none => none
  | _, _, _ => none

noncomputable def evC (den : Code → Sem Fin) (prog : Program) (w : World) : Nat → Ctx → Pos → Shared → Option (Result × Shared)
  | 0, _, _, _ => none
  | n + 1, Γ, p, s => match evT prog w (evC den prog w n) Γ (den Γ.code) p s with
    | some (.ok (.done f), _, s') => some (.ok f, s')
    | some (.ok (.again c), p', s') => match c.quiet with
      | true => evC den prog w n (Γ.goto c) p' s'
      | false => none
    | some (.error e, _, s') => some (.error e, s')
    | none => none

theorem evT_sound {prog : Program} {w : World} {rec : Ctx → Pos → Shared → Option (Result × Shared)} {den : Code → Sem Fin}
    (hrec : ∀ Γ p s r s', rec Γ p s = some (r, s') → Returns ⟨den, prog, w⟩ Γ p s r s') {Γ : Ctx} {α : Type} (t : Sem α) :
    ∀ {p s x p' s'} {Q : α → Pos → Shared → Prop} {E : Value → Pos → Shared → Prop}, evT prog w rec Γ t p s = some (x, p', s') →
      (match x with | .ok a => Q a p' s' | .error e => E e p' s') → Sem.wp ⟨den, prog, w⟩ Γ t Q E p s := by
  induction t with
  | pure a => intro p s x p' s' Q E h hq; simp only [evT, Option.some.injEq, Prod.mk.injEq] at h; obtain ⟨rfl, rfl, rfl⟩ := h; exact hq
  | raise e => intro p s x p' s' Q E h hq; simp only [evT, Option.some.injEq, Prod.mk.injEq] at h; obtain ⟨rfl, rfl, rfl⟩ := h; exact hq
  | unsupported | finish | yield | fork | await | register | choose | os | genState | newGen | resume | thread => intro p s x p' s' Q E h hq; simp only [evT] at h; cases h
  | rule _ k ih | «at» _ k ih | alloc _ k ih | loadIfAlive _ k ih | point _ k ih | fresh k ih | ask k ih | handled _ k ih | stack k ih =>
    intro p s x p' s' Q E h hq; exact ih _ h hq
  | load a _ k ih =>
    intro p s x p' s' Q E h hq
    simp only [evT] at h
    cases ho : s.heap.get? a with
    | none => rw [ho] at h; cases h
    | some o => rw [ho] at h; exact ⟨o, ho, ih _ h hq⟩
  | update a _ f k ih =>
    intro p s x p' s' Q E h hq
    simp only [evT] at h
    cases ho : (s.heap.get? a).isSome with
    | false => rw [ho] at h; cases h
    | true => rw [ho] at h; exact ⟨ho, ih _ h hq⟩
  | call c hd g l k ih =>
    intro p s x p' s' Q E h hq
    simp only [evT] at h
    cases hr : rec (Γ.enter c hd p) p s with
    | none => rw [hr] at h; cases h
    | some y =>
      obtain ⟨r, s₁⟩ := y
      rw [hr] at h
      exact ⟨r, s₁, hrec _ _ _ _ _ hr, ih _ h hq⟩

theorem evC_sound {den : Code → Sem Fin} {prog : Program} {w : World} : ∀ (n : Nat) (Γ : Ctx) (p : Pos) (s : Shared) (r : Result) (s' : Shared),
    evC den prog w n Γ p s = some (r, s') → Returns ⟨den, prog, w⟩ Γ p s r s'
  | 0, _, _, _, _, _, h => by simp [evC] at h
  | n + 1, Γ, p, s, r, s', h => by
    have key : wpCode ⟨den, prog, w⟩ Γ (fun r₁ s₁ => r₁ = r ∧ s₁ = s') p s := by
      rw [wpCode_iff_wp]
      simp only [evC] at h
      cases he : evT prog w (evC den prog w n) Γ (den Γ.code) p s with
      | none => rw [he] at h; cases h
      | some y =>
        obtain ⟨x, p', s₁⟩ := y
        rw [he] at h
        refine evT_sound (evC_sound n) _ he ?_
        cases x with
        | error e => simp only [Option.some.injEq, Prod.mk.injEq] at h; exact ⟨h.1, h.2⟩
        | ok fin =>
          cases fin with
          | done f => simp only [Option.some.injEq, Prod.mk.injEq] at h; exact ⟨h.1, h.2⟩
          | again c =>
            dsimp only at h
            cases hq : c.quiet with
            | false => rw [hq] at h; cases h
            | true => rw [hq] at h; exact ⟨hq, r, s', evC_sound n _ _ _ _ _ h, rfl, rfl⟩
    obtain ⟨r₁, s₁, hr, rfl, rfl⟩ := key
    exact hr

/-- the library's quick twins of the machine's words -/
noncomputable abbrev denF : Code → Sem Fin := PySem.W.Fast.tw11892475500146522536 PySem.W.Fast.tw14364793385576792824
theorem denF_eq : denote table = denF := by
  show _ = PySem.W.Fast.tw11892475500146522536 PySem.W.Fast.tw14364793385576792824
  rw [table_eq_tree, ← PySem.W.Fast.te11892475500146522536, ← PySem.W.Fast.te14364793385576792824]
end Mine
end
noncomputable section
open PySem PySem.W PyProof.Rows
set_option Elab.async false
set_option maxRecDepth 100000
namespace Mine
noncomputable section
abbrev pw : Program := PySem.Challenge.pw_rl0074_01
@[irreducible] def stN (i : Nat) : Stmt := (pw.main.body[i]?).getD (.Pass default)
def fnArgs (i : Nat) : Arguments := match stN i with | .FunctionDef _ a .. => a | _ => ⟨[], [], none, [], [], none, []⟩
def fnBody (i : Nat) : List Stmt := match stN i with | .FunctionDef _ _ b .. => b | _ => []
def fnScope (i : Nat) : Scope := match stN i with | .FunctionDef _ _ _ _ _ _ s .. => s | _ => pw.main.scope
@[irreducible] def topEnv : Env := { scope := pw.main.scope, locals := mainNs, globals := mainNs, cells := [], code := .ref 13, frame := some 14 }

def kInt : Option PySem.Expr → Int
  | some (.Constant (.int k) _ _) => k
  | _ => 0
def kStr : PySem.Expr → Str
  | .Constant (.str x) _ _ => x
  | _ => Str.empty
@[irreducible] def b3 : List (Int × Str) := match stN 5 with
  | .Assign _ (.Dict ks vs _) _ => (ks.map kInt).zip (vs.map kStr)
  | _ => []
/-- the entries of a run of pairs, the tokens from t on, d a pair -/
noncomputable def entsOf (d : Nat) : Nat → List (Int × Str) → List DictEntry
  | _, [] => []
  | t, (k, v) :: r => ⟨hashInt k, .int k t, .str v (t + 1)⟩ :: entsOf d (t + d) r
def dictO (es : List DictEntry) : Obj := { cls := .type "dict", data := .dict es.toArray es.length }
/-- the sub-dicts, seventeen pairs each -/
noncomputable def subs : Nat → Nat → List (Int × Str) → List (List DictEntry)
  | 0, _, _ => []
  | n + 1, t, l => if l.length ≤ 15 then [entsOf 2 t l] else entsOf 3 t (l.take 17) :: subs n (t + 51) (l.drop 17)
def b3subs : List (List DictEntry) := subs 40 268 b3
def b3all : List DictEntry := b3subs.flatten

def o11_a (_ : Params) : Obj := { cls := Value.type "tuple", data := Data.seq #[] }
def o12_a (_ : Params) : Obj := { cls := Value.none, data := Data.fields #[] }
def o13_a (_ : Params) : Obj := { cls := Value.type "code", data := Data.fields #[Value.str (Str.ofString "<module>") 182, Value.str (Str.ofString "<module>") 183, Value.str (Str.ofString "/claim/cut.py") 184, Value.int 1 0, Value.int 0 0, Value.int 0 0, Value.int 0 0, Value.int 0 0, Value.ref 11, Value.bool false, Value.int 181 0, Value.ref 12, Value.none, Value.none, Value.none, Value.none, Value.int 185 0, Value.int 1 0, Value.str (Str.ofString "/claim/cut.py") 186] }
def o14_a (_ : Params) : Obj := { cls := Value.type "frame", slots := #[some (Value.ref 13), some (Value.ref 3), some (Value.ref 3), none, some (Value.str (Str.ofString "__main__") 164), none, some (Value.ref 0)] }
def H_a (P : Params) : Heap := ⟨#[boot_o_0 P, boot_o_1 P, boot_o_2 P, boot_o_3 P, boot_o_4 P, boot_o_5 P, boot_o_6 P, boot_o_7 P, boot_o_8 P, boot_o_9 P, boot_o_10 P, o11_a P, o12_a P, o13_a P, o14_a P], {}⟩
def S_a (P : Params) (os : OsState) : Shared := ⟨H_a P, #[], {}, 187, os⟩
def H_b (P : Params) : Heap := ⟨#[boot_o_0 P, boot_o_1 P, boot_o_2 P, boot_o_3 P, boot_o_4 P, boot_o_5 P, boot_o_6 P, boot_o_7 P, boot_o_8 P, boot_o_9 P, boot_o_10 P, o11_a P, o12_a P, o13_a P, o14_a P], {}⟩
def S_b (P : Params) (os : OsState) : Shared := ⟨H_b P, #[], {}, 187, os⟩
def o3_0 (P : Params) : Obj := { cls := Value.type "dict", data := Data.dict #[{ hash := PyData.keyHash P (Str.ofString "__name__"), key := Value.str (Str.ofString "__name__") 165, val := Value.str (Str.ofString "cpy313.re._compiler") 187 }, { hash := PyData.keyHash P (Str.ofString "__doc__"), key := Value.str (Str.ofString "__doc__") 166, val := Value.none }, { hash := PyData.keyHash P (Str.ofString "__package__"), key := Value.str (Str.ofString "__package__") 167, val := Value.none }, { hash := PyData.keyHash P (Str.ofString "__loader__"), key := Value.str (Str.ofString "__loader__") 168, val := Value.builtin "__main__.__loader__#opaque" }, { hash := PyData.keyHash P (Str.ofString "__spec__"), key := Value.str (Str.ofString "__spec__") 169, val := Value.none }, { hash := PyData.keyHash P (Str.ofString "__annotations__"), key := Value.str (Str.ofString "__annotations__") 170, val := Value.ref 6 }, { hash := PyData.keyHash P (Str.ofString "__builtins__"), key := Value.str (Str.ofString "__builtins__") 171, val := Value.ref 4 }, { hash := PyData.keyHash P (Str.ofString "__file__"), key := Value.str (Str.ofString "__file__") 173, val := Value.str (Str.ofString "/claim/cut.py") 172 }, { hash := PyData.keyHash P (Str.ofString "__cached__"), key := Value.str (Str.ofString "__cached__") 174, val := Value.none }] 9 }
def H_0 (P : Params) : Heap := ⟨#[boot_o_0 P, boot_o_1 P, boot_o_2 P, o3_0 P, boot_o_4 P, boot_o_5 P, boot_o_6 P, boot_o_7 P, boot_o_8 P, boot_o_9 P, boot_o_10 P, o11_a P, o12_a P, o13_a P, o14_a P], {}⟩
def S_0 (P : Params) (os : OsState) : Shared := ⟨H_0 P, #[], {}, 189, os⟩
def o3_1 (P : Params) : Obj := { cls := Value.type "dict", data := Data.dict #[{ hash := PyData.keyHash P (Str.ofString "__name__"), key := Value.str (Str.ofString "__name__") 165, val := Value.str (Str.ofString "cpy313.re._compiler") 187 }, { hash := PyData.keyHash P (Str.ofString "__doc__"), key := Value.str (Str.ofString "__doc__") 166, val := Value.none }, { hash := PyData.keyHash P (Str.ofString "__package__"), key := Value.str (Str.ofString "__package__") 167, val := Value.none }, { hash := PyData.keyHash P (Str.ofString "__loader__"), key := Value.str (Str.ofString "__loader__") 168, val := Value.builtin "__main__.__loader__#opaque" }, { hash := PyData.keyHash P (Str.ofString "__spec__"), key := Value.str (Str.ofString "__spec__") 169, val := Value.none }, { hash := PyData.keyHash P (Str.ofString "__annotations__"), key := Value.str (Str.ofString "__annotations__") 170, val := Value.ref 6 }, { hash := PyData.keyHash P (Str.ofString "__builtins__"), key := Value.str (Str.ofString "__builtins__") 171, val := Value.ref 4 }, { hash := PyData.keyHash P (Str.ofString "__file__"), key := Value.str (Str.ofString "__file__") 173, val := Value.str (Str.ofString "/claim/cut.py") 172 }, { hash := PyData.keyHash P (Str.ofString "__cached__"), key := Value.str (Str.ofString "__cached__") 174, val := Value.none }, { hash := PyData.keyHash P (Str.ofString "_generate_overlap_table"), key := Value.str (Str.ofString "_generate_overlap_table") 198, val := Value.ref 21 }] 10 }
def o12_1 (_ : Params) : Obj := { cls := Value.none, data := Data.fields #[Value.int 2 0, Value.int 0 0, Value.ref 20] }
def o15_1 (_ : Params) : Obj := { cls := Value.type "tuple", data := Data.seq #[] }
def o16_1 (_ : Params) : Obj := { cls := Value.none, data := Data.fields #[] }
def o17_1 (_ : Params) : Obj := { cls := Value.type "tuple", data := Data.seq #[Value.str (Str.ofString "prefix") 192, Value.str (Str.ofString "table") 193, Value.str (Str.ofString "i") 194, Value.str (Str.ofString "idx") 195] }
def o18_1 (_ : Params) : Obj := { cls := Value.type "tuple", data := Data.seq #[] }
def o19_1 (_ : Params) : Obj := ⟨Value.none, none, .func { name := Str.ofString "_generate_overlap_table", qualname := Str.ofString "_generate_overlap_table", params := fnArgs 1, body := .stmts (fnBody 1), scope := fnScope 1, globals := 0, closure := [], defaults := Value.none, kwdefaults := Value.none, doc := Value.none, pyModule := Value.none, annotations := none, code := Value.none, closureTuple := Value.none, builtins := 0 }, #[]⟩
def o20_1 (_ : Params) : Obj := { cls := Value.type "code", data := Data.fields #[Value.str (Str.ofString "_generate_overlap_table") 189, Value.str (Str.ofString "_generate_overlap_table") 190, Value.str (Str.ofString "/claim/cut.py") 191, Value.int 2 0, Value.int 1 0, Value.int 0 0, Value.int 0 0, Value.int 3 0, Value.ref 15, Value.bool true, Value.int 181 0, Value.ref 16, Value.none, Value.ref 17, Value.ref 18, Value.ref 19, Value.int 196 0, Value.int 2 0, Value.str (Str.ofString "/claim/cut.py") 197] }
def o21_1 (_ : Params) : Obj := ⟨Value.type "function", none, .func { name := Str.ofString "_generate_overlap_table", qualname := Str.ofString "_generate_overlap_table", params := fnArgs 1, body := .stmts (fnBody 1), scope := fnScope 1, globals := 3, closure := [], defaults := Value.none, kwdefaults := Value.none, doc := Value.none, pyModule := Value.str (Str.ofString "cpy313.re._compiler") 187, annotations := none, code := Value.ref 20, closureTuple := Value.none, builtins := 0 }, #[]⟩
def H_1 (P : Params) : Heap := ⟨#[boot_o_0 P, boot_o_1 P, boot_o_2 P, o3_1 P, boot_o_4 P, boot_o_5 P, boot_o_6 P, boot_o_7 P, boot_o_8 P, boot_o_9 P, boot_o_10 P, o11_a P, o12_1 P, o13_a P, o14_a P, o15_1 P, o16_1 P, o17_1 P, o18_1 P, o19_1 P, o20_1 P, o21_1 P], {}⟩
def S_1 (P : Params) (os : OsState) : Shared := ⟨H_1 P, #[], {}, 199, os⟩
def o3_2 (P : Params) : Obj := { cls := Value.type "dict", data := Data.dict #[{ hash := PyData.keyHash P (Str.ofString "__name__"), key := Value.str (Str.ofString "__name__") 165, val := Value.str (Str.ofString "cpy313.stringprep") 199 }, { hash := PyData.keyHash P (Str.ofString "__doc__"), key := Value.str (Str.ofString "__doc__") 166, val := Value.none }, { hash := PyData.keyHash P (Str.ofString "__package__"), key := Value.str (Str.ofString "__package__") 167, val := Value.none }, { hash := PyData.keyHash P (Str.ofString "__loader__"), key := Value.str (Str.ofString "__loader__") 168, val := Value.builtin "__main__.__loader__#opaque" }, { hash := PyData.keyHash P (Str.ofString "__spec__"), key := Value.str (Str.ofString "__spec__") 169, val := Value.none }, { hash := PyData.keyHash P (Str.ofString "__annotations__"), key := Value.str (Str.ofString "__annotations__") 170, val := Value.ref 6 }, { hash := PyData.keyHash P (Str.ofString "__builtins__"), key := Value.str (Str.ofString "__builtins__") 171, val := Value.ref 4 }, { hash := PyData.keyHash P (Str.ofString "__file__"), key := Value.str (Str.ofString "__file__") 173, val := Value.str (Str.ofString "/claim/cut.py") 172 }, { hash := PyData.keyHash P (Str.ofString "__cached__"), key := Value.str (Str.ofString "__cached__") 174, val := Value.none }, { hash := PyData.keyHash P (Str.ofString "_generate_overlap_table"), key := Value.str (Str.ofString "_generate_overlap_table") 198, val := Value.ref 21 }] 10 }
def H_2 (P : Params) : Heap := ⟨#[boot_o_0 P, boot_o_1 P, boot_o_2 P, o3_2 P, boot_o_4 P, boot_o_5 P, boot_o_6 P, boot_o_7 P, boot_o_8 P, boot_o_9 P, boot_o_10 P, o11_a P, o12_1 P, o13_a P, o14_a P, o15_1 P, o16_1 P, o17_1 P, o18_1 P, o19_1 P, o20_1 P, o21_1 P], {}⟩
def S_2 (P : Params) (os : OsState) : Shared := ⟨H_2 P, #[], {}, 201, os⟩
def o3_3 (P : Params) : Obj := { cls := Value.type "dict", data := Data.dict #[{ hash := PyData.keyHash P (Str.ofString "__name__"), key := Value.str (Str.ofString "__name__") 165, val := Value.str (Str.ofString "cpy313.stringprep") 199 }, { hash := PyData.keyHash P (Str.ofString "__doc__"), key := Value.str (Str.ofString "__doc__") 166, val := Value.none }, { hash := PyData.keyHash P (Str.ofString "__package__"), key := Value.str (Str.ofString "__package__") 167, val := Value.none }, { hash := PyData.keyHash P (Str.ofString "__loader__"), key := Value.str (Str.ofString "__loader__") 168, val := Value.builtin "__main__.__loader__#opaque" }, { hash := PyData.keyHash P (Str.ofString "__spec__"), key := Value.str (Str.ofString "__spec__") 169, val := Value.none }, { hash := PyData.keyHash P (Str.ofString "__annotations__"), key := Value.str (Str.ofString "__annotations__") 170, val := Value.ref 6 }, { hash := PyData.keyHash P (Str.ofString "__builtins__"), key := Value.str (Str.ofString "__builtins__") 171, val := Value.ref 4 }, { hash := PyData.keyHash P (Str.ofString "__file__"), key := Value.str (Str.ofString "__file__") 173, val := Value.str (Str.ofString "/claim/cut.py") 172 }, { hash := PyData.keyHash P (Str.ofString "__cached__"), key := Value.str (Str.ofString "__cached__") 174, val := Value.none }, { hash := PyData.keyHash P (Str.ofString "_generate_overlap_table"), key := Value.str (Str.ofString "_generate_overlap_table") 198, val := Value.ref 21 }, { hash := PyData.keyHash P (Str.ofString "b1_set"), key := Value.str (Str.ofString "b1_set") 260, val := Value.ref 29 }] 11 }
def o22_3 (_ : Params) : Obj := { cls := Value.type "list", data := Data.seq #[Value.int 173 201, Value.int 847 202, Value.int 6150 203, Value.int 6155 204, Value.int 6156 205, Value.int 6157 206, Value.int 8203 207, Value.int 8204 208, Value.int 8205 209, Value.int 8288 210, Value.int 65279 211] }
def o23_3 (_ : Params) : Obj := { cls := Value.type "range", data := Data.fields #[Value.int 65024 212, Value.int 65040 213, Value.int 1 214] }
def o24_3 (_ : Params) : Obj := { cls := Value.type "list", data := Data.seq #[Value.int 65024 217, Value.int 65025 218, Value.int 65026 219, Value.int 65027 220, Value.int 65028 221, Value.int 65029 222, Value.int 65030 223, Value.int 65031 224, Value.int 65032 225, Value.int 65033 226, Value.int 65034 227, Value.int 65035 228, Value.int 65036 229, Value.int 65037 230, Value.int 65038 231, Value.int 65039 232] 18 }
def o25_3 (_ : Params) : Obj := { cls := Value.type "range_iterator", data := Data.fields #[Value.int 65040 0, Value.int 0 0, Value.int 1 0] }
def o26_3 (_ : Params) : Obj := { cls := Value.type "tuple", data := Data.seq #[] }
def o27_3 (_ : Params) : Obj := { cls := Value.type "StopIteration", data := Data.fields #[Value.ref 26, Value.none, Value.none, Value.none, Value.bool false, Value.none] }
def o28_3 (_ : Params) : Obj := { cls := Value.type "list", data := Data.seq #[Value.int 173 201, Value.int 847 202, Value.int 6150 203, Value.int 6155 204, Value.int 6156 205, Value.int 6157 206, Value.int 8203 207, Value.int 8204 208, Value.int 8205 209, Value.int 8288 210, Value.int 65279 211, Value.int 65024 217, Value.int 65025 218, Value.int 65026 219, Value.int 65027 220, Value.int 65028 221, Value.int 65029 222, Value.int 65030 223, Value.int 65031 224, Value.int 65032 225, Value.int 65033 226, Value.int 65034 227, Value.int 65035 228, Value.int 65036 229, Value.int 65037 230, Value.int 65038 231, Value.int 65039 232] }
def o29_3 (P : Params) : Obj := ⟨Value.type "set", none, .set #[(65024, Value.int 65024 217), (65025, Value.int 65025 218), (65026, Value.int 65026 219), (65027, Value.int 65027 220), (65028, Value.int 65028 221), (65029, Value.int 65029 222), (6150, Value.int 6150 203), (65030, Value.int 65030 223), (65031, Value.int 65031 224), (65032, Value.int 65032 225), (65033, Value.int 65033 226), (6155, Value.int 6155 204), (6156, Value.int 6156 205), (6157, Value.int 6157 206), (8203, Value.int 8203 207), (8204, Value.int 8204 208), (8205, Value.int 8205 209), (65034, Value.int 65034 227), (65035, Value.int 65035 228), (65036, Value.int 65036 229), (65037, Value.int 65037 230), (65038, Value.int 65038 231), (65039, Value.int 65039 232), (173, Value.int 173 201), (847, Value.int 847 202), (8288, Value.int 8288 210), (65279, Value.int 65279 211)] 29 { ({ mask := 127, place := #[0, 1, 2, 3, 4, 5, 6, 7, 8, 9, 10, 11, 12, 13, 14, 15, 16, 17, 18, 19, 20, 21, 22, 45, 79, 96, 127], dummies := #[], finger := 0, led := true, moves := 2, plain := true } : SetTable) with led := !P.followText "set-order" }, #[]⟩
def o30_3 (_ : Params) : Obj := { cls := Value.type "list_iterator", data := Data.fields #[Value.none, Value.int 27 0] }
def o31_3 (_ : Params) : Obj := { cls := Value.type "tuple", data := Data.seq #[] }
def o32_3 (_ : Params) : Obj := { cls := Value.type "StopIteration", data := Data.fields #[Value.ref 31, Value.none, Value.none, Value.none, Value.bool false, Value.none] }
def H_3 (P : Params) : Heap := ⟨#[boot_o_0 P, boot_o_1 P, boot_o_2 P, o3_3 P, boot_o_4 P, boot_o_5 P, boot_o_6 P, boot_o_7 P, boot_o_8 P, boot_o_9 P, boot_o_10 P, o11_a P, o12_1 P, o13_a P, o14_a P, o15_1 P, o16_1 P, o17_1 P, o18_1 P, o19_1 P, o20_1 P, o21_1 P, o22_3 P, o23_3 P, o24_3 P, o25_3 P, o26_3 P, o27_3 P, o28_3 P, o29_3 P, o30_3 P, o31_3 P, o32_3 P], {}⟩
def S_3 (P : Params) (os : OsState) : Shared := ⟨H_3 P, #[], {}, 261, os⟩
def o3_4 (P : Params) : Obj := { cls := Value.type "dict", data := Data.dict #[{ hash := PyData.keyHash P (Str.ofString "__name__"), key := Value.str (Str.ofString "__name__") 165, val := Value.str (Str.ofString "cpy313.stringprep") 199 }, { hash := PyData.keyHash P (Str.ofString "__doc__"), key := Value.str (Str.ofString "__doc__") 166, val := Value.none }, { hash := PyData.keyHash P (Str.ofString "__package__"), key := Value.str (Str.ofString "__package__") 167, val := Value.none }, { hash := PyData.keyHash P (Str.ofString "__loader__"), key := Value.str (Str.ofString "__loader__") 168, val := Value.builtin "__main__.__loader__#opaque" }, { hash := PyData.keyHash P (Str.ofString "__spec__"), key := Value.str (Str.ofString "__spec__") 169, val := Value.none }, { hash := PyData.keyHash P (Str.ofString "__annotations__"), key := Value.str (Str.ofString "__annotations__") 170, val := Value.ref 6 }, { hash := PyData.keyHash P (Str.ofString "__builtins__"), key := Value.str (Str.ofString "__builtins__") 171, val := Value.ref 4 }, { hash := PyData.keyHash P (Str.ofString "__file__"), key := Value.str (Str.ofString "__file__") 173, val := Value.str (Str.ofString "/claim/cut.py") 172 }, { hash := PyData.keyHash P (Str.ofString "__cached__"), key := Value.str (Str.ofString "__cached__") 174, val := Value.none }, { hash := PyData.keyHash P (Str.ofString "_generate_overlap_table"), key := Value.str (Str.ofString "_generate_overlap_table") 198, val := Value.ref 21 }, { hash := PyData.keyHash P (Str.ofString "b1_set"), key := Value.str (Str.ofString "b1_set") 260, val := Value.ref 29 }, { hash := PyData.keyHash P (Str.ofString "in_table_b1"), key := Value.str (Str.ofString "in_table_b1") 267, val := Value.ref 39 }] 12 }
def o12_4 (_ : Params) : Obj := { cls := Value.none, data := Data.fields #[Value.int 2 0, Value.int 0 0, Value.ref 20, Value.int 16 0, Value.int 0 0, Value.ref 38] }
def o33_4 (_ : Params) : Obj := { cls := Value.type "tuple", data := Data.seq #[] }
def o34_4 (_ : Params) : Obj := { cls := Value.none, data := Data.fields #[] }
def o35_4 (_ : Params) : Obj := { cls := Value.type "tuple", data := Data.seq #[Value.str (Str.ofString "code") 264] }
def o36_4 (_ : Params) : Obj := { cls := Value.type "tuple", data := Data.seq #[] }
def o37_4 (_ : Params) : Obj := ⟨Value.none, none, .func { name := Str.ofString "in_table_b1", qualname := Str.ofString "in_table_b1", params := fnArgs 4, body := .stmts (fnBody 4), scope := fnScope 4, globals := 0, closure := [], defaults := Value.none, kwdefaults := Value.none, doc := Value.none, pyModule := Value.none, annotations := none, code := Value.none, closureTuple := Value.none, builtins := 0 }, #[]⟩
def o38_4 (_ : Params) : Obj := { cls := Value.type "code", data := Data.fields #[Value.str (Str.ofString "in_table_b1") 261, Value.str (Str.ofString "in_table_b1") 262, Value.str (Str.ofString "/claim/cut.py") 263, Value.int 16 0, Value.int 1 0, Value.int 0 0, Value.int 0 0, Value.int 3 0, Value.ref 33, Value.bool true, Value.int 181 0, Value.ref 34, Value.none, Value.ref 35, Value.ref 36, Value.ref 37, Value.int 265 0, Value.int 16 0, Value.str (Str.ofString "/claim/cut.py") 266] }
def o39_4 (_ : Params) : Obj := ⟨Value.type "function", none, .func { name := Str.ofString "in_table_b1", qualname := Str.ofString "in_table_b1", params := fnArgs 4, body := .stmts (fnBody 4), scope := fnScope 4, globals := 3, closure := [], defaults := Value.none, kwdefaults := Value.none, doc := Value.none, pyModule := Value.str (Str.ofString "cpy313.stringprep") 199, annotations := none, code := Value.ref 38, closureTuple := Value.none, builtins := 0 }, #[]⟩
def H_4 (P : Params) : Heap := ⟨#[boot_o_0 P, boot_o_1 P, boot_o_2 P, o3_4 P, boot_o_4 P, boot_o_5 P, boot_o_6 P, boot_o_7 P, boot_o_8 P, boot_o_9 P, boot_o_10 P, o11_a P, o12_4 P, o13_a P, o14_a P, o15_1 P, o16_1 P, o17_1 P, o18_1 P, o19_1 P, o20_1 P, o21_1 P, o22_3 P, o23_3 P, o24_3 P, o25_3 P, o26_3 P, o27_3 P, o28_3 P, o29_3 P, o30_3 P, o31_3 P, o32_3 P, o33_4 P, o34_4 P, o35_4 P, o36_4 P, o37_4 P, o38_4 P, o39_4 P], {}⟩
def S_4 (P : Params) (os : OsState) : Shared := ⟨H_4 P, #[], {}, 268, os⟩
def o3_5 (P : Params) : Obj := { cls := Value.type "dict", data := Data.dict #[{ hash := PyData.keyHash P (Str.ofString "__name__"), key := Value.str (Str.ofString "__name__") 165, val := Value.str (Str.ofString "cpy313.stringprep") 199 }, { hash := PyData.keyHash P (Str.ofString "__doc__"), key := Value.str (Str.ofString "__doc__") 166, val := Value.none }, { hash := PyData.keyHash P (Str.ofString "__package__"), key := Value.str (Str.ofString "__package__") 167, val := Value.none }, { hash := PyData.keyHash P (Str.ofString "__loader__"), key := Value.str (Str.ofString "__loader__") 168, val := Value.builtin "__main__.__loader__#opaque" }, { hash := PyData.keyHash P (Str.ofString "__spec__"), key := Value.str (Str.ofString "__spec__") 169, val := Value.none }, { hash := PyData.keyHash P (Str.ofString "__annotations__"), key := Value.str (Str.ofString "__annotations__") 170, val := Value.ref 6 }, { hash := PyData.keyHash P (Str.ofString "__builtins__"), key := Value.str (Str.ofString "__builtins__") 171, val := Value.ref 4 }, { hash := PyData.keyHash P (Str.ofString "__file__"), key := Value.str (Str.ofString "__file__") 173, val := Value.str (Str.ofString "/claim/cut.py") 172 }, { hash := PyData.keyHash P (Str.ofString "__cached__"), key := Value.str (Str.ofString "__cached__") 174, val := Value.none }, { hash := PyData.keyHash P (Str.ofString "_generate_overlap_table"), key := Value.str (Str.ofString "_generate_overlap_table") 198, val := Value.ref 21 }, { hash := PyData.keyHash P (Str.ofString "b1_set"), key := Value.str (Str.ofString "b1_set") 260, val := Value.ref 29 }, { hash := PyData.keyHash P (Str.ofString "in_table_b1"), key := Value.str (Str.ofString "in_table_b1") 267, val := Value.ref 39 }, { hash := PyData.keyHash P (Str.ofString "b3_exceptions"), key := Value.str (Str.ofString "b3_exceptions") 2218, val := Value.ref 40 }] 13 }
def o40_5 (_ : Params) : Obj := dictO b3all
def o41_5 (_ : Params) : Obj := dictO (b3subs.getD 1 [])
def o42_5 (_ : Params) : Obj := dictO (b3subs.getD 2 [])
def o43_5 (_ : Params) : Obj := dictO (b3subs.getD 3 [])
def o44_5 (_ : Params) : Obj := dictO (b3subs.getD 4 [])
def o45_5 (_ : Params) : Obj := dictO (b3subs.getD 5 [])
def o46_5 (_ : Params) : Obj := dictO (b3subs.getD 6 [])
def o47_5 (_ : Params) : Obj := dictO (b3subs.getD 7 [])
def o48_5 (_ : Params) : Obj := dictO (b3subs.getD 8 [])
def o49_5 (_ : Params) : Obj := dictO (b3subs.getD 9 [])
def o50_5 (_ : Params) : Obj := dictO (b3subs.getD 10 [])
def o51_5 (_ : Params) : Obj := dictO (b3subs.getD 11 [])
def o52_5 (_ : Params) : Obj := dictO (b3subs.getD 12 [])
def o53_5 (_ : Params) : Obj := dictO (b3subs.getD 13 [])
def o54_5 (_ : Params) : Obj := dictO (b3subs.getD 14 [])
def o55_5 (_ : Params) : Obj := dictO (b3subs.getD 15 [])
def o56_5 (_ : Params) : Obj := dictO (b3subs.getD 16 [])
def o57_5 (_ : Params) : Obj := dictO (b3subs.getD 17 [])
def o58_5 (_ : Params) : Obj := dictO (b3subs.getD 18 [])
def o59_5 (_ : Params) : Obj := dictO (b3subs.getD 19 [])
def o60_5 (_ : Params) : Obj := dictO (b3subs.getD 20 [])
def o61_5 (_ : Params) : Obj := dictO (b3subs.getD 21 [])
def o62_5 (_ : Params) : Obj := dictO (b3subs.getD 22 [])
def o63_5 (_ : Params) : Obj := dictO (b3subs.getD 23 [])
def o64_5 (_ : Params) : Obj := dictO (b3subs.getD 24 [])
def o65_5 (_ : Params) : Obj := dictO (b3subs.getD 25 [])
def o66_5 (_ : Params) : Obj := dictO (b3subs.getD 26 [])
def o67_5 (_ : Params) : Obj := dictO (b3subs.getD 27 [])
def o68_5 (_ : Params) : Obj := dictO (b3subs.getD 28 [])
def o69_5 (_ : Params) : Obj := dictO (b3subs.getD 29 [])
def o70_5 (_ : Params) : Obj := dictO (b3subs.getD 30 [])
def o71_5 (_ : Params) : Obj := dictO (b3subs.getD 31 [])
def o72_5 (_ : Params) : Obj := dictO (b3subs.getD 32 [])
def o73_5 (_ : Params) : Obj := dictO (b3subs.getD 33 [])
def o74_5 (_ : Params) : Obj := dictO (b3subs.getD 34 [])
def o75_5 (_ : Params) : Obj := dictO (b3subs.getD 35 [])
def o76_5 (_ : Params) : Obj := dictO (b3subs.getD 36 [])
def o77_5 (_ : Params) : Obj := dictO (b3subs.getD 37 [])
def o78_5 (_ : Params) : Obj := dictO (b3subs.getD 38 [])
def H_5 (P : Params) : Heap := ⟨#[boot_o_0 P, boot_o_1 P, boot_o_2 P, o3_5 P, boot_o_4 P, boot_o_5 P, boot_o_6 P, boot_o_7 P, boot_o_8 P, boot_o_9 P, boot_o_10 P, o11_a P, o12_4 P, o13_a P, o14_a P, o15_1 P, o16_1 P, o17_1 P, o18_1 P, o19_1 P, o20_1 P, o21_1 P, o22_3 P, o23_3 P, o24_3 P, o25_3 P, o26_3 P, o27_3 P, o28_3 P, o29_3 P, o30_3 P, o31_3 P, o32_3 P, o33_4 P, o34_4 P, o35_4 P, o36_4 P, o37_4 P, o38_4 P, o39_4 P, o40_5 P, o41_5 P, o42_5 P, o43_5 P, o44_5 P, o45_5 P, o46_5 P, o47_5 P, o48_5 P, o49_5 P, o50_5 P, o51_5 P, o52_5 P, o53_5 P, o54_5 P, o55_5 P, o56_5 P, o57_5 P, o58_5 P, o59_5 P, o60_5 P, o61_5 P, o62_5 P, o63_5 P, o64_5 P, o65_5 P, o66_5 P, o67_5 P, o68_5 P, o69_5 P, o70_5 P, o71_5 P, o72_5 P, o73_5 P, o74_5 P, o75_5 P, o76_5 P, o77_5 P, o78_5 P], {}⟩
def S_5 (P : Params) (os : OsState) : Shared := ⟨H_5 P, #[], {}, 2219, os⟩
def o3_6 (P : Params) : Obj := { cls := Value.type "dict", data := Data.dict #[{ hash := PyData.keyHash P (Str.ofString "__name__"), key := Value.str (Str.ofString "__name__") 165, val := Value.str (Str.ofString "cpy313.stringprep") 199 }, { hash := PyData.keyHash P (Str.ofString "__doc__"), key := Value.str (Str.ofString "__doc__") 166, val := Value.none }, { hash := PyData.keyHash P (Str.ofString "__package__"), key := Value.str (Str.ofString "__package__") 167, val := Value.none }, { hash := PyData.keyHash P (Str.ofString "__loader__"), key := Value.str (Str.ofString "__loader__") 168, val := Value.builtin "__main__.__loader__#opaque" }, { hash := PyData.keyHash P (Str.ofString "__spec__"), key := Value.str (Str.ofString "__spec__") 169, val := Value.none }, { hash := PyData.keyHash P (Str.ofString "__annotations__"), key := Value.str (Str.ofString "__annotations__") 170, val := Value.ref 6 }, { hash := PyData.keyHash P (Str.ofString "__builtins__"), key := Value.str (Str.ofString "__builtins__") 171, val := Value.ref 4 }, { hash := PyData.keyHash P (Str.ofString "__file__"), key := Value.str (Str.ofString "__file__") 173, val := Value.str (Str.ofString "/claim/cut.py") 172 }, { hash := PyData.keyHash P (Str.ofString "__cached__"), key := Value.str (Str.ofString "__cached__") 174, val := Value.none }, { hash := PyData.keyHash P (Str.ofString "_generate_overlap_table"), key := Value.str (Str.ofString "_generate_overlap_table") 198, val := Value.ref 21 }, { hash := PyData.keyHash P (Str.ofString "b1_set"), key := Value.str (Str.ofString "b1_set") 260, val := Value.ref 29 }, { hash := PyData.keyHash P (Str.ofString "in_table_b1"), key := Value.str (Str.ofString "in_table_b1") 267, val := Value.ref 39 }, { hash := PyData.keyHash P (Str.ofString "b3_exceptions"), key := Value.str (Str.ofString "b3_exceptions") 2218, val := Value.ref 40 }, { hash := PyData.keyHash P (Str.ofString "map_table_b3"), key := Value.str (Str.ofString "map_table_b3") 2226, val := Value.ref 85 }] 14 }
def o12_6 (_ : Params) : Obj := { cls := Value.none, data := Data.fields #[Value.int 2 0, Value.int 0 0, Value.ref 20, Value.int 16 0, Value.int 0 0, Value.ref 38, Value.int 19 0, Value.int 0 0, Value.ref 84] }
def o79_6 (_ : Params) : Obj := { cls := Value.type "tuple", data := Data.seq #[] }
def o80_6 (_ : Params) : Obj := { cls := Value.none, data := Data.fields #[] }
def o81_6 (_ : Params) : Obj := { cls := Value.type "tuple", data := Data.seq #[Value.str (Str.ofString "code") 2222, Value.str (Str.ofString "r") 2223] }
def o82_6 (_ : Params) : Obj := { cls := Value.type "tuple", data := Data.seq #[] }
def o83_6 (_ : Params) : Obj := ⟨Value.none, none, .func { name := Str.ofString "map_table_b3", qualname := Str.ofString "map_table_b3", params := fnArgs 6, body := .stmts (fnBody 6), scope := fnScope 6, globals := 0, closure := [], defaults := Value.none, kwdefaults := Value.none, doc := Value.none, pyModule := Value.none, annotations := none, code := Value.none, closureTuple := Value.none, builtins := 0 }, #[]⟩
def o84_6 (_ : Params) : Obj := { cls := Value.type "code", data := Data.fields #[Value.str (Str.ofString "map_table_b3") 2219, Value.str (Str.ofString "map_table_b3") 2220, Value.str (Str.ofString "/claim/cut.py") 2221, Value.int 19 0, Value.int 1 0, Value.int 0 0, Value.int 0 0, Value.int 3 0, Value.ref 79, Value.bool true, Value.int 181 0, Value.ref 80, Value.none, Value.ref 81, Value.ref 82, Value.ref 83, Value.int 2224 0, Value.int 19 0, Value.str (Str.ofString "/claim/cut.py") 2225] }
def o85_6 (_ : Params) : Obj := ⟨Value.type "function", none, .func { name := Str.ofString "map_table_b3", qualname := Str.ofString "map_table_b3", params := fnArgs 6, body := .stmts (fnBody 6), scope := fnScope 6, globals := 3, closure := [], defaults := Value.none, kwdefaults := Value.none, doc := Value.none, pyModule := Value.str (Str.ofString "cpy313.stringprep") 199, annotations := none, code := Value.ref 84, closureTuple := Value.none, builtins := 0 }, #[]⟩
def H_6 (P : Params) : Heap := ⟨#[boot_o_0 P, boot_o_1 P, boot_o_2 P, o3_6 P, boot_o_4 P, boot_o_5 P, boot_o_6 P, boot_o_7 P, boot_o_8 P, boot_o_9 P, boot_o_10 P, o11_a P, o12_6 P, o13_a P, o14_a P, o15_1 P, o16_1 P, o17_1 P, o18_1 P, o19_1 P, o20_1 P, o21_1 P, o22_3 P, o23_3 P, o24_3 P, o25_3 P, o26_3 P, o27_3 P, o28_3 P, o29_3 P, o30_3 P, o31_3 P, o32_3 P, o33_4 P, o34_4 P, o35_4 P, o36_4 P, o37_4 P, o38_4 P, o39_4 P, o40_5 P, o41_5 P, o42_5 P, o43_5 P, o44_5 P, o45_5 P, o46_5 P, o47_5 P, o48_5 P, o49_5 P, o50_5 P, o51_5 P, o52_5 P, o53_5 P, o54_5 P, o55_5 P, o56_5 P, o57_5 P, o58_5 P, o59_5 P, o60_5 P, o61_5 P, o62_5 P, o63_5 P, o64_5 P, o65_5 P, o66_5 P, o67_5 P, o68_5 P, o69_5 P, o70_5 P, o71_5 P, o72_5 P, o73_5 P, o74_5 P, o75_5 P, o76_5 P, o77_5 P, o78_5 P, o79_6 P, o80_6 P, o81_6 P, o82_6 P, o83_6 P, o84_6 P, o85_6 P], {}⟩
def S_6 (P : Params) (os : OsState) : Shared := ⟨H_6 P, #[], {}, 2227, os⟩
def o3_7 (P : Params) : Obj := { cls := Value.type "dict", data := Data.dict #[{ hash := PyData.keyHash P (Str.ofString "__name__"), key := Value.str (Str.ofString "__name__") 165, val := Value.str (Str.ofString "law_rl0074_01") 2227 }, { hash := PyData.keyHash P (Str.ofString "__doc__"), key := Value.str (Str.ofString "__doc__") 166, val := Value.none }, { hash := PyData.keyHash P (Str.ofString "__package__"), key := Value.str (Str.ofString "__package__") 167, val := Value.none }, { hash := PyData.keyHash P (Str.ofString "__loader__"), key := Value.str (Str.ofString "__loader__") 168, val := Value.builtin "__main__.__loader__#opaque" }, { hash := PyData.keyHash P (Str.ofString "__spec__"), key := Value.str (Str.ofString "__spec__") 169, val := Value.none }, { hash := PyData.keyHash P (Str.ofString "__annotations__"), key := Value.str (Str.ofString "__annotations__") 170, val := Value.ref 6 }, { hash := PyData.keyHash P (Str.ofString "__builtins__"), key := Value.str (Str.ofString "__builtins__") 171, val := Value.ref 4 }, { hash := PyData.keyHash P (Str.ofString "__file__"), key := Value.str (Str.ofString "__file__") 173, val := Value.str (Str.ofString "/claim/cut.py") 172 }, { hash := PyData.keyHash P (Str.ofString "__cached__"), key := Value.str (Str.ofString "__cached__") 174, val := Value.none }, { hash := PyData.keyHash P (Str.ofString "_generate_overlap_table"), key := Value.str (Str.ofString "_generate_overlap_table") 198, val := Value.ref 21 }, { hash := PyData.keyHash P (Str.ofString "b1_set"), key := Value.str (Str.ofString "b1_set") 260, val := Value.ref 29 }, { hash := PyData.keyHash P (Str.ofString "in_table_b1"), key := Value.str (Str.ofString "in_table_b1") 267, val := Value.ref 39 }, { hash := PyData.keyHash P (Str.ofString "b3_exceptions"), key := Value.str (Str.ofString "b3_exceptions") 2218, val := Value.ref 40 }, { hash := PyData.keyHash P (Str.ofString "map_table_b3"), key := Value.str (Str.ofString "map_table_b3") 2226, val := Value.ref 85 }] 14 }
def H_7 (P : Params) : Heap := ⟨#[boot_o_0 P, boot_o_1 P, boot_o_2 P, o3_7 P, boot_o_4 P, boot_o_5 P, boot_o_6 P, boot_o_7 P, boot_o_8 P, boot_o_9 P, boot_o_10 P, o11_a P, o12_6 P, o13_a P, o14_a P, o15_1 P, o16_1 P, o17_1 P, o18_1 P, o19_1 P, o20_1 P, o21_1 P, o22_3 P, o23_3 P, o24_3 P, o25_3 P, o26_3 P, o27_3 P, o28_3 P, o29_3 P, o30_3 P, o31_3 P, o32_3 P, o33_4 P, o34_4 P, o35_4 P, o36_4 P, o37_4 P, o38_4 P, o39_4 P, o40_5 P, o41_5 P, o42_5 P, o43_5 P, o44_5 P, o45_5 P, o46_5 P, o47_5 P, o48_5 P, o49_5 P, o50_5 P, o51_5 P, o52_5 P, o53_5 P, o54_5 P, o55_5 P, o56_5 P, o57_5 P, o58_5 P, o59_5 P, o60_5 P, o61_5 P, o62_5 P, o63_5 P, o64_5 P, o65_5 P, o66_5 P, o67_5 P, o68_5 P, o69_5 P, o70_5 P, o71_5 P, o72_5 P, o73_5 P, o74_5 P, o75_5 P, o76_5 P, o77_5 P, o78_5 P, o79_6 P, o80_6 P, o81_6 P, o82_6 P, o83_6 P, o84_6 P, o85_6 P], {}⟩
def S_7 (P : Params) (os : OsState) : Shared := ⟨H_7 P, #[], {}, 2229, os⟩
def o3_8 (P : Params) : Obj := { cls := Value.type "dict", data := Data.dict #[{ hash := PyData.keyHash P (Str.ofString "__name__"), key := Value.str (Str.ofString "__name__") 165, val := Value.str (Str.ofString "law_rl0074_01") 2227 }, { hash := PyData.keyHash P (Str.ofString "__doc__"), key := Value.str (Str.ofString "__doc__") 166, val := Value.none }, { hash := PyData.keyHash P (Str.ofString "__package__"), key := Value.str (Str.ofString "__package__") 167, val := Value.none }, { hash := PyData.keyHash P (Str.ofString "__loader__"), key := Value.str (Str.ofString "__loader__") 168, val := Value.builtin "__main__.__loader__#opaque" }, { hash := PyData.keyHash P (Str.ofString "__spec__"), key := Value.str (Str.ofString "__spec__") 169, val := Value.none }, { hash := PyData.keyHash P (Str.ofString "__annotations__"), key := Value.str (Str.ofString "__annotations__") 170, val := Value.ref 6 }, { hash := PyData.keyHash P (Str.ofString "__builtins__"), key := Value.str (Str.ofString "__builtins__") 171, val := Value.ref 4 }, { hash := PyData.keyHash P (Str.ofString "__file__"), key := Value.str (Str.ofString "__file__") 173, val := Value.str (Str.ofString "/claim/cut.py") 172 }, { hash := PyData.keyHash P (Str.ofString "__cached__"), key := Value.str (Str.ofString "__cached__") 174, val := Value.none }, { hash := PyData.keyHash P (Str.ofString "_generate_overlap_table"), key := Value.str (Str.ofString "_generate_overlap_table") 198, val := Value.ref 21 }, { hash := PyData.keyHash P (Str.ofString "b1_set"), key := Value.str (Str.ofString "b1_set") 260, val := Value.ref 29 }, { hash := PyData.keyHash P (Str.ofString "in_table_b1"), key := Value.str (Str.ofString "in_table_b1") 267, val := Value.ref 39 }, { hash := PyData.keyHash P (Str.ofString "b3_exceptions"), key := Value.str (Str.ofString "b3_exceptions") 2218, val := Value.ref 40 }, { hash := PyData.keyHash P (Str.ofString "map_table_b3"), key := Value.str (Str.ofString "map_table_b3") 2226, val := Value.ref 85 }, { hash := PyData.keyHash P (Str.ofString "_law_told"), key := Value.str (Str.ofString "_law_told") 2234, val := Value.ref 90 }] 15 }
def o12_8 (_ : Params) : Obj := { cls := Value.none, data := Data.fields #[Value.int 2 0, Value.int 0 0, Value.ref 20, Value.int 16 0, Value.int 0 0, Value.ref 38, Value.int 19 0, Value.int 0 0, Value.ref 84, Value.int 25 0, Value.int 0 0, Value.ref 89] }
def o86_8 (_ : Params) : Obj := { cls := Value.type "tuple", data := Data.seq #[] }
def o87_8 (_ : Params) : Obj := { cls := Value.none, data := Data.fields #[] }
def o88_8 (_ : Params) : Obj := ⟨Value.none, none, .func { name := Str.ofString "_law_told", qualname := Str.ofString "_law_told", params := fnArgs 8, body := .stmts (fnBody 8), scope := fnScope 8, globals := 0, closure := [], defaults := Value.none, kwdefaults := Value.none, doc := Value.none, pyModule := Value.none, annotations := none, code := Value.none, closureTuple := Value.none, builtins := 0 }, #[]⟩
def o89_8 (_ : Params) : Obj := { cls := Value.type "code", data := Data.fields #[Value.str (Str.ofString "_law_told") 2229, Value.str (Str.ofString "_law_told") 2230, Value.str (Str.ofString "/claim/cut.py") 2231, Value.int 25 0, Value.int 1 0, Value.int 0 0, Value.int 0 0, Value.int 3 0, Value.ref 86, Value.bool true, Value.int 181 0, Value.ref 87, Value.none, Value.none, Value.none, Value.ref 88, Value.int 2232 0, Value.int 25 0, Value.str (Str.ofString "/claim/cut.py") 2233] }
def o90_8 (_ : Params) : Obj := ⟨Value.type "function", none, .func { name := Str.ofString "_law_told", qualname := Str.ofString "_law_told", params := fnArgs 8, body := .stmts (fnBody 8), scope := fnScope 8, globals := 3, closure := [], defaults := Value.none, kwdefaults := Value.none, doc := Value.none, pyModule := Value.str (Str.ofString "law_rl0074_01") 2227, annotations := none, code := Value.ref 89, closureTuple := Value.none, builtins := 0 }, #[]⟩
def H_8 (P : Params) : Heap := ⟨#[boot_o_0 P, boot_o_1 P, boot_o_2 P, o3_8 P, boot_o_4 P, boot_o_5 P, boot_o_6 P, boot_o_7 P, boot_o_8 P, boot_o_9 P, boot_o_10 P, o11_a P, o12_8 P, o13_a P, o14_a P, o15_1 P, o16_1 P, o17_1 P, o18_1 P, o19_1 P, o20_1 P, o21_1 P, o22_3 P, o23_3 P, o24_3 P, o25_3 P, o26_3 P, o27_3 P, o28_3 P, o29_3 P, o30_3 P, o31_3 P, o32_3 P, o33_4 P, o34_4 P, o35_4 P, o36_4 P, o37_4 P, o38_4 P, o39_4 P, o40_5 P, o41_5 P, o42_5 P, o43_5 P, o44_5 P, o45_5 P, o46_5 P, o47_5 P, o48_5 P, o49_5 P, o50_5 P, o51_5 P, o52_5 P, o53_5 P, o54_5 P, o55_5 P, o56_5 P, o57_5 P, o58_5 P, o59_5 P, o60_5 P, o61_5 P, o62_5 P, o63_5 P, o64_5 P, o65_5 P, o66_5 P, o67_5 P, o68_5 P, o69_5 P, o70_5 P, o71_5 P, o72_5 P, o73_5 P, o74_5 P, o75_5 P, o76_5 P, o77_5 P, o78_5 P, o79_6 P, o80_6 P, o81_6 P, o82_6 P, o83_6 P, o84_6 P, o85_6 P, o86_8 P, o87_8 P, o88_8 P, o89_8 P, o90_8 P], {}⟩
def S_8 (P : Params) (os : OsState) : Shared := ⟨H_8 P, #[], {}, 2235, os⟩
def o3_9 (P : Params) : Obj := { cls := Value.type "dict", data := Data.dict #[{ hash := PyData.keyHash P (Str.ofString "__name__"), key := Value.str (Str.ofString "__name__") 165, val := Value.str (Str.ofString "law_rl0074_01") 2227 }, { hash := PyData.keyHash P (Str.ofString "__doc__"), key := Value.str (Str.ofString "__doc__") 166, val := Value.none }, { hash := PyData.keyHash P (Str.ofString "__package__"), key := Value.str (Str.ofString "__package__") 167, val := Value.none }, { hash := PyData.keyHash P (Str.ofString "__loader__"), key := Value.str (Str.ofString "__loader__") 168, val := Value.builtin "__main__.__loader__#opaque" }, { hash := PyData.keyHash P (Str.ofString "__spec__"), key := Value.str (Str.ofString "__spec__") 169, val := Value.none }, { hash := PyData.keyHash P (Str.ofString "__annotations__"), key := Value.str (Str.ofString "__annotations__") 170, val := Value.ref 6 }, { hash := PyData.keyHash P (Str.ofString "__builtins__"), key := Value.str (Str.ofString "__builtins__") 171, val := Value.ref 4 }, { hash := PyData.keyHash P (Str.ofString "__file__"), key := Value.str (Str.ofString "__file__") 173, val := Value.str (Str.ofString "/claim/cut.py") 172 }, { hash := PyData.keyHash P (Str.ofString "__cached__"), key := Value.str (Str.ofString "__cached__") 174, val := Value.none }, { hash := PyData.keyHash P (Str.ofString "_generate_overlap_table"), key := Value.str (Str.ofString "_generate_overlap_table") 198, val := Value.ref 21 }, { hash := PyData.keyHash P (Str.ofString "b1_set"), key := Value.str (Str.ofString "b1_set") 260, val := Value.ref 29 }, { hash := PyData.keyHash P (Str.ofString "in_table_b1"), key := Value.str (Str.ofString "in_table_b1") 267, val := Value.ref 39 }, { hash := PyData.keyHash P (Str.ofString "b3_exceptions"), key := Value.str (Str.ofString "b3_exceptions") 2218, val := Value.ref 40 }, { hash := PyData.keyHash P (Str.ofString "map_table_b3"), key := Value.str (Str.ofString "map_table_b3") 2226, val := Value.ref 85 }, { hash := PyData.keyHash P (Str.ofString "_law_told"), key := Value.str (Str.ofString "_law_told") 2234, val := Value.ref 90 }, { hash := PyData.keyHash P (Str.ofString "_law_found"), key := Value.str (Str.ofString "_law_found") 2240, val := Value.ref 95 }] 16 }
def o12_9 (_ : Params) : Obj := { cls := Value.none, data := Data.fields #[Value.int 2 0, Value.int 0 0, Value.ref 20, Value.int 16 0, Value.int 0 0, Value.ref 38, Value.int 19 0, Value.int 0 0, Value.ref 84, Value.int 25 0, Value.int 0 0, Value.ref 89, Value.int 40 0, Value.int 0 0, Value.ref 94] }
def o91_9 (_ : Params) : Obj := { cls := Value.type "tuple", data := Data.seq #[] }
def o92_9 (_ : Params) : Obj := { cls := Value.none, data := Data.fields #[] }
def o93_9 (_ : Params) : Obj := ⟨Value.none, none, .func { name := Str.ofString "_law_found", qualname := Str.ofString "_law_found", params := fnArgs 9, body := .stmts (fnBody 9), scope := fnScope 9, globals := 0, closure := [], defaults := Value.none, kwdefaults := Value.none, doc := Value.none, pyModule := Value.none, annotations := none, code := Value.none, closureTuple := Value.none, builtins := 0 }, #[]⟩
def o94_9 (_ : Params) : Obj := { cls := Value.type "code", data := Data.fields #[Value.str (Str.ofString "_law_found") 2235, Value.str (Str.ofString "_law_found") 2236, Value.str (Str.ofString "/claim/cut.py") 2237, Value.int 40 0, Value.int 2 0, Value.int 0 0, Value.int 0 0, Value.int 3 0, Value.ref 91, Value.bool true, Value.int 181 0, Value.ref 92, Value.none, Value.none, Value.none, Value.ref 93, Value.int 2238 0, Value.int 40 0, Value.str (Str.ofString "/claim/cut.py") 2239] }
def o95_9 (_ : Params) : Obj := ⟨Value.type "function", none, .func { name := Str.ofString "_law_found", qualname := Str.ofString "_law_found", params := fnArgs 9, body := .stmts (fnBody 9), scope := fnScope 9, globals := 3, closure := [], defaults := Value.none, kwdefaults := Value.none, doc := Value.none, pyModule := Value.str (Str.ofString "law_rl0074_01") 2227, annotations := none, code := Value.ref 94, closureTuple := Value.none, builtins := 0 }, #[]⟩
def H_9 (P : Params) : Heap := ⟨#[boot_o_0 P, boot_o_1 P, boot_o_2 P, o3_9 P, boot_o_4 P, boot_o_5 P, boot_o_6 P, boot_o_7 P, boot_o_8 P, boot_o_9 P, boot_o_10 P, o11_a P, o12_9 P, o13_a P, o14_a P, o15_1 P, o16_1 P, o17_1 P, o18_1 P, o19_1 P, o20_1 P, o21_1 P, o22_3 P, o23_3 P, o24_3 P, o25_3 P, o26_3 P, o27_3 P, o28_3 P, o29_3 P, o30_3 P, o31_3 P, o32_3 P, o33_4 P, o34_4 P, o35_4 P, o36_4 P, o37_4 P, o38_4 P, o39_4 P, o40_5 P, o41_5 P, o42_5 P, o43_5 P, o44_5 P, o45_5 P, o46_5 P, o47_5 P, o48_5 P, o49_5 P, o50_5 P, o51_5 P, o52_5 P, o53_5 P, o54_5 P, o55_5 P, o56_5 P, o57_5 P, o58_5 P, o59_5 P, o60_5 P, o61_5 P, o62_5 P, o63_5 P, o64_5 P, o65_5 P, o66_5 P, o67_5 P, o68_5 P, o69_5 P, o70_5 P, o71_5 P, o72_5 P, o73_5 P, o74_5 P, o75_5 P, o76_5 P, o77_5 P, o78_5 P, o79_6 P, o80_6 P, o81_6 P, o82_6 P, o83_6 P, o84_6 P, o85_6 P, o86_8 P, o87_8 P, o88_8 P, o89_8 P, o90_8 P, o91_9 P, o92_9 P, o93_9 P, o94_9 P, o95_9 P], {}⟩
def S_9 (P : Params) (os : OsState) : Shared := ⟨H_9 P, #[], {}, 2241, os⟩
def o3_10 (P : Params) : Obj := { cls := Value.type "dict", data := Data.dict #[{ hash := PyData.keyHash P (Str.ofString "__name__"), key := Value.str (Str.ofString "__name__") 165, val := Value.str (Str.ofString "law_rl0074_01") 2227 }, { hash := PyData.keyHash P (Str.ofString "__doc__"), key := Value.str (Str.ofString "__doc__") 166, val := Value.none }, { hash := PyData.keyHash P (Str.ofString "__package__"), key := Value.str (Str.ofString "__package__") 167, val := Value.none }, { hash := PyData.keyHash P (Str.ofString "__loader__"), key := Value.str (Str.ofString "__loader__") 168, val := Value.builtin "__main__.__loader__#opaque" }, { hash := PyData.keyHash P (Str.ofString "__spec__"), key := Value.str (Str.ofString "__spec__") 169, val := Value.none }, { hash := PyData.keyHash P (Str.ofString "__annotations__"), key := Value.str (Str.ofString "__annotations__") 170, val := Value.ref 6 }, { hash := PyData.keyHash P (Str.ofString "__builtins__"), key := Value.str (Str.ofString "__builtins__") 171, val := Value.ref 4 }, { hash := PyData.keyHash P (Str.ofString "__file__"), key := Value.str (Str.ofString "__file__") 173, val := Value.str (Str.ofString "/claim/cut.py") 172 }, { hash := PyData.keyHash P (Str.ofString "__cached__"), key := Value.str (Str.ofString "__cached__") 174, val := Value.none }, { hash := PyData.keyHash P (Str.ofString "_generate_overlap_table"), key := Value.str (Str.ofString "_generate_overlap_table") 198, val := Value.ref 21 }, { hash := PyData.keyHash P (Str.ofString "b1_set"), key := Value.str (Str.ofString "b1_set") 260, val := Value.ref 29 }, { hash := PyData.keyHash P (Str.ofString "in_table_b1"), key := Value.str (Str.ofString "in_table_b1") 267, val := Value.ref 39 }, { hash := PyData.keyHash P (Str.ofString "b3_exceptions"), key := Value.str (Str.ofString "b3_exceptions") 2218, val := Value.ref 40 }, { hash := PyData.keyHash P (Str.ofString "map_table_b3"), key := Value.str (Str.ofString "map_table_b3") 2226, val := Value.ref 85 }, { hash := PyData.keyHash P (Str.ofString "_law_told"), key := Value.str (Str.ofString "_law_told") 2234, val := Value.ref 90 }, { hash := PyData.keyHash P (Str.ofString "_law_found"), key := Value.str (Str.ofString "_law_found") 2240, val := Value.ref 95 }, { hash := PyData.keyHash P (Str.ofString "_law_first"), key := Value.str (Str.ofString "_law_first") 2246, val := Value.ref 100 }] 17 }
def o12_10 (_ : Params) : Obj := { cls := Value.none, data := Data.fields #[Value.int 2 0, Value.int 0 0, Value.ref 20, Value.int 16 0, Value.int 0 0, Value.ref 38, Value.int 19 0, Value.int 0 0, Value.ref 84, Value.int 25 0, Value.int 0 0, Value.ref 89, Value.int 40 0, Value.int 0 0, Value.ref 94, Value.int 53 0, Value.int 0 0, Value.ref 99] }
def o96_10 (_ : Params) : Obj := { cls := Value.type "tuple", data := Data.seq #[] }
def o97_10 (_ : Params) : Obj := { cls := Value.none, data := Data.fields #[] }
def o98_10 (_ : Params) : Obj := ⟨Value.none, none, .func { name := Str.ofString "_law_first", qualname := Str.ofString "_law_first", params := fnArgs 10, body := .stmts (fnBody 10), scope := fnScope 10, globals := 0, closure := [], defaults := Value.none, kwdefaults := Value.none, doc := Value.none, pyModule := Value.none, annotations := none, code := Value.none, closureTuple := Value.none, builtins := 0 }, #[]⟩
def o99_10 (_ : Params) : Obj := { cls := Value.type "code", data := Data.fields #[Value.str (Str.ofString "_law_first") 2241, Value.str (Str.ofString "_law_first") 2242, Value.str (Str.ofString "/claim/cut.py") 2243, Value.int 53 0, Value.int 1 0, Value.int 0 0, Value.int 0 0, Value.int 3 0, Value.ref 96, Value.bool true, Value.int 181 0, Value.ref 97, Value.none, Value.none, Value.none, Value.ref 98, Value.int 2244 0, Value.int 53 0, Value.str (Str.ofString "/claim/cut.py") 2245] }
def o100_10 (_ : Params) : Obj := ⟨Value.type "function", none, .func { name := Str.ofString "_law_first", qualname := Str.ofString "_law_first", params := fnArgs 10, body := .stmts (fnBody 10), scope := fnScope 10, globals := 3, closure := [], defaults := Value.none, kwdefaults := Value.none, doc := Value.none, pyModule := Value.str (Str.ofString "law_rl0074_01") 2227, annotations := none, code := Value.ref 99, closureTuple := Value.none, builtins := 0 }, #[]⟩
def H_10 (P : Params) : Heap := ⟨#[boot_o_0 P, boot_o_1 P, boot_o_2 P, o3_10 P, boot_o_4 P, boot_o_5 P, boot_o_6 P, boot_o_7 P, boot_o_8 P, boot_o_9 P, boot_o_10 P, o11_a P, o12_10 P, o13_a P, o14_a P, o15_1 P, o16_1 P, o17_1 P, o18_1 P, o19_1 P, o20_1 P, o21_1 P, o22_3 P, o23_3 P, o24_3 P, o25_3 P, o26_3 P, o27_3 P, o28_3 P, o29_3 P, o30_3 P, o31_3 P, o32_3 P, o33_4 P, o34_4 P, o35_4 P, o36_4 P, o37_4 P, o38_4 P, o39_4 P, o40_5 P, o41_5 P, o42_5 P, o43_5 P, o44_5 P, o45_5 P, o46_5 P, o47_5 P, o48_5 P, o49_5 P, o50_5 P, o51_5 P, o52_5 P, o53_5 P, o54_5 P, o55_5 P, o56_5 P, o57_5 P, o58_5 P, o59_5 P, o60_5 P, o61_5 P, o62_5 P, o63_5 P, o64_5 P, o65_5 P, o66_5 P, o67_5 P, o68_5 P, o69_5 P, o70_5 P, o71_5 P, o72_5 P, o73_5 P, o74_5 P, o75_5 P, o76_5 P, o77_5 P, o78_5 P, o79_6 P, o80_6 P, o81_6 P, o82_6 P, o83_6 P, o84_6 P, o85_6 P, o86_8 P, o87_8 P, o88_8 P, o89_8 P, o90_8 P, o91_9 P, o92_9 P, o93_9 P, o94_9 P, o95_9 P, o96_10 P, o97_10 P, o98_10 P, o99_10 P, o100_10 P], {}⟩
def S_10 (P : Params) (os : OsState) : Shared := ⟨H_10 P, #[], {}, 2247, os⟩
def o3_11 (P : Params) : Obj := { cls := Value.type "dict", data := Data.dict #[{ hash := PyData.keyHash P (Str.ofString "__name__"), key := Value.str (Str.ofString "__name__") 165, val := Value.str (Str.ofString "law_rl0074_01") 2227 }, { hash := PyData.keyHash P (Str.ofString "__doc__"), key := Value.str (Str.ofString "__doc__") 166, val := Value.none }, { hash := PyData.keyHash P (Str.ofString "__package__"), key := Value.str (Str.ofString "__package__") 167, val := Value.none }, { hash := PyData.keyHash P (Str.ofString "__loader__"), key := Value.str (Str.ofString "__loader__") 168, val := Value.builtin "__main__.__loader__#opaque" }, { hash := PyData.keyHash P (Str.ofString "__spec__"), key := Value.str (Str.ofString "__spec__") 169, val := Value.none }, { hash := PyData.keyHash P (Str.ofString "__annotations__"), key := Value.str (Str.ofString "__annotations__") 170, val := Value.ref 6 }, { hash := PyData.keyHash P (Str.ofString "__builtins__"), key := Value.str (Str.ofString "__builtins__") 171, val := Value.ref 4 }, { hash := PyData.keyHash P (Str.ofString "__file__"), key := Value.str (Str.ofString "__file__") 173, val := Value.str (Str.ofString "/claim/cut.py") 172 }, { hash := PyData.keyHash P (Str.ofString "__cached__"), key := Value.str (Str.ofString "__cached__") 174, val := Value.none }, { hash := PyData.keyHash P (Str.ofString "_generate_overlap_table"), key := Value.str (Str.ofString "_generate_overlap_table") 198, val := Value.ref 21 }, { hash := PyData.keyHash P (Str.ofString "b1_set"), key := Value.str (Str.ofString "b1_set") 260, val := Value.ref 29 }, { hash := PyData.keyHash P (Str.ofString "in_table_b1"), key := Value.str (Str.ofString "in_table_b1") 267, val := Value.ref 39 }, { hash := PyData.keyHash P (Str.ofString "b3_exceptions"), key := Value.str (Str.ofString "b3_exceptions") 2218, val := Value.ref 40 }, { hash := PyData.keyHash P (Str.ofString "map_table_b3"), key := Value.str (Str.ofString "map_table_b3") 2226, val := Value.ref 85 }, { hash := PyData.keyHash P (Str.ofString "_law_told"), key := Value.str (Str.ofString "_law_told") 2234, val := Value.ref 90 }, { hash := PyData.keyHash P (Str.ofString "_law_found"), key := Value.str (Str.ofString "_law_found") 2240, val := Value.ref 95 }, { hash := PyData.keyHash P (Str.ofString "_law_first"), key := Value.str (Str.ofString "_law_first") 2246, val := Value.ref 100 }, { hash := PyData.keyHash P (Str.ofString "law"), key := Value.str (Str.ofString "law") 2252, val := Value.ref 105 }] 18 }
def o12_11 (_ : Params) : Obj := { cls := Value.none, data := Data.fields #[Value.int 2 0, Value.int 0 0, Value.ref 20, Value.int 16 0, Value.int 0 0, Value.ref 38, Value.int 19 0, Value.int 0 0, Value.ref 84, Value.int 25 0, Value.int 0 0, Value.ref 89, Value.int 40 0, Value.int 0 0, Value.ref 94, Value.int 53 0, Value.int 0 0, Value.ref 99, Value.int 55 0, Value.int 0 0, Value.ref 104] }
def o101_11 (_ : Params) : Obj := { cls := Value.type "tuple", data := Data.seq #[] }
def o102_11 (_ : Params) : Obj := { cls := Value.none, data := Data.fields #[] }
def o103_11 (_ : Params) : Obj := ⟨Value.none, none, .func { name := Str.ofString "law", qualname := Str.ofString "law", params := fnArgs 11, body := .stmts (fnBody 11), scope := fnScope 11, globals := 0, closure := [], defaults := Value.none, kwdefaults := Value.none, doc := Value.none, pyModule := Value.none, annotations := none, code := Value.none, closureTuple := Value.none, builtins := 0 }, #[]⟩
def o104_11 (_ : Params) : Obj := { cls := Value.type "code", data := Data.fields #[Value.str (Str.ofString "law") 2247, Value.str (Str.ofString "law") 2248, Value.str (Str.ofString "/claim/cut.py") 2249, Value.int 55 0, Value.int 1 0, Value.int 0 0, Value.int 0 0, Value.int 3 0, Value.ref 101, Value.bool true, Value.int 181 0, Value.ref 102, Value.none, Value.none, Value.none, Value.ref 103, Value.int 2250 0, Value.int 55 0, Value.str (Str.ofString "/claim/cut.py") 2251] }
def o105_11 (_ : Params) : Obj := ⟨Value.type "function", none, .func { name := Str.ofString "law", qualname := Str.ofString "law", params := fnArgs 11, body := .stmts (fnBody 11), scope := fnScope 11, globals := 3, closure := [], defaults := Value.none, kwdefaults := Value.none, doc := Value.none, pyModule := Value.str (Str.ofString "law_rl0074_01") 2227, annotations := none, code := Value.ref 104, closureTuple := Value.none, builtins := 0 }, #[]⟩
def H_11 (P : Params) : Heap := ⟨#[boot_o_0 P, boot_o_1 P, boot_o_2 P, o3_11 P, boot_o_4 P, boot_o_5 P, boot_o_6 P, boot_o_7 P, boot_o_8 P, boot_o_9 P, boot_o_10 P, o11_a P, o12_11 P, o13_a P, o14_a P, o15_1 P, o16_1 P, o17_1 P, o18_1 P, o19_1 P, o20_1 P, o21_1 P, o22_3 P, o23_3 P, o24_3 P, o25_3 P, o26_3 P, o27_3 P, o28_3 P, o29_3 P, o30_3 P, o31_3 P, o32_3 P, o33_4 P, o34_4 P, o35_4 P, o36_4 P, o37_4 P, o38_4 P, o39_4 P, o40_5 P, o41_5 P, o42_5 P, o43_5 P, o44_5 P, o45_5 P, o46_5 P, o47_5 P, o48_5 P, o49_5 P, o50_5 P, o51_5 P, o52_5 P, o53_5 P, o54_5 P, o55_5 P, o56_5 P, o57_5 P, o58_5 P, o59_5 P, o60_5 P, o61_5 P, o62_5 P, o63_5 P, o64_5 P, o65_5 P, o66_5 P, o67_5 P, o68_5 P, o69_5 P, o70_5 P, o71_5 P, o72_5 P, o73_5 P, o74_5 P, o75_5 P, o76_5 P, o77_5 P, o78_5 P, o79_6 P, o80_6 P, o81_6 P, o82_6 P, o83_6 P, o84_6 P, o85_6 P, o86_8 P, o87_8 P, o88_8 P, o89_8 P, o90_8 P, o91_9 P, o92_9 P, o93_9 P, o94_9 P, o95_9 P, o96_10 P, o97_10 P, o98_10 P, o99_10 P, o100_10 P, o101_11 P, o102_11 P, o103_11 P, o104_11 P, o105_11 P], {}⟩
def S_11 (P : Params) (os : OsState) : Shared := ⟨H_11 P, #[], {}, 2253, os⟩
def H_f (P : Params) : Heap := ⟨#[boot_o_0 P, boot_o_1 P, boot_o_2 P, o3_11 P, boot_o_4 P, boot_o_5 P, boot_o_6 P, boot_o_7 P, boot_o_8 P, boot_o_9 P, boot_o_10 P, o11_a P, o12_11 P, o13_a P, o14_a P, o15_1 P, o16_1 P, o17_1 P, o18_1 P, o19_1 P, o20_1 P, o21_1 P, o22_3 P, o23_3 P, o24_3 P, o25_3 P, o26_3 P, o27_3 P, o28_3 P, o29_3 P, o30_3 P, o31_3 P, o32_3 P, o33_4 P, o34_4 P, o35_4 P, o36_4 P, o37_4 P, o38_4 P, o39_4 P, o40_5 P, o41_5 P, o42_5 P, o43_5 P, o44_5 P, o45_5 P, o46_5 P, o47_5 P, o48_5 P, o49_5 P, o50_5 P, o51_5 P, o52_5 P, o53_5 P, o54_5 P, o55_5 P, o56_5 P, o57_5 P, o58_5 P, o59_5 P, o60_5 P, o61_5 P, o62_5 P, o63_5 P, o64_5 P, o65_5 P, o66_5 P, o67_5 P, o68_5 P, o69_5 P, o70_5 P, o71_5 P, o72_5 P, o73_5 P, o74_5 P, o75_5 P, o76_5 P, o77_5 P, o78_5 P, o79_6 P, o80_6 P, o81_6 P, o82_6 P, o83_6 P, o84_6 P, o85_6 P, o86_8 P, o87_8 P, o88_8 P, o89_8 P, o90_8 P, o91_9 P, o92_9 P, o93_9 P, o94_9 P, o95_9 P, o96_10 P, o97_10 P, o98_10 P, o99_10 P, o100_10 P, o101_11 P, o102_11 P, o103_11 P, o104_11 P, o105_11 P], {}⟩
def S_f (P : Params) (os : OsState) : Shared := ⟨H_f P, #[], {}, 2253, os⟩
def H_4d (P : Params) : Heap := ⟨#[boot_o_0 P, boot_o_1 P, boot_o_2 P, o3_4 P, boot_o_4 P, boot_o_5 P, boot_o_6 P, boot_o_7 P, boot_o_8 P, boot_o_9 P, boot_o_10 P, o11_a P, o12_4 P, o13_a P, o14_a P, o15_1 P, o16_1 P, o17_1 P, o18_1 P, o19_1 P, o20_1 P, o21_1 P, o22_3 P, o23_3 P, o24_3 P, o25_3 P, o26_3 P, o27_3 P, o28_3 P, o29_3 P, o30_3 P, o31_3 P, o32_3 P, o33_4 P, o34_4 P, o35_4 P, o36_4 P, o37_4 P, o38_4 P, o39_4 P, o40_5 P, o41_5 P, o42_5 P, o43_5 P, o44_5 P, o45_5 P, o46_5 P, o47_5 P, o48_5 P, o49_5 P, o50_5 P, o51_5 P, o52_5 P, o53_5 P, o54_5 P, o55_5 P, o56_5 P, o57_5 P, o58_5 P, o59_5 P, o60_5 P, o61_5 P, o62_5 P, o63_5 P, o64_5 P, o65_5 P, o66_5 P, o67_5 P, o68_5 P, o69_5 P, o70_5 P, o71_5 P, o72_5 P, o73_5 P, o74_5 P, o75_5 P, o76_5 P, o77_5 P, o78_5 P], {}⟩
def S_4d (P : Params) (os : OsState) : Shared := ⟨H_4d P, #[], {}, 2218, os⟩
end
end Mine
end
noncomputable section
open PySem PySem.W PyProof.Rows PySem.Calls
set_option Elab.async false
set_option maxRecDepth 100000
set_option linter.unusedVariables false
namespace Mine

theorem kp_refl (s : Shared) : Keeps s s := ⟨s.heap, s.toks, rfl, fun _ _ e => e⟩
theorem kp_tok {s : Shared} (t : Nat) : Keeps s { s with toks := t } := ⟨s.heap, t, rfl, fun _ _ e => e⟩
theorem kp_trans {a b c : Shared} (h1 : Keeps a b) (h2 : Keeps b c) : Keeps a c := by
  obtain ⟨h, t, rfl, k⟩ := h1
  obtain ⟨h', t', rfl, k'⟩ := h2
  exact ⟨h', t', rfl, fun x o e => k' x o (k x o e)⟩
theorem kp_push {s : Shared} (o : Obj) (t : Nat) : Keeps s { s with heap := s.heap.push o, toks := t } := ⟨_, t, rfl, fun _ _ e => Heap.get?_push_of_some _ e⟩
theorem kp_heap {a b : Shared} (h : Keeps a b) : ∀ x o, a.heap.get? x = some o → b.heap.get? x = some o := by
  obtain ⟨h, t, rfl, k⟩ := h; exact k

/-- all that was there is there -/
def HK (s s' : Shared) : Prop := ∀ x o, s.heap.get? x = some o → s'.heap.get? x = some o
theorem hk_refl (s : Shared) : HK s s := fun _ _ e => e
theorem hk {a b c : Shared} (h1 : HK a b) (h2 : Keeps b c) : HK a c := fun x o e => kp_heap h2 x o (h1 x o e)
theorem hk2 {a b c : Shared} (h1 : HK a b) (h2 : HK b c) : HK a c := fun x o e => h2 x o (h1 x o e)
theorem kp_hk {a b : Shared} (h : Keeps a b) : HK a b := kp_heap h

mutual
noncomputable def nd : PyData → Bool
  | .dict _ => false
  | .list ds => nds ds
  | .tuple ds => nds ds
  | _ => true
noncomputable def nds : List PyData → Bool
  | [] => true
  | d :: ds => nd d && nds ds
end
theorem nds_cons {d : PyData} {ds : List PyData} : nds (d :: ds) = true ↔ nd d = true ∧ nds ds = true := by
  rw [nds]; exact Bool.and_eq_true_iff
/-- the value reads as the datum -/
def Rv (h : Heap) (v : Value) (d : PyData) : Prop := (∃ as, Reads h v d as) ∧ nd d = true
theorem Rv.keep {h h' : Heap} {v : Value} {d : PyData} (r : Rv h v d) (k : ∀ b o, h.get? b = some o → h'.get? b = some o) : Rv h' v d := let ⟨⟨as, q⟩, n⟩ := r; ⟨⟨as, Reads.keeps k q⟩, n⟩
theorem Rv.kp {s s' : Shared} {v : Value} {d : PyData} (r : Rv s.heap v d) (k : Keeps s s') : Rv s'.heap v d := r.keep (kp_heap k)
theorem Rv.int {h : Heap} {v : Value} {n : Int} (r : Rv h v (.int n)) : ∃ t, v = .int n t := by obtain ⟨⟨_, q⟩, _⟩ := r; cases q; exact ⟨_, rfl⟩
theorem Rv.str {h : Heap} {v : Value} {x : Str} (r : Rv h v (.str x)) : ∃ t, v = .str x t := by obtain ⟨⟨_, q⟩, _⟩ := r; cases q; exact ⟨_, rfl⟩
theorem Rv.bool {h : Heap} {v : Value} {b : Bool} (r : Rv h v (.bool b)) : v = .bool b := by obtain ⟨⟨_, q⟩, _⟩ := r; cases q; rfl
theorem rv_int (h : Heap) (n : Int) (t : Tok) : Rv h (.int n t) (.int n) := ⟨⟨_, .int n t⟩, rfl⟩
theorem rv_str (h : Heap) (x : Str) (t : Tok) : Rv h (.str x t) (.str x) := ⟨⟨_, .str x t⟩, rfl⟩
theorem rv_bool (h : Heap) (b : Bool) : Rv h (.bool b) (.bool b) := ⟨⟨_, .bool b⟩, rfl⟩
/-- all of them -/
def Rvs (h : Heap) (vs : List Value) (ds : List PyData) : Prop := (∃ as, ReadsAll h vs ds as) ∧ nds ds = true
theorem Rvs.keep {h h' : Heap} {vs : List Value} {ds : List PyData} (r : Rvs h vs ds) (k : ∀ b o, h.get? b = some o → h'.get? b = some o) : Rvs h' vs ds := let ⟨⟨as, q⟩, n⟩ := r; ⟨⟨as, ReadsAll.keeps k q⟩, n⟩
theorem Rvs.kp {s s' : Shared} {vs : List Value} {ds : List PyData} (r : Rvs s.heap vs ds) (k : Keeps s s') : Rvs s'.heap vs ds := r.keep (kp_heap k)
theorem rvs_nil (h : Heap) : Rvs h [] [] := ⟨⟨_, .nil⟩, rfl⟩
theorem rvs_cons {h : Heap} {v : Value} {vs : List Value} {d : PyData} {ds : List PyData} (a : Rv h v d) (b : Rvs h vs ds) : Rvs h (v :: vs) (d :: ds) := let ⟨⟨_, p⟩, n⟩ := a; let ⟨⟨_, q⟩, n'⟩ := b; ⟨⟨_, .cons p q⟩, nds_cons.mpr ⟨n, n'⟩⟩
theorem Rvs.uncons {h : Heap} {v : Value} {vs : List Value} {d : PyData} {ds : List PyData} (r : Rvs h (v :: vs) (d :: ds)) : Rv h v d ∧ Rvs h vs ds := by obtain ⟨⟨_, q⟩, n⟩ := r; cases q with | cons a b => exact ⟨⟨⟨_, a⟩, (nds_cons.mp n).1⟩, ⟨⟨_, b⟩, (nds_cons.mp n).2⟩⟩
theorem Rvs.length {h : Heap} : ∀ {vs : List Value} {ds : List PyData}, Rvs h vs ds → vs.length = ds.length
  | [], [], _ => rfl
  | [], _ :: _, ⟨⟨_, q⟩, _⟩ => nomatch q
  | _ :: _, [], ⟨⟨_, q⟩, _⟩ => nomatch q
  | _ :: _, _ :: _, r => by rw [List.length_cons, List.length_cons, Rvs.length r.uncons.2]
theorem Rvs.get {h : Heap} : ∀ {vs : List Value} {ds : List PyData} {i : Nat} {d : PyData}, Rvs h vs ds → ds[i]? = some d → ∃ v, vs[i]? = some v ∧ Rv h v d
  | [], [], _, _, _, e => by simp at e
  | [], _ :: _, _, _, ⟨⟨_, q⟩, _⟩, _ => nomatch q
  | _ :: _, [], _, _, ⟨⟨_, q⟩, _⟩, _ => nomatch q
  | v :: vs, d :: ds, 0, _, r, e => by simp at e; subst e; exact ⟨v, rfl, r.uncons.1⟩
  | v :: vs, d :: ds, i + 1, _, r, e => by
    obtain ⟨u, a, b⟩ := Rvs.get r.uncons.2 (i := i) (by simpa using e)
    exact ⟨u, by simpa using a, b⟩
theorem Rvs.app {h : Heap} : ∀ {vs us : List Value} {ds es : List PyData}, Rvs h vs ds → Rvs h us es → Rvs h (vs ++ us) (ds ++ es)
  | [], _, [], _, _, r => r
  | [], _, _ :: _, _, ⟨⟨_, q⟩, _⟩, _ => nomatch q
  | _ :: _, _, [], _, ⟨⟨_, q⟩, _⟩, _ => nomatch q
  | _ :: _, _, _ :: _, _, r, r' => rvs_cons r.uncons.1 (Rvs.app r.uncons.2 r')
/-- a list -/
theorem Rv.list {h : Heap} {v : Value} {ds : List PyData} (r : Rv h v (.list ds)) : ∃ a vs, v = .ref a ∧ h.IsList a vs ∧ Rvs h vs.toList ds := by
  obtain ⟨⟨_, q⟩, n⟩ := r
  unfold nd at n
  cases q with
  | list h1 h2 h3 h4 => exact ⟨_, _, rfl, ⟨_, h1, h2, _, h3⟩, ⟨_, h4⟩, n⟩
theorem rv_list {h : Heap} {a : Addr} {vs : Array Value} {ds : List PyData} (hl : h.IsList a vs) (r : Rvs h vs.toList ds) : Rv h (.ref a) (.list ds) := by
  obtain ⟨o, h1, h2, n, h3⟩ := hl
  obtain ⟨⟨_, q⟩, nn⟩ := r
  exact ⟨⟨_, .list h1 h2 h3 q⟩, by unfold nd; exact nn⟩
theorem rv_list_push {h : Heap} {vs : Array Value} {n : Nat} {ds : List PyData} (r : Rvs h vs.toList ds) : Rv (h.push { cls := .type "list", data := .seq vs n }) (.ref h.objs.size) (.list ds) :=
  rv_list ⟨_, Heap.get?_push_size _ rfl, rfl, n, rfl⟩ (r.keep fun _ _ e => Heap.get?_push_of_some _ e)
theorem rv_tuple_push {h : Heap} {vs : Array Value} {n : Nat} {ds : List PyData} (r : Rvs h vs.toList ds) : Rv (h.push { cls := .type "tuple", data := .seq vs n }) (.ref h.objs.size) (.tuple ds) := by
  obtain ⟨⟨_, q⟩, nn⟩ := r.keep (h' := h.push { cls := .type "tuple", data := .seq vs n }) fun _ _ e => Heap.get?_push_of_some _ e
  exact ⟨⟨_, .tuple (Heap.get?_push_size _ rfl) rfl rfl q⟩, by unfold nd; exact nn⟩
theorem Rv.tuple {h : Heap} {v : Value} {ds : List PyData} (r : Rv h v (.tuple ds)) : ∃ a o vs n, v = .ref a ∧ h.get? a = some o ∧ o.cls = .type "tuple" ∧ o.data = .seq vs n ∧ Rvs h vs.toList ds := by
  obtain ⟨⟨_, q⟩, n⟩ := r
  unfold nd at n
  cases q with
  | tuple h1 h2 h3 h4 => exact ⟨_, _, _, _, rfl, h1, h2, h3, ⟨_, h4⟩, n⟩

section
variable {w : World} {A : Around} {env : Env} {s : Shared}

/-- evaluated from any state that keeps s: nothing changes, and the value is so -/
def Ev (w : World) (A : Around) (env : Env) (s : Shared) (e : PySem.Expr) (P : Heap → Value → Prop) : Prop :=
  ∀ (s' : Shared) (Q : Value → Shared → Prop) (E : Value → Shared → Prop), HK s s' → (∀ v s'', Keeps s' s'' → P s''.heap v → Q v s'') → wpAny (model pw w) A (eval e env) Q E s'
/-- it reads as the datum -/
abbrev Ed (w : World) (A : Around) (env : Env) (s : Shared) (e : PySem.Expr) (d : PyData) : Prop := Ev w A env s e (fun h v => Rv h v d)
def Ts (w : World) (A : Around) (env : Env) (s : Shared) (e : PySem.Expr) (b : Bool) : Prop :=
  ∀ (s' : Shared) (Q : Bool → Shared → Prop) (E : Value → Shared → Prop), HK s s' → (∀ s'', Keeps s' s'' → Q b s'') → wpAny (model pw w) A (isTrue e env (eval e env)) Q E s'

theorem Ev.up {e : PySem.Expr} {P : Heap → Value → Prop} {s₁ : Shared} (h : Ev w A env s e P) (k : HK s s₁) : Ev w A env s₁ e P := fun s' Q E k' q => h s' Q E (hk2 k k') q
theorem Ts.up {e : PySem.Expr} {b : Bool} {s₁ : Shared} (h : Ts w A env s e b) (k : HK s s₁) : Ts w A env s₁ e b := fun s' Q E k' q => h s' Q E (hk2 k k') q
theorem Ed.eq {e : PySem.Expr} {d d' : PyData} (h : Ed w A env s e d) (hd : d = d') : Ed w A env s e d' := hd ▸ h
theorem Ts.eq {e : PySem.Expr} {b b' : Bool} (h : Ts w A env s e b) (hb : b = b') : Ts w A env s e b' := hb ▸ h

theorem ed_int {n : Int} {k : Nat} {pos : Pos} : Ed w A env s (.Constant (.int n) k pos) (.int n) := fun s' Q E _ q => wpAny_Constant_int (q _ _ (kp_tok _) (rv_int _ _ _))
theorem ed_str {x : Str} {k : Nat} {pos : Pos} : Ed w A env s (.Constant (.str x) k pos) (.str x) := fun s' Q E _ q => Constant_str (q _ _ (kp_tok _) (rv_str _ _ _))

/-- two in a row -/
theorem two {a b : PySem.Expr} {da db : PyData} {s' : Shared} {E : Value → Shared → Prop} (ha : Ed w A env s a da) (hb : Ed w A env s b db) (k : HK s s') {R : Value → Value → Shared → Prop}
    (h : ∀ u v s'', Keeps s' s'' → Rv s''.heap u da → Rv s''.heap v db → R u v s'') : wpAny (model pw w) A (eval a env) (fun u s₁ => wpAny (model pw w) A (eval b env) (fun v s₂ => R u v s₂) E s₁) E s' :=
  ha s' _ _ k fun u s₁ k₁ r₁ => hb s₁ _ _ (hk k k₁) fun v s₂ k₂ r₂ => h u v s₂ (kp_trans k₁ k₂) (r₁.kp k₂) r₂

theorem ed_bin {a b : PySem.Expr} {op : Operator} {pos : Pos} {da db : PyData} {P : Heap → Value → Prop} (ha : Ed w A env s a da) (hb : Ed w A env s b db)
    (h : ∀ u v (s' : Shared) (Q : Value → Shared → Prop) (E : Value → Shared → Prop), Rv s'.heap u da → Rv s'.heap v db → (∀ x s'', Keeps s' s'' → P s''.heap x → Q x s'') → wpAny (model pw w) A (binaryOp op u v) Q E s') : Ev w A env s (.BinOp a op b pos) P :=
  fun s' Q E k q => wpAny_BinOp (two ha hb k fun u v s'' k'' ru rv => h u v s'' Q E ru rv fun x s₃ k₃ r => q x s₃ (kp_trans k'' k₃) r)
theorem ed_cmp {a b : PySem.Expr} {op : CmpOp} {pos : Pos} {da db : PyData} {c : Bool} (ha : Ed w A env s a da) (hb : Ed w A env s b db)
    (h : ∀ u v (s' : Shared) (Q : Value → Shared → Prop) (E : Value → Shared → Prop), Rv s'.heap u da → Rv s'.heap v db → (∀ s'', Keeps s' s'' → Q (.bool c) s'') → wpAny (model pw w) A (compareOp op u v) Q E s') (hm : behindInMarks op b = false := by rfl) : Ed w A env s (.Compare a [op] [b] pos) (.bool c) :=
  fun s' Q E k q => wpAny_Compare1 (two ha hb k fun u v s'' k'' ru rv => h u v s'' Q E ru rv fun s₃ k₃ => q _ s₃ (kp_trans k'' k₃) (rv_bool _ _)) hm
theorem ts_cmp {a b : PySem.Expr} {op : CmpOp} {pos : Pos} {da db : PyData} {c : Bool} (ha : Ed w A env s a da) (hb : Ed w A env s b db)
    (h : ∀ u v (s' : Shared) (Q : Value → Shared → Prop) (E : Value → Shared → Prop), Rv s'.heap u da → Rv s'.heap v db → (∀ s'', Keeps s' s'' → Q (.bool c) s'') → wpAny (model pw w) A (compareOp op u v) Q E s') (hm : behindInMarks op b = false := by rfl) : Ts w A env s (.Compare a [op] [b] pos) c :=
  fun s' Q E k q => wpAny_isTrue_Compare1 (two ha hb k fun u v s'' k'' ru rv => h u v s'' _ E ru rv fun s₃ k₃ => wpAny_truthy_bool (q s₃ (kp_trans k'' k₃))) hm

/-! ints -/
theorem ed_add {a b : PySem.Expr} {x y : Int} {pos : Pos} (ha : Ed w A env s a (.int x)) (hb : Ed w A env s b (.int y)) : Ed w A env s (.BinOp a .Add b pos) (.int (x + y)) :=
  ed_bin ha hb fun u v s' Q E ru rv q => by obtain ⟨_, rfl⟩ := ru.int; obtain ⟨_, rfl⟩ := rv.int; exact add_int (q _ _ (kp_tok _) (rv_int _ _ _))
theorem ed_sub {a b : PySem.Expr} {x y : Int} {pos : Pos} (ha : Ed w A env s a (.int x)) (hb : Ed w A env s b (.int y)) : Ed w A env s (.BinOp a .Sub b pos) (.int (x - y)) :=
  ed_bin ha hb fun u v s' Q E ru rv q => by obtain ⟨_, rfl⟩ := ru.int; obtain ⟨_, rfl⟩ := rv.int; exact sub_int (q _ _ (kp_tok _) (rv_int _ _ _))
end
end Mine
end
noncomputable section
open PySem PySem.W PyProof.Rows PySem.Calls
set_option Elab.async false
set_option maxRecDepth 100000
set_option linter.unusedVariables false
namespace Mine
section
variable {w : World} {A : Around} {env : Env} {s : Shared}

/-! comparisons of ints, of data -/
theorem c_lt {x y : Int} : ∀ u v (s' : Shared) (Q : Value → Shared → Prop) (E : Value → Shared → Prop), Rv s'.heap u (.int x) → Rv s'.heap v (.int y) → (∀ s'', Keeps s' s'' → Q (.bool (decide (x < y))) s'') → wpAny (model pw w) A (compareOp .Lt u v) Q E s' :=
  fun u v s' Q E ru rv q => by obtain ⟨_, rfl⟩ := ru.int; obtain ⟨_, rfl⟩ := rv.int; exact lt_int (q _ (kp_refl _))
theorem c_gt {x y : Int} : ∀ u v (s' : Shared) (Q : Value → Shared → Prop) (E : Value → Shared → Prop), Rv s'.heap u (.int x) → Rv s'.heap v (.int y) → (∀ s'', Keeps s' s'' → Q (.bool (decide (y < x))) s'') → wpAny (model pw w) A (compareOp .Gt u v) Q E s' :=
  fun u v s' Q E ru rv q => by obtain ⟨_, rfl⟩ := ru.int; obtain ⟨_, rfl⟩ := rv.int; exact gt_int (q _ (kp_refl _))
theorem c_le {x y : Int} : ∀ u v (s' : Shared) (Q : Value → Shared → Prop) (E : Value → Shared → Prop), Rv s'.heap u (.int x) → Rv s'.heap v (.int y) → (∀ s'', Keeps s' s'' → Q (.bool (decide (x ≤ y))) s'') → wpAny (model pw w) A (compareOp .LtE u v) Q E s' :=
  fun u v s' Q E ru rv q => by obtain ⟨_, rfl⟩ := ru.int; obtain ⟨_, rfl⟩ := rv.int; exact le_int (q _ (kp_refl _))
theorem c_ge {x y : Int} : ∀ u v (s' : Shared) (Q : Value → Shared → Prop) (E : Value → Shared → Prop), Rv s'.heap u (.int x) → Rv s'.heap v (.int y) → (∀ s'', Keeps s' s'' → Q (.bool (decide (y ≤ x))) s'') → wpAny (model pw w) A (compareOp .GtE u v) Q E s' :=
  fun u v s' Q E ru rv q => by obtain ⟨_, rfl⟩ := ru.int; obtain ⟨_, rfl⟩ := rv.int; exact ge_int (q _ (kp_refl _))
theorem c_eqi {x y : Int} : ∀ u v (s' : Shared) (Q : Value → Shared → Prop) (E : Value → Shared → Prop), Rv s'.heap u (.int x) → Rv s'.heap v (.int y) → (∀ s'', Keeps s' s'' → Q (.bool (x == y)) s'') → wpAny (model pw w) A (compareOp .Eq u v) Q E s' :=
  fun u v s' Q E ru rv q => by obtain ⟨_, rfl⟩ := ru.int; obtain ⟨_, rfl⟩ := rv.int; exact eq_int (q _ (kp_refl _))
theorem c_eq {x y : PyData} (hx : SeqAt.shaped x = true) (hy : SeqAt.shaped y = true) (hu : A.units + 64 < cLine) : ∀ u v (s' : Shared) (Q : Value → Shared → Prop) (E : Value → Shared → Prop), Rv s'.heap u x → Rv s'.heap v y → (∀ s'', Keeps s' s'' → Q (.bool (PyData.eqv x y)) s'') → wpAny (model pw w) A (compareOp .Eq u v) Q E s' :=
  fun u v s' Q E ⟨⟨_, ru⟩, _⟩ ⟨⟨_, rv⟩, _⟩ q => eq_dataH ru rv hx hy hu (q _ (kp_refl _))
theorem c_ne {x y : PyData} (hx : SeqAt.shaped x = true) (hy : SeqAt.shaped y = true) (hu : A.units + 64 < cLine) : ∀ u v (s' : Shared) (Q : Value → Shared → Prop) (E : Value → Shared → Prop), Rv s'.heap u x → Rv s'.heap v y → (∀ s'', Keeps s' s'' → Q (.bool (!PyData.eqv x y)) s'') → wpAny (model pw w) A (compareOp .NotEq u v) Q E s' :=
  fun u v s' Q E ⟨⟨_, ru⟩, _⟩ ⟨⟨_, rv⟩, _⟩ q => ne_dataH ru rv hx hy hu (q _ (kp_refl _))
theorem c_lts {x y : Str} : ∀ u v (s' : Shared) (Q : Value → Shared → Prop) (E : Value → Shared → Prop), Rv s'.heap u (.str x) → Rv s'.heap v (.str y) → (∀ s'', Keeps s' s'' → Q (.bool (decide (x.cps.toList < y.cps.toList))) s'') → wpAny (model pw w) A (compareOp .Lt u v) Q E s' :=
  fun u v s' Q E ru rv q => by obtain ⟨_, rfl⟩ := ru.str; obtain ⟨_, rfl⟩ := rv.str; exact lt_str (q _ (kp_refl _))
theorem c_les {x y : Str} : ∀ u v (s' : Shared) (Q : Value → Shared → Prop) (E : Value → Shared → Prop), Rv s'.heap u (.str x) → Rv s'.heap v (.str y) → (∀ s'', Keeps s' s'' → Q (.bool (!decide (y.cps.toList < x.cps.toList))) s'') → wpAny (model pw w) A (compareOp .LtE u v) Q E s' :=
  fun u v s' Q E ru rv q => by obtain ⟨_, rfl⟩ := ru.str; obtain ⟨_, rfl⟩ := rv.str; exact PySem.P.le_str (q _ (kp_refl _))

/-! truth -/
theorem ts_plain {e : PySem.Expr} {b : Bool} (h : Ed w A env s e (.bool b))
    (hp : isTrue e env (eval e env) = (do let v ← eval e env; standAt e.pos; holding [v] (truthy v)) := by rfl) : Ts w A env s e b :=
  fun s' Q E k q => isTrue_plain (h s' _ _ k fun v s₁ k₁ r => by rw [r.bool]; exact wpAny_truthy_bool (q _ k₁)) hp
theorem ts_not {e : PySem.Expr} {b : Bool} {pos : Pos} (h : Ts w A env s e b) : Ts w A env s (.UnaryOp .Not e pos) (!b) :=
  fun s' Q E k q => isTrue_not (h s' _ _ k fun s₁ k₁ => q _ k₁)
theorem ts_and {a b : PySem.Expr} {x y : Bool} {pos : Pos} (ha : Ts w A env s a x) (hb : x = true → Ts w A env s b y) : Ts w A env s (.BoolOp .And [a, b] pos) (x && y) :=
  fun s' Q E k q => isTrue_and (ha s' _ _ k fun s₁ k₁ => by
    cases x with
    | false => exact q _ k₁
    | true => exact isTrue_and (hb rfl s₁ _ _ (hk k k₁) fun s₂ k₂ => by
        cases y with
        | false => exact q _ (kp_trans k₁ k₂)
        | true => exact isTrue_and_nil (q _ (kp_trans k₁ k₂))))
theorem ts_or {a b : PySem.Expr} {x y : Bool} {pos : Pos} (ha : Ts w A env s a x) (hb : x = false → Ts w A env s b y) : Ts w A env s (.BoolOp .Or [a, b] pos) (x || y) :=
  fun s' Q E k q => isTrue_or (ha s' _ _ k fun s₁ k₁ => by
    cases x with
    | true => exact q _ k₁
    | false => exact isTrue_or (hb rfl s₁ _ _ (hk k k₁) fun s₂ k₂ => by
        cases y with
        | true => exact q _ (kp_trans k₁ k₂)
        | false => exact isTrue_or_nil (q _ (kp_trans k₁ k₂))))
theorem ts_and3 {a b c : PySem.Expr} {x y z : Bool} {pos : Pos} (ha : Ts w A env s a x) (hb : x = true → Ts w A env s b y) (hc : x = true → y = true → Ts w A env s c z) : Ts w A env s (.BoolOp .And [a, b, c] pos) (x && (y && z)) :=
  fun s' Q E k q => isTrue_and (ha s' _ _ k fun s₁ k₁ => by
    cases x with
    | false => exact q _ k₁
    | true => exact isTrue_and (hb rfl s₁ _ _ (hk k k₁) fun s₂ k₂ => by
        cases y with
        | false => exact q _ (kp_trans k₁ k₂)
        | true => exact isTrue_and (hc rfl rfl s₂ _ _ (hk k (kp_trans k₁ k₂)) fun s₃ k₃ => by
            cases z with
            | false => exact q _ (kp_trans k₁ (kp_trans k₂ k₃))
            | true => exact isTrue_and_nil (q _ (kp_trans k₁ (kp_trans k₂ k₃))))))
theorem ed_and {a b : PySem.Expr} {x y : Bool} {pos : Pos} (ha : Ed w A env s a (.bool x)) (hb : x = true → Ed w A env s b (.bool y)) : Ed w A env s (.BoolOp .And [a, b] pos) (.bool (x && y)) :=
  fun s' Q E k q => BoolOp_and (ha s' _ _ k fun v s₁ k₁ r => by
    rw [r.bool]
    refine wpAny_truthy_bool ?_
    cases x with
    | false => exact q _ _ k₁ (rv_bool _ _)
    | true => exact BoolOp_one (hb rfl s₁ _ _ (hk k k₁) fun v s₂ k₂ r₂ => q _ _ (kp_trans k₁ k₂) r₂))
theorem ed_if {t a b : PySem.Expr} {x : Bool} {d : PyData} {pos : Pos} (ht : Ts w A env s t x) (ha : x = true → Ed w A env s a d) (hb : x = false → Ed w A env s b d) : Ed w A env s (.IfExp t a b pos) d :=
  fun s' Q E k q => IfExp_ (ht s' _ _ k fun s₁ k₁ => by
    cases x with
    | true => exact ha rfl s₁ _ _ (hk k k₁) fun v s₂ k₂ r => q _ _ (kp_trans k₁ k₂) r
    | false => exact hb rfl s₁ _ _ (hk k k₁) fun v s₂ k₂ r => q _ _ (kp_trans k₁ k₂) r)

/-! calls of built-ins -/
theorem ev_call1 {f e : PySem.Expr} {id : String} {pos : Pos} {d : PyData} {P : Heap → Value → Prop} (hf : Ev w A env s f (fun _ v => v = .builtin id)) (he : Ed w A env s e d)
    (h : ∀ u (s' : Shared) (Q : Value → Shared → Prop) (E : Value → Shared → Prop), Rv s'.heap u d → (∀ x s'', Keeps s' s'' → P s''.heap x → Q x s'') → wpAny (model pw w) A (call (.builtin id) [u]) Q E s')
    (hc : eval (.Call f [e] [] pos) env = (do callWith pos (← eval f env) [] (backTo pos (starEach [e] env)) (backToKw pos (keywordEach [] env))) := by rfl)
    (hs : starEach [e] env = (false, eval e env) :: starEach [] env := by rfl) : Ev w A env s (.Call f [e] [] pos) P :=
  fun s' Q E k q => Call_ (hf s' _ _ k fun v s₁ k₁ hv => by
    subst hv
    refine callWith_builtin1 (args_cons (he s₁ _ _ (hk k k₁) fun u s₂ k₂ ru => args_nil ?_) hs) hs
    exact h u s₂ Q E ru fun x s₃ k₃ r => q _ _ (kp_trans k₁ (kp_trans k₂ k₃)) r) hc
theorem ev_callT {f e : PySem.Expr} {T : String} {pos : Pos} {P₁ P : Heap → Value → Prop} (hf : Ev w A env s f (fun _ v => v = .type T)) (he : Ev w A env s e P₁)
    (h : ∀ u (s' : Shared) (Q : Value → Shared → Prop) (E : Value → Shared → Prop), P₁ s'.heap u → (∀ x s'', Keeps s' s'' → P s''.heap x → Q x s'') → wpAny (model pw w) A (call (.type T) [u]) Q E s')
    (hc : eval (.Call f [e] [] pos) env = (do callWith pos (← eval f env) [] (backTo pos (starEach [e] env)) (backToKw pos (keywordEach [] env))) := by rfl)
    (hs : starEach [e] env = (false, eval e env) :: starEach [] env := by rfl) : Ev w A env s (.Call f [e] [] pos) P :=
  fun s' Q E k q => Call_ (hf s' _ _ k fun v s₁ k₁ hv => by
    subst hv
    refine PyProof.Rows.callWith_type1 (args_cons (he s₁ _ _ (hk k k₁) fun u s₂ k₂ ru => args_nil ?_) hs) hs
    exact h u s₂ Q E ru fun x s₃ k₃ r => q _ _ (kp_trans k₁ (kp_trans k₂ k₃)) r) hc

theorem ed_len_str {f e : PySem.Expr} {pos : Pos} {x : Str} (hf : Ev w A env s f (fun _ v => v = .builtin "len")) (he : Ed w A env s e (.str x)) (hx : x.length < 2 ^ 63)
    (hc : eval (.Call f [e] [] pos) env = (do callWith pos (← eval f env) [] (backTo pos (starEach [e] env)) (backToKw pos (keywordEach [] env))) := by rfl)
    (hs : starEach [e] env = (false, eval e env) :: starEach [] env := by rfl) : Ed w A env s (.Call f [e] [] pos) (.int x.length) :=
  ev_call1 hf he (fun u s' Q E ru q => by obtain ⟨_, rfl⟩ := ru.str; exact len_str (by omega) (q _ _ (kp_tok _) (rv_int _ _ _))) hc hs
theorem ed_len_list {f e : PySem.Expr} {pos : Pos} {ds : List PyData} (hf : Ev w A env s f (fun _ v => v = .builtin "len")) (he : Ed w A env s e (.list ds)) (hx : ds.length < 2 ^ 63)
    (hc : eval (.Call f [e] [] pos) env = (do callWith pos (← eval f env) [] (backTo pos (starEach [e] env)) (backToKw pos (keywordEach [] env))) := by rfl)
    (hs : starEach [e] env = (false, eval e env) :: starEach [] env := by rfl) : Ed w A env s (.Call f [e] [] pos) (.int ds.length) :=
  ev_call1 hf he (fun u s' Q E ru q => by
    obtain ⟨a, vs, rfl, hl, r⟩ := ru.list
    have hn : vs.size = ds.length := by rw [← Array.length_toList]; exact r.length
    refine len_list hl (by rw [hn]; omega) ?_
    rw [hn]; exact q _ _ (kp_tok _) (rv_int _ _ _)) hc hs

/-! items and parts -/
theorem ed_sub1 {e i : PySem.Expr} {pos : Pos} {d di : PyData} {P : Heap → Value → Prop} (he : Ed w A env s e d) (hi : Ed w A env s i di)
    (h : ∀ u v (s' : Shared) (Q : Value → Shared → Prop) (E : Value → Shared → Prop), Rv s'.heap u d → Rv s'.heap v di → (∀ x s'', Keeps s' s'' → P s''.heap x → Q x s'') → wpAny (model pw w) A (subscriptTail e i u v) Q E s') : Ev w A env s (.Subscript e i pos) P :=
  fun s' Q E k q => Subscript_ (two he hi k fun u v s'' k'' ru rv => h u v s'' Q E ru rv fun x s₃ k₃ r => q x s₃ (kp_trans k'' k₃) r)
theorem ed_item {e i : PySem.Expr} {pos : Pos} {ds : List PyData} {n : Int} {d : PyData} (he : Ed w A env s e (.list ds)) (hi : Ed w A env s i (.int n)) (h0 : 0 ≤ n) (hn : n < 2 ^ 63) (hd : ds[n.toNat]? = some d)
    (hs : ∀ o i', subscripted i false o i' = operate [o, i'] (getItem o i') := by intro _ _; rfl) (ht : ∀ o r, letTemporaryGo e o r = pure () := by intro _ _; rfl) : Ed w A env s (.Subscript e i pos) d :=
  ed_sub1 he hi fun u v s' Q E ru rv q => by
    obtain ⟨a, vs, rfl, hl, r⟩ := ru.list
    obtain ⟨_, rfl⟩ := rv.int
    obtain ⟨x, hx, rx⟩ := r.get hd
    exact subscriptTail_builtin hl.typeIs slot_list_getitem.lookup (wpAny_getItem_list hl h0 hn (by simpa using hx) (q _ _ (kp_refl _) rx)) (hs _ _) (fun r => ht _ r)
theorem ed_sign {e i : PySem.Expr} {pos : Pos} {x : Str} {n : Int} {c : Nat} (he : Ed w A env s e (.str x)) (hi : Ed w A env s i (.int n)) (h0 : 0 ≤ n) (hn : n < 2 ^ 63) (hd : x.cps[n.toNat]? = some c)
    (hs : ∀ o i', subscripted i false o i' = operate [o, i'] (getItem o i') := by intro _ _; rfl) (ht : ∀ x t r, letTemporaryGo e (.str x t) r = pure () := by intro _ _ _; rfl) : Ed w A env s (.Subscript e i pos) (.str ⟨#[c]⟩) :=
  ed_sub1 he hi fun u v s' Q E ru rv q => by
    obtain ⟨_, rfl⟩ := ru.str
    obtain ⟨_, rfl⟩ := rv.int
    have hlt : n.toNat < x.cps.size := by
      rcases Nat.lt_or_ge n.toNat x.cps.size with h | h
      · exact h
      · rw [Array.getElem?_eq_none h] at hd; cases hd
    have hix : (seqIndex? n x.length).bind (x.cps[·]?) = some c := by
      have : seqIndex? n x.length = some n.toNat := by
        unfold seqIndex?
        have h2 : n < (x.length : Int) := by show n < (x.cps.size : Int); omega
        simp
        omega
      rw [this]; exact hd
    exact subscriptTail_builtin (typeIs_str _ _ _) PySem.F.slot_str_getitem.lookup (getItem_str (by simp; omega) hix (q _ _ (kp_tok _) (rv_str _ _ _))) (hs _ _) (fun r => ht _ _ r)
end
end Mine
end
noncomputable section
open PySem PySem.W PyProof.Rows PySem.Calls
set_option Elab.async false
set_option maxRecDepth 100000
set_option linter.unusedVariables false
namespace Mine
section
variable {w : World} {A : Around} {env : Env} {s : Shared}

/-! displays -/
theorem ed_tuple3 {a b c : PySem.Expr} {x y z : PyData} {k : Nat} {pos : Pos} (ha : Ed w A env s a x) (hb : Ed w A env s b y) (hc : Ed w A env s c z)
    (h1 : starEach [a, b, c] env = (false, eval a env) :: starEach [b, c] env := by rfl) (h2 : starEach [b, c] env = (false, eval b env) :: starEach [c] env := by rfl) (h3 : starEach [c] env = (false, eval c env) :: starEach [] env := by rfl) :
    Ed w A env s (.Tuple [a, b, c] k pos) (.tuple [x, y, z]) :=
  fun s' Q E kk q => Tuple_ (args_cons (ha s' _ _ kk fun u s₁ k₁ r₁ => args_cons (hb s₁ _ _ (hk kk k₁) fun v s₂ k₂ r₂ => args_cons (hc s₂ _ _ (hk kk (kp_trans k₁ k₂)) fun t s₃ k₃ r₃ => args_nil (by
    refine wpAny_newObj_type ?_ (by show (3 : Nat) ≤ sizeLine; rw [sizeLine_eq]; omega)
    exact q _ _ (kp_trans k₁ (kp_trans k₂ (kp_trans k₃ (kp_push _ _)))) (rv_tuple_push (rvs_cons (r₁.kp (kp_trans k₂ k₃)) (rvs_cons (r₂.kp k₃) (rvs_cons r₃ (rvs_nil _))))))) h3) h2) h1)
theorem ed_list0 {pos : Pos} : Ed w A env s (.List [] pos) (.list []) :=
  fun s' Q E kk q => List_ (args_nil (by
    refine wpAny_newObj_type ?_ (by show (0 : Nat) ≤ sizeLine; omega)
    exact q _ _ (kp_push _ _) (rv_list_push (rvs_nil _))))
theorem ed_list1 {a : PySem.Expr} {x : PyData} {pos : Pos} (ha : Ed w A env s a x) (h3 : starEach [a] env = (false, eval a env) :: starEach [] env := by rfl) : Ed w A env s (.List [a] pos) (.list [x]) :=
  fun s' Q E kk q => List_ (args_cons (ha s' _ _ kk fun u s₁ k₁ r₁ => args_nil (by
    refine wpAny_newObj_type ?_ (by show (1 : Nat) ≤ sizeLine; rw [sizeLine_eq]; omega)
    exact q _ _ (kp_trans k₁ (kp_push _ _)) (rv_list_push (rvs_cons r₁ (rvs_nil _))))) h3)
/-- all of a list display's, each by itself -/
inductive Eds (w : World) (A : Around) (env : Env) (s : Shared) : List PySem.Expr → List PyData → Prop
  | nil : Eds w A env s [] []
  | cons {e : PySem.Expr} {r : List PySem.Expr} {d : PyData} {ds : List PyData} : Ed w A env s e d → starEach (e :: r) env = (false, eval e env) :: starEach r env → Eds w A env s r ds → Eds w A env s (e :: r) (d :: ds)
theorem eds_all {pos : Pos} : ∀ {es : List PySem.Expr} {ds : List PyData}, Eds w A env s es ds → ∀ (s' : Shared) (Q : List Value → Shared → Prop) (E : Value → Shared → Prop), HK s s' → (∀ vs s'', Keeps s' s'' → Rvs s''.heap vs ds → Q vs s'') →
    wpAny (model pw w) A (spliced (backTo pos (starEach es env))) Q E s'
  | _, _, .nil, s', Q, E, k, q => args_nil (q _ _ (kp_refl _) (rvs_nil _))
  | _, _, .cons h1 h2 h3, s', Q, E, k, q => args_cons (h1 s' _ _ k fun u s₁ k₁ r₁ => eds_all h3 s₁ _ _ (hk k k₁) fun vs s₂ k₂ r₂ => q _ _ (kp_trans k₁ k₂) (rvs_cons (r₁.kp k₂) r₂)) h2
theorem ed_list {es : List PySem.Expr} {ds : List PyData} {pos : Pos} (h : Eds w A env s es ds) (hz : ds.length ≤ sizeLine) : Ed w A env s (.List es pos) (.list ds) :=
  fun s' Q E k q => List_ (eds_all h s' _ _ k fun vs s'' k'' r => by
    refine wpAny_newObj_type ?_ (by show vs.toArray.size ≤ sizeLine; rw [List.size_toArray, r.length]; exact hz)
    exact q _ _ (kp_trans k'' (kp_push _ _)) (rv_list_push (by simpa using r)))

/-! sums of lists, of texts -/
theorem ed_cat {a b : PySem.Expr} {xs ys : List PyData} {pos : Pos} (ha : Ed w A env s a (.list xs)) (hb : Ed w A env s b (.list ys)) (hz : xs.length + ys.length ≤ sizeLine) : Ed w A env s (.BinOp a .Add b pos) (.list (xs ++ ys)) :=
  ed_bin ha hb fun u v s' Q E ru rv q => by
    obtain ⟨l, vs, rfl, hl, r1⟩ := ru.list
    obtain ⟨b', ws, rfl, hb', r2⟩ := rv.list
    obtain ⟨⟨cls, dd, data, sl⟩, ho, hc, n, hd⟩ := id hl
    obtain ⟨⟨cls2, dd2, data2, sl2⟩, ho2, hc2, n2, hd2⟩ := id hb'
    simp only at hc hd hc2 hd2
    subst hc hd hc2 hd2
    have e1 : vs.size = xs.length := by rw [← Array.length_toList]; exact r1.length
    have e2 : ws.size = ys.length := by rw [← Array.length_toList]; exact r2.length
    refine concat_meets ⟨_, ho, rfl⟩ ⟨_, ho2, rfl⟩ noFill_list_add seq_list_add PySem.F.slot_list_add PySem.F.entry_list_add (PySem.F.args_list_add_2 _ _) (list_addW l b' vs ws n n2 dd dd2 sl sl2 (by omega)) ⟨ho, ho2, ?_⟩
    exact q _ _ (kp_push _ _) (rv_list_push (by simpa using r1.app r2))
theorem ed_cats {a b : PySem.Expr} {x y : Str} {pos : Pos} (ha : Ed w A env s a (.str x)) (hb : Ed w A env s b (.str y)) (hz : x.length + y.length ≤ sizeLine) : Ed w A env s (.BinOp a .Add b pos) (.str (x ++ y)) :=
  ed_bin ha hb fun u v s' Q E ru rv q => by
    obtain ⟨_, rfl⟩ := ru.str
    obtain ⟨_, rfl⟩ := rv.str
    exact add_str (fun t' tk => q _ _ (kp_tok _) (rv_str _ _ _)) hz
end
end Mine
end
noncomputable section
open PySem PySem.W PyProof.Rows PySem.Calls PySem.Builtin.Str
set_option Elab.async false
set_option maxRecDepth 100000
set_option linter.unusedVariables false
namespace Mine
/-- a word as a text -/
abbrev tx (w : List Nat) : Str := ⟨w.toArray⟩
abbrev St' (w : List Nat) : PyData := .str ⟨w.toArray⟩
theorem tx_len (w : List Nat) : (tx w).length = w.length := by show w.toArray.size = _; simp
section
variable {w : World} {A : Around} {env : Env} {s : Shared}

/-- a bound of a part: left out, or an int -/
inductive Pt (w : World) (A : Around) (env : Env) (s : Shared) : Option PySem.Expr → Option Int → Prop
  | none : Pt w A env s none none
  | some {e : PySem.Expr} {n : Int} : Ed w A env s e (.int n) → Pt w A env s (some e) (some n)
theorem pt_ev {x : Option PySem.Expr} {k : Option Int} (h : Pt w A env s x k) (s' : Shared) (Q : Value → Shared → Prop) (E : Value → Shared → Prop) (kk : HK s s')
    (q : ∀ p : Option (Int × Tok), p.map (·.1) = k → ∀ s'', Keeps s' s'' → Q (partValue p) s'') : wpAny (model pw w) A (evalPart x env) Q E s' := by
  cases h with
  | none => rw [evalPart_none]; exact wpAny_pure (q none rfl _ (kp_refl _))
  | some h => rw [evalPart_some]; exact h s' _ _ kk fun v s₁ k₁ r => by obtain ⟨t, rfl⟩ := r.int; exact q (some (_, t)) rfl _ k₁
theorem isPart_of (p : Option (Int × Tok)) : IsPart (partValue p) (p.map (·.1)) := by
  cases p with
  | none => exact .none
  | some x => exact .int _ _

/-- where a bound stands -/
def at_ (n : Nat) (d : Nat) : Option Int → Nat
  | none => d
  | some i => clipAt n i

theorem rvs_take_drop {h : Heap} : ∀ {vs : List Value} {ds : List PyData}, Rvs h vs ds → ∀ a, Rvs h (vs.drop a) (ds.drop a) ∧ Rvs h (vs.take a) (ds.take a)
  | [], [], r, a => by simp; exact rvs_nil _
  | [], _ :: _, ⟨⟨_, q⟩, _⟩, _ => nomatch q
  | _ :: _, [], ⟨⟨_, q⟩, _⟩, _ => nomatch q
  | v :: vs, d :: ds, r, 0 => by simp; exact ⟨r, rvs_nil _⟩
  | v :: vs, d :: ds, r, a + 1 => by
    have ih := rvs_take_drop r.uncons.2 a
    simp
    exact ⟨ih.1, rvs_cons r.uncons.1 ih.2⟩

theorem sub_slice {value : PySem.Expr} {lower upper : Option PySem.Expr} {p pos : Pos} {T id : String} {Q : Value → Shared → Prop} {E : Value → Shared → Prop}
    (hl : typeLookup (.type T) "__getitem__" = pure (some (.builtin id)))
    (h : wpAny (model pw w) A (eval value env) (fun o s₁ => wpAny (model pw w) A (eval (.Slice lower upper none p) env) (fun i s₂ => s₂.TypeIs o T ∧ wpAny (model pw w) A (getItem o i) Q E s₂) E s₁) E s) :
    wpAny (model pw w) A (eval (.Subscript value (.Slice lower upper none p) pos) env) Q E s := by
  rw [eval_Subscript]
  refine wpAny_bind (wpAny_mono h (fun o s₁ h₁ => wpAny_bind (wpAny_holding (wpAny_mono h₁ (fun i s₂ h₂ => wpAny_bind (wpAny_standAt ?_)) fun _ _ x => x)))
    fun _ _ x => x)
  have fin : wpAny (model pw w) A (operate [i, o] (getItem o i)) (fun r s₃ => wpAny (model pw w) A (letTemporaryGo value o r >>= fun _ => pure r) Q E s₃) E s₂ :=
    wpAny_operating (wpAny_mono h₂.2 (fun r s₃ h₃ => wpAny_bind (wpAny_letTemporaryGo (wpAny_pure h₃))) fun _ _ x => x)
  first
    | (refine wpAny_bind ?_
       rw [getitemInPython_of_ne h₂.1.not_modules]
       refine wpAny_bind (wpAny_specialOf h₂.1 hl ?_)
       first
         | exact wpAny_pure (wpAny_bind fin)
         | exact wpAny_bind (wpAny_pure (wpAny_bind fin))
         | exact wpAny_bind fin)
    | (refine wpAny_bind (wpAny_specialOf h₂.1 hl ?_)
       first
         | exact wpAny_bind (wpAny_pure (wpAny_bind fin))
         | exact wpAny_bind fin)
theorem sub_list_slice {value : PySem.Expr} {lower upper : Option PySem.Expr} {p pos : Pos} {Q : Value → Shared → Prop} {E : Value → Shared → Prop}
    (h : wpAny (model pw w) A (eval value env) (fun o s₁ => wpAny (model pw w) A (evalPart lower env) (fun vl s₂ => wpAny (model pw w) A (evalPart upper env) (fun vu s₃ =>
      ∃ l items lo hi, o = .ref l ∧ s₃.heap.IsList l items ∧ items.size ≤ sizeLine ∧ IsPart vl lo ∧ IsPart vu hi ∧
        Q (.ref (s₃.heap.objs.size + 1)) { s₃ with heap := (s₃.heap.push { cls := .type "slice", data := .fields #[vl, vu, .none] }).push { cls := .type "list", data := .seq (slicePick items lo hi none) } }) E s₂) E s₁) E s) :
    wpAny (model pw w) A (eval (.Subscript value (.Slice lower upper none p) pos) env) Q E s := by
  refine sub_slice (T := "list") list_getitem_lookup (wpAny_mono h (fun o s₁ h₁ => wpAny_Slice (wpAny_mono h₁ (fun vl s₂ h₂ => wpAny_mono h₂ (fun vu s₃ h₃ => ?_) fun _ _ e => e) fun _ _ e => e)) fun _ _ e => e)
  obtain ⟨l, items, lo, hi, rfl, hl, hsz, pl, pu, hQ⟩ := h₃
  rw [evalPart_none]
  refine wpAny_pure ⟨(hl.push _).typeIs, wpAny_getItem_list_slice (hl.push _) (Heap.IsSliceOf.new ..) pl pu .none (by simp) ?_ hsz⟩
  rw [Heap.size_push]
  exact hQ
theorem ed_slice {e : PySem.Expr} {lo hi : Option PySem.Expr} {a b : Option Int} {p pos : Pos} {ds : List PyData} (he : Ed w A env s e (.list ds)) (ha : Pt w A env s lo a) (hb : Pt w A env s hi b) (hz : ds.length ≤ sizeLine) :
    Ed w A env s (.Subscript e (.Slice lo hi none p) pos) (.list ((ds.drop (at_ ds.length 0 a)).take (at_ ds.length ds.length b - at_ ds.length 0 a))) :=
  fun s' Q E k q => sub_list_slice (he s' _ _ k fun o s₁ k₁ r => pt_ev ha s₁ _ _ (hk k k₁) fun pa hpa s₂ k₂ => pt_ev hb s₂ _ _ (hk k (kp_trans k₁ k₂)) fun pb hpb s₃ k₃ => by
    obtain ⟨l, vs, rfl, hl, rr⟩ := (r.kp (kp_trans k₂ k₃)).list
    have hn : vs.size = ds.length := by rw [← Array.length_toList]; exact rr.length
    refine ⟨l, vs, a, b, rfl, hl, by omega, hpa ▸ isPart_of pa, hpb ▸ isPart_of pb, ?_⟩
    have := q (.ref (s₃.heap.objs.size + 1)) { s₃ with heap := (s₃.heap.push { cls := .type "slice", data := .fields #[partValue pa, partValue pb, .none] }).push { cls := .type "list", data := .seq (slicePick vs a b none) } }
      (kp_trans k₁ (kp_trans k₂ (kp_trans k₃ ⟨_, _, rfl, fun _ _ e => Heap.get?_push_of_some _ (Heap.get?_push_of_some _ e)⟩)))
    refine this ?_
    have h2 : Rvs (s₃.heap.push { cls := .type "slice", data := .fields #[partValue pa, partValue pb, .none] }) (slicePick vs a b none).toList ((ds.drop (at_ ds.length 0 a)).take (at_ ds.length ds.length b - at_ ds.length 0 a)) := by
      rw [slicePick_plain]
      have e1 : a.elim 0 (clipAt vs.size) = at_ ds.length 0 a := by rw [hn]; cases a <;> rfl
      have e2 : b.elim vs.size (clipAt vs.size) = at_ ds.length ds.length b := by rw [hn]; cases b <;> rfl
      rw [e1, e2]
      exact ((rvs_take_drop (rvs_take_drop rr _).1 _).2).keep fun _ _ e => Heap.get?_push_of_some _ e
    have h3 := rv_list_push (n := 0) h2
    rw [Heap.size_push] at h3
    exact h3)

theorem idx_plain (l u : Option Int) (n : Nat) : strSliceIndices l u 1 n = (List.range (at_ n n u - at_ n 0 l)).map (at_ n 0 l + ·) := by
  have h0 : sliceRange ((at_ n 0 l : Nat) : Int) ((at_ n n u : Nat) : Int) 1 = (List.range (at_ n n u - at_ n 0 l)).map (at_ n 0 l + ·) := sliceRange_one _ _
  rw [← h0]
  cases l <;> cases u <;> simp [strSliceIndices, at_, clipAt_cast]

theorem slice_word (x : List Nat) (t : Tok) (l u : Option (Int × Tok)) (Q : Value → Shared → Prop) (s : Shared) (hz : x.length ≤ sizeLine)
    (q : ∀ v s', Keeps s s' → Rv s'.heap v (St' ((x.drop (at_ x.length 0 (l.map (·.1)))).take (at_ x.length x.length (u.map (·.1)) - at_ x.length 0 (l.map (·.1))))) → Q v s') : (sliceMade (tx x) t l u none).post Q s := by
  have hle : ∀ (v : Option Int) (d : Nat), d ≤ x.length → at_ x.length d v ≤ x.length := by
    intro v d hd
    cases v with
    | none => exact hd
    | some i => show clipAt x.length i ≤ x.length; have := clipAt_cast x.length i; omega
  have hp : slicePicked (tx x) l u none = (List.range (at_ x.length x.length (u.map (·.1)) - at_ x.length 0 (l.map (·.1)))).map (at_ x.length 0 (l.map (·.1)) + ·) := by
    unfold slicePicked
    rw [tx_len]
    exact idx_plain _ _ _
  have hw : ((slicePicked (tx x) l u none).filterMap ((tx x).cps[·]?)) = (x.drop (at_ x.length 0 (l.map (·.1)))).take (at_ x.length x.length (u.map (·.1)) - at_ x.length 0 (l.map (·.1))) := by
    rw [hp]
    have := pick_run x.toArray (at_ x.length 0 (l.map (·.1))) (at_ x.length x.length (u.map (·.1)) - at_ x.length 0 (l.map (·.1)))
    simpa using this
  unfold sliceMade
  split
  · rename_i hc
    have hlen : (slicePicked (tx x) l u none).length = x.length := by
      have := (Bool.and_eq_true_iff.mp hc).2
      rw [tx_len] at this
      exact beq_iff_eq.mp this
    have : (x.drop (at_ x.length 0 (l.map (·.1)))).take (at_ x.length x.length (u.map (·.1)) - at_ x.length 0 (l.map (·.1))) = x := by
      rw [hp] at hlen
      simp at hlen
      have h1 := hle (l.map (·.1)) 0 (Nat.zero_le _)
      have h2 := hle (u.map (·.1)) x.length (Nat.le_refl _)
      rcases Nat.eq_zero_or_pos x.length with h0 | h0
      · have : x = [] := List.length_eq_zero_iff.mp h0
        subst this; simp
      · have e1 : at_ x.length 0 (l.map (·.1)) = 0 := by omega
        rw [e1, List.drop_zero, List.take_of_length_le (by omega)]
    rw [this] at q
    exact q _ _ (kp_refl _) (rv_str _ _ _)
  · rw [hw]
    refine ⟨?_, q _ _ (kp_tok _) (rv_str _ _ _)⟩
    show (List.toArray _).size ≤ sizeLine
    rw [List.size_toArray]
    have := List.length_take_le' (at_ x.length x.length (u.map (·.1)) - at_ x.length 0 (l.map (·.1))) (x.drop (at_ x.length 0 (l.map (·.1))))
    simp at this ⊢
    omega

theorem ed_slices {e : PySem.Expr} {lo hi : Option PySem.Expr} {a b : Option Int} {p pos : Pos} {x : List Nat} (he : Ed w A env s e (St' x)) (ha : Pt w A env s lo a) (hb : Pt w A env s hi b) (hz : x.length ≤ sizeLine)
    (ht : ∀ o r, letTemporaryGo e o r = pure () := by intro _ _; rfl) :
    Ed w A env s (.Subscript e (.Slice lo hi none p) pos) (St' ((x.drop (at_ x.length 0 a)).take (at_ x.length x.length b - at_ x.length 0 a))) :=
  fun s' Q E k q => wpAny_Subscript_str_slice (he s' _ _ k fun o s₁ k₁ r => pt_ev ha s₁ _ _ (hk k k₁) fun pa hpa s₂ k₂ => pt_ev hb s₂ _ _ (hk k (kp_trans k₁ k₂)) fun pb hpb s₃ k₃ => by
    obtain ⟨t, rfl⟩ := r.str
    refine ⟨_, t, pa, pb, rfl, rfl, rfl, ?_⟩
    subst hpa hpb
    exact slice_word x t pa pb _ _ hz fun v s' k' rv => q v s' (kp_trans k₁ (kp_trans k₂ (kp_trans k₃ (kp_trans (kp_push _ _) k')))) rv) ht

/-! more of ints -/
theorem ed_mul {a b : PySem.Expr} {x y : Int} {pos : Pos} (ha : Ed w A env s a (.int x)) (hb : Ed w A env s b (.int y)) (hx : x.natAbs < 2 ^ 60) (hy : y.natAbs < 2 ^ 60) : Ed w A env s (.BinOp a .Mult b pos) (.int (x * y)) :=
  ed_bin ha hb fun u v s' Q E ru rv q => by obtain ⟨_, rfl⟩ := ru.int; obtain ⟨_, rfl⟩ := rv.int; exact mul_int (q _ _ (kp_tok _) (rv_int _ _ _))
theorem ed_div {a b : PySem.Expr} {x y : Int} {pos : Pos} (ha : Ed w A env s a (.int x)) (hb : Ed w A env s b (.int y)) (h0 : y ≠ 0) (hy : y.natAbs < 1073741824) : Ed w A env s (.BinOp a .FloorDiv b pos) (.int (x.fdiv y)) :=
  ed_bin ha hb fun u v s' Q E ru rv q => by obtain ⟨_, rfl⟩ := ru.int; obtain ⟨_, rfl⟩ := rv.int; exact floordiv_int h0 (q _ _ (kp_tok _) (rv_int _ _ _)) (Or.inl (PyProof.noPylong_small hy))
theorem ed_mod {a b : PySem.Expr} {x y : Int} {pos : Pos} (ha : Ed w A env s a (.int x)) (hb : Ed w A env s b (.int y)) (h0 : y ≠ 0) : Ed w A env s (.BinOp a .Mod b pos) (.int (x.fmod y)) :=
  ed_bin ha hb fun u v s' Q E ru rv q => by obtain ⟨_, rfl⟩ := ru.int; obtain ⟨_, rfl⟩ := rv.int; exact mod_int' h0 (q _ _ (kp_tok _) (rv_int _ _ _))
theorem ed_chr {f e : PySem.Expr} {pos : Pos} {n : Nat} (hf : Ev w A env s f (fun _ v => v = .builtin "chr")) (he : Ed w A env s e (.int n)) (hn : n ≤ 0x10FFFF)
    (hc : eval (.Call f [e] [] pos) env = (do callWith pos (← eval f env) [] (backTo pos (starEach [e] env)) (backToKw pos (keywordEach [] env))) := by rfl)
    (hs : starEach [e] env = (false, eval e env) :: starEach [] env := by rfl) : Ed w A env s (.Call f [e] [] pos) (St' [n]) :=
  ev_call1 hf he (fun u s' Q E ru q => by obtain ⟨_, rfl⟩ := ru.int; exact PySem.P.chr_of_int (by simp; omega) (q _ _ (kp_tok _) (rv_str _ _ _))) hc hs
theorem ed_ord {f e : PySem.Expr} {pos : Pos} {c : Nat} (hf : Ev w A env s f (fun _ v => v = .builtin "ord")) (he : Ed w A env s e (St' [c]))
    (hc : eval (.Call f [e] [] pos) env = (do callWith pos (← eval f env) [] (backTo pos (starEach [e] env)) (backToKw pos (keywordEach [] env))) := by rfl)
    (hs : starEach [e] env = (false, eval e env) :: starEach [] env := by rfl) : Ed w A env s (.Call f [e] [] pos) (.int c) :=
  ev_call1 hf he (fun u s' Q E ru q => by obtain ⟨_, rfl⟩ := ru.str; exact PySem.P.ord_of_char (q _ _ (kp_tok _) (rv_int _ _ _))) hc hs
theorem ints_items {h : Heap} : ∀ {vs : List Value} {ns : List Int}, Rvs h vs (ns.map .int) → IntsAre vs ns
  | [], [], _ => .nil
  | [], _ :: _, ⟨⟨_, q⟩, _⟩ => nomatch q
  | _ :: _, [], ⟨⟨_, q⟩, _⟩ => nomatch q
  | v :: vs, n :: ns, r => by obtain ⟨t, rfl⟩ := Rv.int r.uncons.1; exact .cons _ _ (ints_items r.uncons.2)
end
end Mine
end
noncomputable section
open PySem PySem.W PyProof.Rows PySem.Calls
set_option Elab.async false
set_option maxRecDepth 100000
set_option linter.unusedVariables false
namespace Mine
/-- neither a namespace nor a cell -/
def soft (o : Obj) : Bool := match o.data with | .dict .. => false | .cell .. => false | _ => true
theorem soft_seq {o : Obj} {vs : Array Value} {n : Nat} (h : o.data = .seq vs n) : soft o = true := by unfold soft; rw [h]
theorem soft_flds {o : Obj} {vs : Array Value} (h : o.data = .fields vs) : soft o = true := by unfold soft; rw [h]
structure Ef (O : List Addr) (s s' : Shared) : Prop where
  same : ∃ h t, s' = { s with heap := h, toks := t }
  keep : ∀ b o, s.heap.get? b = some o → soft o = true → b ∉ O → s'.heap.get? b = some o
theorem Ef.refl (O : List Addr) (s : Shared) : Ef O s s := ⟨⟨_, _, rfl⟩, fun _ _ e _ _ => e⟩
theorem Ef.trans {O : List Addr} {a b c : Shared} (x : Ef O a b) (y : Ef O b c) : Ef O a c := by
  obtain ⟨⟨h, t, rfl⟩, k⟩ := x
  obtain ⟨⟨h', t', rfl⟩, k'⟩ := y
  exact ⟨⟨_, _, rfl⟩, fun b o e s n => k' b o (k b o e s n) s n⟩
theorem Ef.of {O : List Addr} {s s' : Shared} (k : Keeps s s') : Ef O s s' := ⟨by obtain ⟨h, t, rfl, _⟩ := k; exact ⟨_, _, rfl⟩, fun b o e _ _ => kp_heap k b o e⟩
theorem Ef.wide {O : List Addr} {s s' : Shared} (x : Ef [] s s') : Ef O s s' := ⟨x.same, fun b o e q _ => x.keep b o e q (by simp)⟩

mutual
theorem reads_soft {h h' : Heap} (hk : ∀ b o, h.get? b = some o → soft o = true → h'.get? b = some o) : ∀ {v : Value} {d : PyData} {as : List Addr}, nd d = true → Reads h v d as → Reads h' v d as
  | _, _, _, _, .none => .none
  | _, _, _, _, .bool b => .bool b
  | _, _, _, _, .int i t => .int i t
  | _, _, _, _, .str x t => .str x t
  | _, _, _, n, .list h1 h2 h3 h4 => .list (hk _ _ h1 (soft_seq h3)) h2 h3 (readsAll_soft hk (by rw [nd] at n; exact n) h4)
  | _, _, _, n, .tuple h1 h2 h3 h4 => .tuple (hk _ _ h1 (soft_seq h3)) h2 h3 (readsAll_soft hk (by rw [nd] at n; exact n) h4)
  | _, _, _, n, .dict h1 h2 h3 h4 h5 => by rw [nd] at n; exact absurd n (by decide)
theorem readsAll_soft {h h' : Heap} (hk : ∀ b o, h.get? b = some o → soft o = true → h'.get? b = some o) : ∀ {vs : List Value} {ds : List PyData} {as : List Addr}, nds ds = true → ReadsAll h vs ds as → ReadsAll h' vs ds as
  | _, _, _, _, .nil => .nil
  | _, _, _, n, .cons h1 h2 => .cons (reads_soft hk (nds_cons.mp n).1 h1) (readsAll_soft hk (nds_cons.mp n).2 h2)
end
theorem Rv.ef {s s' : Shared} {v : Value} {d : PyData} (r : Rv s.heap v d) (e : Ef [] s s') : Rv s'.heap v d := by
  obtain ⟨⟨as, q⟩, n⟩ := r
  exact ⟨⟨as, reads_soft (fun b o x y => e.keep b o x y (by simp)) n q⟩, n⟩
/-- read the same in every heap -/
def flat : PyData → Bool
  | .list _ => false
  | .tuple _ => false
  | .dict _ => false
  | _ => true
theorem Rv.flat {h h' : Heap} {v : Value} {d : PyData} (r : Rv h v d) (hf : flat d = true) : Rv h' v d := by
  obtain ⟨⟨as, q⟩, n⟩ := r
  cases q with
  | none => exact ⟨⟨_, .none⟩, n⟩
  | bool b => exact ⟨⟨_, .bool b⟩, n⟩
  | int i t => exact ⟨⟨_, .int i t⟩, n⟩
  | str x t => exact ⟨⟨_, .str x t⟩, n⟩
  | list => cases hf
  | tuple => cases hf
  | dict => cases hf
theorem Rvs.flat {h h' : Heap} : ∀ {vs : List Value} {ds : List PyData}, Rvs h vs ds → (∀ d ∈ ds, Mine.flat d = true) → Rvs h' vs ds
  | [], [], _, _ => rvs_nil _
  | [], _ :: _, ⟨⟨_, q⟩, _⟩, _ => nomatch q
  | _ :: _, [], ⟨⟨_, q⟩, _⟩, _ => nomatch q
  | v :: vs, d :: ds, r, hf => rvs_cons (r.uncons.1.flat (hf d (by simp))) (Rvs.flat r.uncons.2 fun d' hd' => hf d' (by simp [hd']))

/-- the frame of a running call: what the caller had is there -/
def Fm (s₀ : Shared) (env : Env) (s : Shared) : Prop := ∃ m cm, InCallC s₀ env.locals m env.cells cm s
/-- the name is bound to the value -/
def Bd (env : Env) (h : Heap) (n : Str) (v : Value) : Prop :=
  (env.kindOf n = some .local ∧ ∃ m, h.Ns env.locals m ∧ m n = some v) ∨ (env.kindOf n = some .cell ∧ ∃ c, env.cells.lookup n = some c ∧ h.IsCell c (some v))
theorem Bd.keep {env : Env} {h h' : Heap} {n : Str} {v : Value} (b : Bd env h n v) (k : ∀ b o, h.get? b = some o → soft o = false → h'.get? b = some o) : Bd env h' n v := by
  rcases b with ⟨e, m, ⟨o, es, ep, h1, h2, h3⟩, hv⟩ | ⟨e, c, hc, o, ho, hd⟩
  · exact .inl ⟨e, m, ⟨o, es, ep, k _ _ h1 (by unfold soft; rw [h2]), h2, h3⟩, hv⟩
  · exact .inr ⟨e, c, hc, o, k _ _ ho (by unfold soft; rw [hd]), hd⟩
theorem Bd.hk {env : Env} {s s' : Shared} {n : Str} {v : Value} (b : Bd env s.heap n v) (k : HK s s') : Bd env s'.heap n v := b.keep fun b o e _ => k b o e
theorem ns_same {h : Heap} {a : Addr} {m m' : Str → Option Value} (x : h.Ns a m) (y : h.Ns a m') : m = m' := by
  obtain ⟨o, es, ep, h1, h2, h3, h4⟩ := x
  obtain ⟨o', es', ep', g1, g2, g3, g4⟩ := y
  rw [h1] at g1; cases g1
  rw [h2] at g2; cases g2
  funext n; rw [← h4, g4]
theorem Fm.keep {s₀ : Shared} {env : Env} {s s' : Shared} (x : Fm s₀ env s) (e : ∃ h t, s' = { s with heap := h, toks := t }) (k : ∀ b o, s.heap.get? b = some o → soft o = false → s'.heap.get? b = some o)
    (k' : ∀ b o, s₀.heap.get? b = some o → s'.heap.get? b = some o) : Fm s₀ env s' := by
  obtain ⟨m, cm, ⟨⟨hs, hn, hk, hf⟩, hc, ha, hb⟩⟩ := x
  obtain ⟨h, t, rfl⟩ := e
  refine ⟨m, cm, ⟨⟨?_, ?_, k', hf⟩, fun n c e => ?_, ha, hb⟩⟩
  · obtain ⟨h', t', rfl⟩ := hs; exact ⟨_, _, rfl⟩
  · obtain ⟨o, es, ep, h1, h2, h3⟩ := hn
    exact ⟨o, es, ep, k _ _ h1 (by unfold soft; rw [h2]), h2, h3⟩
  · obtain ⟨o, ho, hd⟩ := hc n c e
    exact ⟨o, k _ _ ho (by unfold soft; rw [hd]), hd⟩
theorem Fm.base {s₀ : Shared} {env : Env} {s : Shared} (x : Fm s₀ env s) : HK s₀ s := by obtain ⟨m, cm, x⟩ := x; exact x.toInCall.keep
theorem Fm.fresh {s₀ : Shared} {env : Env} {s : Shared} (x : Fm s₀ env s) : s₀.heap.objs.size ≤ env.locals := by obtain ⟨m, cm, x⟩ := x; exact x.toInCall.fresh
theorem Fm.kp {s₀ : Shared} {env : Env} {s s' : Shared} (x : Fm s₀ env s) (k : Keeps s s') : Fm s₀ env s' :=
  x.keep (by obtain ⟨h, t, rfl, _⟩ := k; exact ⟨_, _, rfl⟩) (fun b o e _ => kp_heap k b o e) (fun b o e => kp_heap k b o (x.base b o e))
theorem Fm.done {s₀ : Shared} {env : Env} {s : Shared} (x : Fm s₀ env s) : Keeps s₀ s := by obtain ⟨m, cm, x⟩ := x; exact x.done

structure Sto (env : Env) (n : Str) (v : Value) (s s' : Shared) : Prop where
  ef : Ef [] s s'
  new : Bd env s'.heap n v
  old : ∀ n' v', n' ≠ n → Bd env s.heap n' v' → Bd env s'.heap n' v'

section
variable {w : World} {A : Around} {env : Env} {s s₀ : Shared}

theorem st_name {M : Model} {E : Value → Shared → Prop} {n : Str} {v : Value} {Q : Unit → Shared → Prop} (hk : env.scope.kind = .function) (x : Fm s₀ env s) (hn : env.kindOf n = some .local ∨ (env.kindOf n = some .cell ∧ (env.cells.lookup n).isSome = true))
    (h : ∀ s', Fm s₀ env s' → Sto env n v s s' → (∃ a, (a = env.locals ∨ ∃ n', env.cells.lookup n' = some a) ∧ Heap.SameBut a s.heap s'.heap) → Q () s') : wpAny M A (storeName env n v) Q E s := by
  obtain ⟨m, cm, x⟩ := x
  rcases hn with hl | ⟨hl, hc⟩
  · refine wpAny_storeName_local hl x.toInCall.ns (fun h' hn' hs' => h _ ⟨_, cm, ⟨⟨?_, hn', fun b o e => ?_, x.toInCall.fresh⟩, fun k c hc => ?_, x.apart, x.above⟩⟩ ⟨⟨⟨_, _, rfl⟩, ?_⟩, ?_, ?_⟩ ⟨_, .inl rfl, hs'⟩) (by rw [hk]; rfl)
    · obtain ⟨h₁, tk, rfl⟩ := x.toInCall.same
      exact ⟨h', _, rfl⟩
    · exact hs'.extBut b o (Nat.ne_of_lt (Nat.lt_of_lt_of_le (Heap.lt_size e) x.toInCall.fresh)) (x.toInCall.keep b o e)
    · exact (x.cell k c hc).sameBut hs' (Nat.ne_of_gt (x.above k c (mem_of_lookup hc)))
    · intro b o e q _
      refine hs'.extBut b o ?_ e
      rintro rfl
      obtain ⟨o', es, ep, h1, h2, h3⟩ := x.toInCall.ns
      rw [e] at h1; cases h1
      unfold soft at q; rw [h2] at q; cases q
    · exact .inl ⟨hl, _, hn', by simp⟩
    · intro n' v' hne hb
      rcases hb with ⟨e, m', hm', hv⟩ | ⟨e, c, hc, hd⟩
      · have := ns_same hm' x.toInCall.ns
        subst this
        exact .inl ⟨e, _, hn', by simp [hne, hv]⟩
      · exact .inr ⟨e, c, hc, hd.sameBut hs' (Nat.ne_of_gt (x.above n' c (mem_of_lookup hc)))⟩
  · obtain ⟨c, hc⟩ := Option.isSome_iff_exists.mp hc
    have hLc := x.above n c (mem_of_lookup hc)
    have hcell := x.cell n c hc
    refine wpAny_storeName_cell hk hl hc hcell fun h' hc' hs' => h _ ⟨m, fun y => if y = n then some v else cm y, ⟨⟨?_, x.toInCall.ns.sameBut hs' (Nat.ne_of_lt hLc), fun b o e => ?_, x.toInCall.fresh⟩, fun k c' hk' => ?_, x.apart, x.above⟩⟩ ⟨⟨⟨_, _, rfl⟩, ?_⟩, ?_, ?_⟩ ⟨_, .inr ⟨n, hc⟩, hs'⟩
    · obtain ⟨h₁, tk, rfl⟩ := x.toInCall.same
      exact ⟨h', _, rfl⟩
    · exact hs'.extBut b o (Nat.ne_of_lt (Nat.lt_trans (Nat.lt_of_lt_of_le (Heap.lt_size e) x.toInCall.fresh) hLc)) (x.toInCall.keep b o e)
    · by_cases hkn : k = n
      · subst hkn
        rw [hc] at hk'; cases hk'
        simpa using hc'
      · rw [if_neg hkn]
        exact (x.cell k c' hk').sameBut hs' fun e => hkn (name_of_addr x.apart (mem_of_lookup hk') (e ▸ mem_of_lookup hc))
    · intro b o e q _
      refine hs'.extBut b o ?_ e
      rintro rfl
      obtain ⟨o', h1, h2⟩ := hcell
      rw [e] at h1; cases h1
      unfold soft at q; rw [h2] at q; cases q
    · exact .inr ⟨hl, c, hc, hc'⟩
    · intro n' v' hne hb
      rcases hb with ⟨e, m', hm', hv⟩ | ⟨e, c', hc2, hd⟩
      · exact .inl ⟨e, _, hm'.sameBut hs' (Nat.ne_of_lt hLc), hv⟩
      · exact .inr ⟨e, c', hc2, hd.sameBut hs' fun e' => hne (name_of_addr x.apart (mem_of_lookup hc2) (e' ▸ mem_of_lookup hc))⟩

/-! names -/
theorem ev_name {n : Str} {pos : Pos} {v : Value} (hk : env.scope.kind = .function) (b : Bd env s.heap n v) (hd : (n == ("__debug__" : Str)) = false := by decide) : Ev w A env s (.Name n pos) (fun _ u => u = v) :=
  fun s' Q E k q => by
    rcases b.hk k with ⟨e, m, hm, hv⟩ | ⟨e, c, hc, hv⟩
    · exact wpAny_Name (wpAny_loadName_local hk e hm hv (q _ _ (kp_refl _) rfl)) hd
    · exact wpAny_Name (wpAny_loadName_cell hk e hc hv (q _ _ (kp_refl _) rfl)) hd
theorem ed_name {n : Str} {pos : Pos} {v : Value} {d : PyData} (hk : env.scope.kind = .function) (b : Bd env s.heap n v) (r : Rv s.heap v d) (hd : (n == ("__debug__" : Str)) = false := by decide) : Ed w A env s (.Name n pos) d :=
  fun s' Q E k q => ev_name hk b hd s' Q E k fun u s'' k'' e => by subst e; exact q _ _ k'' (r.keep fun b o e => kp_heap k'' b o (k b o e))

/-- the module's state is there -/
def Base (w : World) (s : Shared) : Prop := ∀ b o, (H_11 w.params).get? b = some o → s.heap.get? b = some o
theorem Base.hk {s' : Shared} (b : Base w s) (k : HK s s') : Base w s' := fun x o e => k x o (b x o e)
end
end Mine
end
noncomputable section
open PySem PySem.W PyProof.Rows PySem.Calls
set_option Elab.async false
set_option maxRecDepth 100000
set_option linter.unusedVariables false
namespace Mine
section
variable {w : World} {A : Around} {env : Env} {s s₀ : Shared}

/-! names of the module and of the language -/
theorem isNs3 (P : Params) : (H_11 P).isNs mainGlobals = true := by kernel_rfl
theorem isNs0 (P : Params) : (H_11 P).isNs builtinsNs = true := by kernel_rfl
structure Gl (env : Env) : Prop where
  kind : env.scope.kind = .function
  gl : env.globals = mainGlobals
  bl : env.builtins = builtinsNs
theorem ev_gl {n : Str} {pos : Pos} {v : Value} (B : Base w s) (G : Gl env) (hx : env.kindOf n = some .globalImplicit) (hv : (H_11 w.params).nsMap mainGlobals n = some v) (hd : (n == ("__debug__" : Str)) = false := by decide) : Ev w A env s (.Name n pos) (fun _ u => u = v) :=
  fun s' Q E k q => Name_function_global G.kind hx (loadGlobal_global (mg := (H_11 w.params).nsMap mainGlobals) (by rw [G.gl]; exact (Heap.Ns.of_isNs (isNs3 _)).keeps (B.hk k)) hv (q _ _ (kp_refl _) rfl)) hd
theorem ev_bl {n : Str} {pos : Pos} {v : Value} (B : Base w s) (G : Gl env) (hx : env.kindOf n = some .globalImplicit) (hm : (H_11 w.params).nsMap mainGlobals n = none) (hv : (H_11 w.params).nsMap builtinsNs n = some v) (hd : (n == ("__debug__" : Str)) = false := by decide) : Ev w A env s (.Name n pos) (fun _ u => u = v) :=
  fun s' Q E k q => Name_function_global G.kind hx (loadGlobal_builtin (mg := (H_11 w.params).nsMap mainGlobals) (mb := (H_11 w.params).nsMap builtinsNs) (by rw [G.gl]; exact (Heap.Ns.of_isNs (isNs3 _)).keeps (B.hk k)) hm (by rw [G.bl]; exact (Heap.Ns.of_isNs (isNs0 _)).keeps (B.hk k)) hv (q _ _ (kp_refl _) rfl)) hd

/-! walks over something -/
structure Wk (w : World) (A : Around) (I : Addr) (fp wr : List Addr) (n : Nat) (P : Nat → Value → Prop) (St : Nat → Heap → Prop) : Prop where
  W : Walks pw w A I fp wr n P St
  soft : ∀ i h, St i h → ∀ b ∈ fp, ∃ o, h.get? b = some o ∧ Mine.soft o = true
  flds : ∀ i h, St i h → ∀ b ∈ wr, ∃ o, h.get? b = some o ∧ ∃ fs, o.data = .fields fs
def Itr (fr : Bool) (w : World) (A : Around) (env : Env) (s : Shared) (iter : PySem.Expr) (ds : List PyData) : Prop :=
  ∀ (s' : Shared) (K : Value → Shared → Prop) (E : Value → Shared → Prop), HK s s' →
    (∀ I fp wr P St s₂, Keeps s' s₂ → Wk w A I fp wr ds.length P St → St 0 s₂.heap → (∀ b ∈ fp, b < s₂.heap.objs.size) → (∀ b ∈ wr, s'.heap.get? b = none) → (fr = true → ∀ b ∈ fp, s'.heap.get? b = none) →
      (∀ j v, P j v → ∃ d, ds[j]? = some d ∧ Rv s'.heap v d) → K (.ref I) s₂) →
    wpAny (model pw w) A (eval iter env) (fun xv s₁ => wpAny (model pw w) A (pyIter xv) K E s₁) E s'

theorem none_of_ge {h : Heap} {a : Addr} (k : h.objs.size ≤ a) : h.get? a = none := by
  cases e : h.get? a with
  | none => rfl
  | some o => exact absurd (Heap.lt_size e) (Nat.not_lt.mpr k)
theorem size_le {s s' : Shared} (k : HK s s') : s.heap.objs.size ≤ s'.heap.objs.size ∨ ∃ b, s.heap.get? b = none ∧ b < s.heap.objs.size := by
  rcases Nat.lt_or_ge s'.heap.objs.size s.heap.objs.size with h | h
  · right
    refine ⟨s'.heap.objs.size, ?_, h⟩
    cases e : s.heap.get? s'.heap.objs.size with
    | none => rfl
    | some o => exact absurd (Heap.lt_size (k _ _ e)) (Nat.lt_irrefl _)
  · exact .inl h
theorem fresh_hk {s s' : Shared} (k : HK s s') {a : Addr} (h : s'.heap.get? a = none) : s.heap.get? a = none := by
  cases e : s.heap.get? a with
  | none => rfl
  | some o => rw [k a o e] at h; cases h

/-- a run of ints -/
abbrev rng (a b : Nat) : List PyData := (List.range' a (b - a)).map fun i => .int ((i : Nat) : Int)
theorem rng_len (a b : Nat) : (rng a b).length = b - a := by simp
theorem rng_get {a b i : Nat} (h : i < b - a) : (rng a b)[i]? = some (.int ((a + i : Nat) : Int)) := by
  simp [h]
theorem wk_range (hh : A.handled = none) (I : Addr) (a b : Nat) : Wk w A I [I] [I] (rng a b).length (fun i v => i < b - a ∧ ∃ t, v = .int ((a : Int) + i * 1) t)
    (fun i h => IsRangeIter h I ((a : Int) + (i : Nat) * 1) (((b - a : Nat) : Int) - (i : Nat)) 1) where
  W := by
    rw [rng_len]
    have W := Walks.range (prog := pw) (w := w) (A := A) hh I (a : Int) 1 (b - a)
    exact ⟨W.sub, W.frame, fun i s Q E hi st hQ => W.item i s Q E hi st fun v h' tk hv st' hk => hQ v h' tk ⟨hi, hv⟩ st' hk, W.done, W.self⟩
  soft := fun i h st x hx => by simp at hx; subst hx; exact ⟨_, st, rfl⟩
  flds := fun i h st x hx => by simp at hx; subst hx; exact ⟨_, st, _, rfl⟩

theorem iter_range {a b : Nat} (hh : A.handled = none) (ha : a < 2 ^ 62) (hb : b < 2 ^ 62) {r : Addr} {s' s₁ : Shared} {K : Value → Shared → Prop} {E : Value → Shared → Prop} {t u v : Tok} (k₁ : Keeps s' s₁) (hr : IsRange s₁.heap r a b 1 t u v)
    (q : ∀ I fp wr P St s₂, Keeps s' s₂ → Wk w A I fp wr (rng a b).length P St → St 0 s₂.heap → (∀ x ∈ fp, x < s₂.heap.objs.size) → (∀ x ∈ wr, s'.heap.get? x = none) → (true = true → ∀ x ∈ fp, s'.heap.get? x = none) →
      (∀ j v, P j v → ∃ d, (rng a b)[j]? = some d ∧ Rv s'.heap v d) → K (.ref I) s₂) : wpAny (model pw w) A (pyIter (.ref r)) K E s₁ := by
  refine wpAny_pyIter_range hr (small_one (by omega) (by omega) (by omega) (by omega)) ?_
  have hf : s'.heap.get? s₁.heap.objs.size = none := fresh_hk (kp_heap k₁) (none_of_ge (Nat.le_refl _))
  refine q _ _ _ _ _ _ (kp_trans k₁ (kp_push _ _)) (wk_range hh _ a b) ?_ ?_ ?_ ?_ ?_
  · have e : Builtin.Range.rangeSize (a : Int) b 1 = ((b - a : Nat) : Int) := by rw [rangeSize_one]; split <;> omega
    show IsRangeIter _ _ _ _ _
    rw [e]
    have := Heap.get?_push_size s₁.heap (o := { cls := .type "range_iterator", data := .fields #[rawInt a, rawInt ((b - a : Nat) : Int), rawInt 1] }) rfl
    simpa [IsRangeIter] using this
  · intro x hx; simp at hx; subst hx; show _ < (s₁.heap.push _).objs.size; rw [Heap.size_push]; omega
  · intro x hx; simp at hx; subst hx; exact hf
  · intro _ x hx; simp at hx; subst hx; exact hf
  · rintro j v ⟨hj, t, rfl⟩
    refine ⟨_, rng_get hj, ?_⟩
    have e : (a : Int) + j * 1 = ((a + j : Nat) : Int) := by omega
    rw [e]; exact rv_int _ _ _

theorem itr_range1 {f e : PySem.Expr} {pos : Pos} {b : Nat} (hh : A.handled = none) (hf : Ev w A env s f (fun _ v => v = .type "range")) (he : Ed w A env s e (.int (b : Int))) (hb : b < 2 ^ 62)
    (hc : eval (.Call f [e] [] pos) env = (do callWith pos (← eval f env) [] (backTo pos (starEach [e] env)) (backToKw pos (keywordEach [] env))) := by rfl)
    (hs : starEach [e] env = (false, eval e env) :: starEach [] env := by rfl) : Itr true w A env s (.Call f [e] [] pos) (rng 0 b) :=
  fun s' K E k q => Call_ (hf s' _ _ k fun v s₁ k₁ hv => by
    subst hv
    refine PyProof.Rows.callWith_type1 (args_cons (he s₁ _ _ (hk k k₁) fun u s₂ k₂ ru => args_nil ?_) hs) hs
    obtain ⟨t, rfl⟩ := ru.int
    refine call_range_1 ?_
    exact iter_range (a := 0) hh (by decide) hb (kp_trans k₁ (kp_trans k₂ (kp_push _ _))) (IsRange.new _ _ _ _ _ _ _) q) hc
theorem itr_range2 {f e₁ e₂ : PySem.Expr} {pos : Pos} {a b : Nat} (hh : A.handled = none) (hf : Ev w A env s f (fun _ v => v = .type "range")) (h1 : Ed w A env s e₁ (.int (a : Int))) (h2 : Ed w A env s e₂ (.int (b : Int))) (ha : a < 2 ^ 62) (hb : b < 2 ^ 62)
    (hc : eval (.Call f [e₁, e₂] [] pos) env = (do callWith pos (← eval f env) [] (backTo pos (starEach [e₁, e₂] env)) (backToKw pos (keywordEach [] env))) := by rfl)
    (hs : starEach [e₁, e₂] env = (false, eval e₁ env) :: starEach [e₂] env := by rfl) (hs' : starEach [e₂] env = (false, eval e₂ env) :: starEach [] env := by rfl) : Itr true w A env s (.Call f [e₁, e₂] [] pos) (rng a b) :=
  fun s' K E k q => Call_ (hf s' _ _ k fun v s₁ k₁ hv => by
    subst hv
    refine PyProof.Rows.callWith_type1 (args_cons (h1 s₁ _ _ (hk k k₁) fun u s₂ k₂ ru => args_cons (h2 s₂ _ _ (hk k (kp_trans k₁ k₂)) fun u' s₃ k₃ ru' => args_nil ?_) hs') hs) hs (by rw [hs']; rfl)
    obtain ⟨t, rfl⟩ := ru.int
    obtain ⟨t', rfl⟩ := ru'.int
    refine call_range_2 ?_
    exact iter_range hh ha hb (kp_trans k₁ (kp_trans k₂ (kp_trans k₃ (kp_push _ _)))) (IsRange.new _ _ _ _ _ _ _) q) hc

theorem wk_list (hh : A.handled = none) (I ax : Addr) (hne : ax ≠ I) (items : Array Value) : Wk w A I [I, ax] [I] items.size (fun i v => items[i]? = some v) (fun i h => h.IsListIter I ax i ∧ h.IsList ax items) where
  W := Walks.list hh I ax hne items
  soft := fun i h st x hx => by
    obtain ⟨⟨o, ho, _, hd⟩, ⟨o', ho', _, n', hd'⟩⟩ := st
    rcases List.mem_cons.mp hx with rfl | hx
    · exact ⟨o, ho, soft_flds hd⟩
    · simp at hx; subst hx; exact ⟨o', ho', soft_seq hd'⟩
  flds := fun i h st x hx => by
    obtain ⟨⟨o, ho, _, hd⟩, _⟩ := st
    simp at hx; subst hx; exact ⟨o, ho, _, hd⟩
/-- a list whose items read so in every state from s on -/
theorem itr_list {e : PySem.Expr} {ds : List PyData} (hh : A.handled = none) (he : Ed w A env s e (.list ds)) (hf : ∀ d ∈ ds, flat d = true) : Itr false w A env s e ds :=
  fun s' K E k q => he s' _ _ k fun v s₁ k₁ r => by
    obtain ⟨l, vs, rfl, hl, rr⟩ := r.list
    have hn : vs.size = ds.length := by rw [← Array.length_toList]; exact rr.length
    have hne : l ≠ s₁.heap.objs.size := by obtain ⟨o, ho, _⟩ := hl; exact Nat.ne_of_lt (Heap.lt_size ho)
    have hf' : s'.heap.get? s₁.heap.objs.size = none := fresh_hk (kp_heap k₁) (none_of_ge (Nat.le_refl _))
    have WW := wk_list (w := w) hh _ l hne vs
    rw [hn] at WW
    refine wpAny_pyIter_list hl ?_
    refine q _ _ _ _ _ { s₁ with heap := _ } (kp_trans k₁ ⟨_, _, rfl, fun _ _ e => Heap.get?_push_of_some _ e⟩) WW ⟨⟨_, Heap.get?_push_size _ rfl, rfl, rfl⟩, hl.push _⟩ ?_ ?_ (fun h => by cases h) ?_
    · intro x hx
      show _ < (s₁.heap.push _).objs.size
      rw [Heap.size_push]
      rcases List.mem_cons.mp hx with rfl | hx
      · exact Nat.lt_succ_self _
      · simp at hx; subst hx; obtain ⟨o, ho, _⟩ := hl; exact Nat.lt_succ_of_lt (Heap.lt_size ho)
    · intro x hx; simp at hx; subst hx; exact hf'
    · intro j v hv
      have hj : j < vs.size := by
        rcases Nat.lt_or_ge j vs.size with h | h
        · exact h
        · rw [Array.getElem?_eq_none h] at hv; cases hv
      have hj' : j < ds.length := by omega
      obtain ⟨u, hu, ru⟩ := rr.get (i := j) (List.getElem?_eq_getElem hj')
      have : u = v := by
        have h2 : vs.toList[j]? = some v := by simpa using hv
        rw [h2] at hu; exact (Option.some.inj hu).symm
      subst this
      exact ⟨_, List.getElem?_eq_getElem hj', ru.flat (hf _ (List.getElem_mem hj'))⟩
/-- a list that the name holds -/
theorem itr_var {n : Str} {pos : Pos} {v : Value} {ds : List PyData} (hh : A.handled = none) (hk : env.scope.kind = .function) (b : Bd env s.heap n v) (r : Rv s.heap v (.list ds)) (hd : (n == ("__debug__" : Str)) = false := by decide) : Itr false w A env s (.Name n pos) ds :=
  fun s' K E k q => ev_name hk b hd s' _ _ k fun v s₁ k₁ e => by
    subst e
    obtain ⟨l, vs, rfl, hl', rr⟩ := (r.keep k).list
    have hl := hl'.at fun o e => kp_heap k₁ _ o e
    have hn : vs.size = ds.length := by rw [← Array.length_toList]; exact rr.length
    have hne : l ≠ s₁.heap.objs.size := by obtain ⟨o, ho, _⟩ := hl; exact Nat.ne_of_lt (Heap.lt_size ho)
    have hf' : s'.heap.get? s₁.heap.objs.size = none := fresh_hk (kp_heap k₁) (none_of_ge (Nat.le_refl _))
    have WW := wk_list (w := w) hh _ l hne vs
    rw [hn] at WW
    refine wpAny_pyIter_list hl ?_
    refine q _ _ _ _ _ { s₁ with heap := _ } (kp_trans k₁ ⟨_, _, rfl, fun _ _ e => Heap.get?_push_of_some _ e⟩) WW ⟨⟨_, Heap.get?_push_size _ rfl, rfl, rfl⟩, hl.push _⟩ ?_ ?_ (fun h => by cases h) ?_
    · intro x hx
      show _ < (s₁.heap.push _).objs.size
      rw [Heap.size_push]
      rcases List.mem_cons.mp hx with rfl | hx
      · exact Nat.lt_succ_self _
      · simp at hx; subst hx; obtain ⟨o, ho, _⟩ := hl; exact Nat.lt_succ_of_lt (Heap.lt_size ho)
    · intro x hx; simp at hx; subst hx; exact hf'
    · intro j v hv
      have hj : j < vs.size := by
        rcases Nat.lt_or_ge j vs.size with h | h
        · exact h
        · rw [Array.getElem?_eq_none h] at hv; cases hv
      have hj' : j < ds.length := by omega
      obtain ⟨u, hu, ru⟩ := rr.get (i := j) (List.getElem?_eq_getElem hj')
      have : u = v := by
        have h2 : vs.toList[j]? = some v := by simpa using hv
        rw [h2] at hu; exact (Option.some.inj hu).symm
      subst this
      exact ⟨_, List.getElem?_eq_getElem hj', ru⟩
/-- a text -/
theorem itr_str {e : PySem.Expr} {x : List Nat} (hh : A.handled = none) (he : Ed w A env s e (St' x)) : Itr true w A env s e (x.map fun c => St' [c]) :=
  fun s' K E k q => he s' _ _ k fun v s₁ k₁ r => by
    obtain ⟨t, rfl⟩ := r.str
    have hf' : s'.heap.get? s₁.heap.objs.size = none := fresh_hk (kp_heap k₁) (none_of_ge (Nat.le_refl _))
    have go : ∀ ty, Walks pw w A s₁.heap.objs.size [s₁.heap.objs.size] [s₁.heap.objs.size] (tx x).cps.size (SignAt (tx x)) (fun i h => h.IsStrIter s₁.heap.objs.size ty (tx x) t i) →
        K (.ref s₁.heap.objs.size) { s₁ with heap := s₁.heap.push { cls := .type ty, data := .fields #[.str (tx x) t, .int 0 0] } } := by
      intro ty W
      have hn : (tx x).cps.size = (x.map fun c => St' [c]).length := by simp
      rw [hn] at W
      refine q _ _ _ _ _ { s₁ with heap := _ } (kp_trans k₁ ⟨_, _, rfl, fun _ _ e => Heap.get?_push_of_some _ e⟩) ⟨W, ?_, ?_⟩ ⟨_, Heap.get?_push_size _ rfl, rfl, rfl⟩ ?_ ?_ ?_ ?_
      · intro i h st b hb; simp at hb; subst hb; obtain ⟨o, ho, _, hd⟩ := st; exact ⟨o, ho, soft_flds hd⟩
      · intro i h st b hb; simp at hb; subst hb; obtain ⟨o, ho, _, hd⟩ := st; exact ⟨o, ho, _, hd⟩
      · intro b hb; simp at hb; subst hb; show _ < (s₁.heap.push _).objs.size; rw [Heap.size_push]; exact Nat.lt_succ_self _
      · intro b hb; simp at hb; subst hb; exact hf'
      · intro _ b hb; simp at hb; subst hb; exact hf'
      · rintro j v ⟨c, u, hc, rfl⟩
        refine ⟨St' [c], ?_, rv_str _ _ _⟩
        have : x[j]? = some c := by simpa using hc
        simp [this]
    cases ha : (tx x).cps.all (· < 128)
    · exact wpAny_pyIter_wide ha (go _ (Walks.strWide hh _ _ t))
    · exact wpAny_pyIter_ascii ha (go _ (Walks.strAscii hh _ _ t))
end
end Mine
end
noncomputable section
open PySem PySem.W PyProof.Rows PySem.Calls
set_option Elab.async false
set_option maxRecDepth 100000
set_option linter.unusedVariables false
namespace Mine
noncomputable section
section
variable {w : World} {A : Around} {env : Env} {s s₀ : Shared}

/-- only iterators may have moved -/
structure Nx (s s' : Shared) : Prop where
  same : ∃ h t, s' = { s with heap := h, toks := t }
  keep : ∀ b o, s.heap.get? b = some o → (∀ fs, o.data ≠ .fields fs) → s'.heap.get? b = some o
theorem Nx.hard {s s' : Shared} (x : Nx s s') : ∀ b o, s.heap.get? b = some o → soft o = false → s'.heap.get? b = some o := fun b o e q => x.keep b o e fun fs h => by rw [soft_flds h] at q; cases q
theorem Fm.nx {s s' : Shared} (x : Fm s₀ env s) (n : Nx s s') (h0 : ∀ b o, s₀.heap.get? b = some o → s'.heap.get? b = some o) : Fm s₀ env s' := x.keep n.same n.hard h0
theorem Bd.nx {s s' : Shared} {n : Str} {v : Value} (b : Bd env s.heap n v) (x : Nx s s') : Bd env s'.heap n v := b.keep x.hard
theorem isList_nx {s s' : Shared} {a : Addr} {vs : Array Value} (l : s.heap.IsList a vs) (x : Nx s s') : s'.heap.IsList a vs := l.at fun o e => by
  obtain ⟨o', ho, hc, n, hd⟩ := l
  rw [ho] at e; cases e
  exact x.keep _ _ ho fun fs h => by rw [hd] at h; cases h

theorem for_rule (fr : Bool) (O : List Addr) (J : Nat → Shared → Prop) {target iter : PySem.Expr} {body : List Stmt} {pos : Pos} {ds : List PyData} {Q : Flow → Shared → Prop} {E : Value → Shared → Prop}
    (hit : Itr fr w A env s iter ds) (hO : O = [] ∨ (fr = true ∧ ∀ b ∈ O, ∃ o, s.heap.get? b = some o))
    (hJ0 : ∀ s', Keeps s s' → J 0 s')
    (hJn : ∀ i s₁ s₂, i ≤ ds.length → Ef O s s₁ → J i s₁ → Nx s₁ s₂ → (∀ b o, s.heap.get? b = some o → s₁.heap.get? b = some o → s₂.heap.get? b = some o) → J i s₂)
    (turn : ∀ i d v s₁ (E : Value → Shared → Prop), ds[i]? = some d → Ef O s s₁ → Rv s.heap v d → J i s₁ → wpAny (model pw w) A (assign target env v) (fun _ s₂ => wpAny (model pw w) A (execs body env) (fun f s₃ => match f with
      | .next => Ef O s₁ s₃ ∧ J (i + 1) s₃
      | .cont => Ef O s₁ s₃ ∧ J (i + 1) s₃
      | .brk => Q .next s₃
      | .ret u => Q (.ret u) s₃) E s₂) E s₁)
    (done : ∀ s', Ef O s s' → J ds.length s' → Q .next s')
    (hs : ∀ x, foldedSetIterable iter env x = pure x := by intro _; rfl) (ht : ∀ it v, letOwnedTupleGo target it v = pure () := by intro _ _; rfl) : wpAny (model pw w) A (exec (.For target iter body [] pos) env) Q E s := by
  refine wpAny_For (hit s _ _ (hk_refl _) fun I fp wr P St s₂ k₂ W st0 hfp hwr hfr hP => ?_) hs
  have hfo : ∀ b ∈ fp, b ∉ O := by
    intro b hb hbo
    rcases hO with rfl | ⟨hfr', hl⟩
    · simp at hbo
    · obtain ⟨o, ho⟩ := hl b hbo
      rw [hfr hfr' b hb] at ho; cases ho
  refine codeAny_forLoop (fun k s₁ => ∃ i, k = ds.length - i ∧ i ≤ ds.length ∧ St i s₁.heap ∧ Ef O s s₁ ∧ J i s₁) (fun k s₁ hI => ?_) ds.length ⟨0, by simp, Nat.zero_le _, st0, Ef.of k₂, hJ0 _ k₂⟩ (fun v => ht _ v)
  obtain ⟨i, rfl, hi, hst, hef, hJ⟩ := hI
  have nxof : ∀ h' tk, (∀ b o, b ∉ wr → s₁.heap.get? b = some o → h'.get? b = some o) → Nx s₁ { s₁ with heap := h', toks := tk } ∧ Ef O s { s₁ with heap := h', toks := tk } ∧
      (∀ b o, s.heap.get? b = some o → s₁.heap.get? b = some o → h'.get? b = some o) := by
    intro h' tk hkk
    refine ⟨⟨⟨_, _, rfl⟩, fun b o e hn => hkk b o (fun hb => ?_) e⟩, ⟨?_, fun b o e q n => hkk b o (fun hb => ?_) (hef.keep b o e q n)⟩, fun b o e e' => hkk b o (fun hb => ?_) e'⟩
    · obtain ⟨o', ho', fs, hfs⟩ := W.flds i _ hst b hb
      rw [e] at ho'; cases ho'
      exact hn fs hfs
    · obtain ⟨h, t, e⟩ := hef.same
      subst e
      exact ⟨_, _, rfl⟩
    · rw [hwr b hb] at e; cases e
    · rw [hwr b hb] at e; cases e
  rcases Nat.lt_or_ge i ds.length with hlt | hge
  · refine W.W.item i s₁ _ _ hlt hst fun v h' tk hPv hst' hkk => ?_
    obtain ⟨d, hd, rv⟩ := hP i v hPv
    obtain ⟨nx, ef', kk⟩ := nxof h' tk hkk
    refine wpAny_mono (turn i d v _ _ hd ef' rv (hJn i s₁ _ hi hef hJ nx kk)) (fun _ s₃ h₃ => wpAny_mono h₃ (fun f s₄ h₄ => ?_) fun _ _ e => e) fun _ _ e => e
    have back : (Ef O { s₁ with heap := h', toks := tk } s₄ ∧ J (i + 1) s₄) → ∃ m, m < ds.length - i ∧ ∃ i, m = ds.length - i ∧ i ≤ ds.length ∧ St i s₄.heap ∧ Ef O s s₄ ∧ J i s₄ := by
      rintro ⟨e4, j4⟩
      refine ⟨ds.length - (i + 1), by omega, i + 1, rfl, hlt, W.W.frame _ _ _ hst' fun b hb o e => ?_, ef'.trans e4, j4⟩
      obtain ⟨o', ho', q⟩ := W.soft _ _ hst' b hb
      rw [e] at ho'; cases ho'
      exact e4.keep b o e q (hfo b hb)
    cases f with
    | next => exact back h₄
    | cont => exact back h₄
    | brk => exact h₄
    | ret u => exact h₄
  · have hin : i = ds.length := by omega
    subst hin
    refine W.W.done s₁ _ _ hst fun h' tk hkk => ?_
    obtain ⟨nx, ef', kk⟩ := nxof h' tk hkk
    exact wpAny_execs_nil (done _ ef' (hJn _ s₁ _ hi hef hJ nx kk))

theorem while_rule (J : Nat → Shared → Prop) {test : PySem.Expr} {body orelse : List Stmt} {pos : Pos} {Q : Flow → Shared → Prop} {E : Value → Shared → Prop} (n : Nat) (h0 : J n s)
    (turn : ∀ n s₁ (E : Value → Shared → Prop), J n s₁ → ∃ b, Ts w A env s₁ test b ∧
      (b = true → ∀ s₂, Keeps s₁ s₂ → wpAny (model pw w) A (execs body env) (fun f s₃ => match f with
        | .next => ∃ m, m < n ∧ J m s₃
        | .cont => ∃ m, m < n ∧ J m s₃
        | .brk => Q .next s₃
        | .ret u => Q (.ret u) s₃) E s₂) ∧
      (b = false → ∀ s₂, Keeps s₁ s₂ → wpAny (model pw w) A (execs orelse env) Q E s₂)) : wpAny (model pw w) A (exec (.While test body orelse pos) env) Q E s := by
  refine wpAny_While (codeAny_whileLoop J (fun n s₁ hJ => ?_) n h0)
  obtain ⟨b, ht, hb, hf⟩ := turn n s₁ _ hJ
  refine ht s₁ _ _ (hk_refl _) fun s₂ k₂ => ?_
  cases b with
  | true =>
    refine wpAny_mono (hb rfl s₂ k₂) (fun f s₃ h₃ => ?_) fun _ _ e => e
    cases f <;> exact h₃
  | false => exact wpAny_mono (hf rfl s₂ k₂) (fun f s₃ h₃ => h₃) fun _ _ e => e

/-! statements -/
theorem as_name {n : Str} {e : PySem.Expr} {px pos : Pos} {P : Heap → Value → Prop} {Q : Flow → Shared → Prop} {E : Value → Shared → Prop} (hk : env.scope.kind = .function) (x : Fm s₀ env s) (he : Ev w A env s e P)
    (hn : env.kindOf n = some .local ∨ (env.kindOf n = some .cell ∧ (env.cells.lookup n).isSome = true))
    (h : ∀ v s₁ s₂, Keeps s s₁ → P s₁.heap v → Fm s₀ env s₂ → Sto env n v s₁ s₂ → Q .next s₂)
    (hs : swapsWith e (some (.Name n px)) pos.line env = pure false := by rfl) : wpAny (model pw w) A (exec (.Assign [.Name n px] e pos) env) Q E s :=
  wpAny_Assign_Name (he s _ _ (hk_refl _) fun v s₁ k₁ r => st_name hk (x.kp k₁) hn fun s₂ x₂ st _ => h v s₁ s₂ k₁ r x₂ st) hs

/-! displays gone through -/
theorem Rv.uniq {h : Heap} {v : Value} {d d' : PyData} (a : Rv h v d) (b : Rv h v d') : d = d' := by
  obtain ⟨⟨_, p⟩, _⟩ := a
  obtain ⟨⟨_, q⟩, _⟩ := b
  exact (PySem.Reads.unique p _ _ q).1
open Classical in
def pOf (h : Heap) (pd : PyData → Bool) (v : Value) : Bool := if ∃ d, Rv h v d ∧ pd d = true then true else false
theorem pOf_eq {h : Heap} {pd : PyData → Bool} {v : Value} {d : PyData} (r : Rv h v d) : pOf h pd v = pd d := by
  unfold pOf
  split
  · rename_i hx
    obtain ⟨d', r', e⟩ := hx
    rw [r.uniq r', e]
  · rename_i hx
    cases e : pd d with
    | false => rfl
    | true => exact absurd ⟨d, r, e⟩ hx

/-- the tests of a clause, all of them -/
def TL (w : World) (A : Around) (env : Env) (s : Shared) (ifs : List PySem.Expr) (b : Bool) : Prop :=
  ∀ (s' : Shared) (Q : Bool → Shared → Prop) (E : Value → Shared → Prop), HK s s' → (∀ s'', Keeps s' s'' → Q b s'') →
    wpAny (model pw w) A (forIn ifs true fun c r => if r = true then do let ok ← isTrue c env (eval c env); pure (ForInStep.yield ok) else pure (ForInStep.yield r)) Q E s'
theorem tl_nil : TL w A env s [] true := fun s' Q E _ q => by rw [List.forIn_nil]; exact wpAny_pure (q _ (kp_refl _))
theorem tl_one {c : PySem.Expr} {b : Bool} (h : Ts w A env s c b) : TL w A env s [c] b := fun s' Q E k q => by
  rw [List.forIn_cons]
  simp only [if_true]
  refine wpAny_bind (wpAny_bind (h s' _ _ k fun s₁ k₁ => wpAny_pure ?_))
  dsimp only
  rw [List.forIn_nil]
  exact wpAny_pure (q _ k₁)

structure Sc (env : Env) (scope : Scope) (x : Str) (cl : List (Str × Addr)) : Prop where
  clos : closureFor scope env = pure cl
  cell : ∀ y ∈ scope.names, y.2 ≠ .cell
  kind : scope.kind = .function
  names : ∀ y ∈ scope.names, y.2 = .local → scope.names.lookup y.1 = some .local
  x : scope.names.lookup x = some .local

theorem paired_data {h : Heap} {pd : PyData → Bool} {G : PyData → Value → Prop} {F : Value → Value → Prop} (hF : ∀ v y, F v y → ∃ d, Rv h v d ∧ G d y) : ∀ {vs : List Value} {ds : List PyData} {ys : List Value}, vs.length = ds.length →
    (∀ (j : Nat) v, vs[j]? = some v → ∃ d, ds[j]? = some d ∧ Rv h v d) → Paired F (vs.filter (pOf h pd)) ys → Paired G (ds.filter pd) ys
  | [], [], ys, _, _, p => by simp at p ⊢; cases p; exact .nil
  | [], _ :: _, _, e, _, _ => by simp at e
  | _ :: _, [], _, e, _, _ => by simp at e
  | v :: vs, d :: ds, ys, e, hv, p => by
    obtain ⟨d', hd', r⟩ := hv 0 v rfl
    simp at hd'; subst hd'
    have ih := fun ys' => paired_data (pd := pd) hF (vs := vs) (ds := ds) (ys := ys') (by simpa using e) (fun j u hj => by simpa using hv (j + 1) u (by simpa using hj))
    rw [List.filter_cons, pOf_eq r] at p
    rw [List.filter_cons]
    split at p
    · rename_i hp
      rw [if_pos hp]
      cases p with
      | cons a b =>
        obtain ⟨d'', r'', g⟩ := hF _ _ a
        rw [← r.uniq r''] at g
        exact .cons g (ih _ b)
    · rename_i hp
      rw [if_neg hp]
      exact ih _ p

theorem paired_rvs {h : Heap} {f : PyData → PyData} : ∀ {ds : List PyData} {ys : List Value}, Paired (fun d y => Rv h y (f d)) ds ys → Rvs h ys (ds.map f)
  | [], _, p => by cases p; exact rvs_nil _
  | d :: ds, _, p => by cases p with | cons a b => exact rvs_cons a (paired_rvs b)

/-- the value of a display with flat items, or of one that only sifts: the items read in the state before -/
theorem comp_core {fr : Bool} {elt iter : PySem.Expr} {x : Str} {px : Pos} {ifs : List PySem.Expr} {scope : Scope} {cl : List (Str × Addr)} {pos : Pos} {ds : List PyData} (pd : PyData → Bool) (G : Heap → PyData → Value → Prop)
    (hit : Itr fr w A env s iter ds) (hz : ds.length ≤ sizeLine) (sc : Sc env scope x cl)
    (tests : ∀ C v d s₃, HK s s₃ → Bd (compEnvC scope cl C env) s₃.heap x v → Rv s₃.heap v d → d ∈ ds → TL w A (compEnvC scope cl C env) s₃ ifs (pd d))
    (helt : ∀ C v d s' s₃, HK s s' → HK s' s₃ → Bd (compEnvC scope cl C env) s₃.heap x v → Rv s'.heap v d → d ∈ ds → pd d = true → Ev w A (compEnvC scope cl C env) s₃ elt (fun _ y => G s'.heap d y))
    (s' : Shared) (RR : Value → Addr → Result → Shared → Prop) (E : Value → Shared → Prop) (k : HK s s')
    (q : ∀ D C h' tk m' ys, s'.heap.get? D = none → s'.heap.get? C = none → D ≠ C → h'.Ns C m' → h'.IsList D ys → Paired (G s'.heap) (ds.filter pd) ys.toList → (∀ b o, s'.heap.get? b = some o → h'.get? b = some o) → RR (.ref D) C (.ok .next) { s' with heap := h', toks := tk }) :
    wpAny (model pw w) A (eval iter env) (fun xv s₁ => wpAny (model pw w) A (pyIter xv) (fun it s₂ =>
      wpAny (model pw w) A (newList []) (fun acc s₃ => wpAny (model pw w) A (newFunctionEnv scope env.globals cl [] env.qual none .none (some env)) (fun cenv s₄ =>
        codeAny (model pw w) A (.compStart (.ListComp elt [⟨.Name x px, iter, ifs, 0⟩] scope pos) 0 it acc { cenv with scope := relabel scope env }) (RR acc cenv.locals) s₄) E s₃) E s₂) E s₁) E s' := by
  refine hit s' _ _ k fun I fp wr P St s₂ k₂ W st0 hfp hwr _ hP => ?_
  have hup : ∀ s₃ : Shared, (∀ b o, b ∉ wr → s₂.heap.get? b = some o → s₃.heap.get? b = some o) → HK s' s₃ := fun s₃ hk3 b o e => hk3 b o (fun hb => by rw [hwr b hb] at e; cases e) (kp_heap k₂ b o e)
  have hx : ∀ C, (compEnvC scope cl C env).kindOf x = some .local := fun C => lookup_relabel_local sc.x
  refine comp_block_walkC (W := W.W) (hsz := hz) (p := pOf s'.heap pd) (F := fun v y => ∃ d, Rv s'.heap v d ∧ G s'.heap d y) (hcell := sc.cell) (hkind := sc.kind) (hx := sc.x) (hst := st0) (hfp := hfp) (hq := ⟨?_, ?_⟩) ?_
  · intro C i v s₃ m₃ E' hC hv hn hm hk3 _
    obtain ⟨d, hd, r⟩ := hP i v hv
    have h3 := hup s₃ hk3
    refine tests C v d s₃ (hk2 k h3) (.inl ⟨hx C, m₃, hn, hm⟩) (r.keep h3) (List.mem_of_getElem? hd) s₃ _ _ (hk_refl _) fun s₄ k₄ => ⟨(pOf_eq r).symm, k₄⟩
  · intro C i v s₃ m₃ E' hC hv hp hn hm hk3 _
    obtain ⟨d, hd, r⟩ := hP i v hv
    have h3 := hup s₃ hk3
    rw [pOf_eq r] at hp
    exact helt C v d s' s₃ k h3 (.inl ⟨hx C, m₃, hn, hm⟩) r (List.mem_of_getElem? hd) hp s₃ _ _ (hk_refl _) fun y s₄ k₄ g => ⟨⟨d, r, g⟩, k₄⟩
  · intro D C h' tk m' ys vs hD hC hDC hn hl _ hlen hPv hF hk'
    have := q D C h' tk m' ys (fresh_hk (kp_heap k₂) hD) (fresh_hk (kp_heap k₂) hC) hDC hn hl (paired_data (fun v y h => h) hlen (fun j v hj => hP j v (hPv j v hj)) hF) (fun b o e => hk' b o (fun hb => by rw [hwr b hb] at e; cases e) (kp_heap k₂ b o e))
    obtain ⟨h₂, t₂, rfl, _⟩ := k₂
    exact this
end
end
end Mine
end
noncomputable section
open PySem PySem.W PyProof.Rows PySem.Calls
set_option Elab.async false
set_option maxRecDepth 100000
set_option linter.unusedVariables false
namespace Mine
noncomputable section
section
variable {w : World} {A : Around} {env : Env} {s s₀ : Shared}
variable {elt iter : PySem.Expr} {x : Str} {px : Pos} {ifs : List PySem.Expr} {scope : Scope} {cl : List (Str × Addr)} {pos : Pos} {ds : List PyData}

/-- the display's run ends in a new list that is so -/
def Core (w : World) (A : Around) (env : Env) (elt iter : PySem.Expr) (x : Str) (px : Pos) (ifs : List PySem.Expr) (scope : Scope) (cl : List (Str × Addr)) (pos : Pos) (s' : Shared) (Fin : Addr → Heap → Prop) : Prop :=
  ∀ (RR : Value → Addr → Result → Shared → Prop) (E : Value → Shared → Prop),
    (∀ D C h' tk m', s'.heap.get? D = none → s'.heap.get? C = none → D ≠ C → h'.Ns C m' → (∀ h'', Heap.SameBut C h' h'' → Fin D h'') → Fin D h' → (∀ b o, s'.heap.get? b = some o → h'.get? b = some o) → RR (.ref D) C (.ok .next) { s' with heap := h', toks := tk }) →
    wpAny (model pw w) A (eval iter env) (fun xv s₁ => wpAny (model pw w) A (pyIter xv) (fun it s₂ =>
      wpAny (model pw w) A (newList []) (fun acc s₃ => wpAny (model pw w) A (newFunctionEnv scope env.globals cl [] env.qual none .none (some env)) (fun cenv s₄ =>
        codeAny (model pw w) A (.compStart (.ListComp elt [⟨.Name x px, iter, ifs, 0⟩] scope pos) 0 it acc { cenv with scope := relabel scope env }) (RR acc cenv.locals) s₄) E s₃) E s₂) E s₁) E s'

theorem core_flat {fr : Bool} (pd : PyData → Bool) (G : Heap → PyData → Value → Prop)
    (hit : Itr fr w A env s iter ds) (hz : ds.length ≤ sizeLine) (sc : Sc env scope x cl)
    (tests : ∀ C v d s₃, HK s s₃ → Bd (compEnvC scope cl C env) s₃.heap x v → Rv s₃.heap v d → d ∈ ds → TL w A (compEnvC scope cl C env) s₃ ifs (pd d))
    (helt : ∀ C v d s' s₃, HK s s' → HK s' s₃ → Bd (compEnvC scope cl C env) s₃.heap x v → Rv s'.heap v d → d ∈ ds → pd d = true → Ev w A (compEnvC scope cl C env) s₃ elt (fun _ y => G s'.heap d y))
    (s' : Shared) (k : HK s s') : Core w A env elt iter x px ifs scope cl pos s' (fun D h => ∃ ys, h.IsList D ys ∧ Paired (G s'.heap) (ds.filter pd) ys.toList) :=
  fun RR E q => comp_core pd G hit hz sc tests helt s' RR E k fun D C h' tk m' ys hD hC hDC hn hl hp hk' =>
    q D C h' tk m' hD hC hDC hn (fun h'' hs => ⟨ys, hl.extBut hs.extBut hDC, hp⟩) ⟨ys, hl, hp⟩ hk'

/-- items that are new lists -/
theorem core_lists {fr : Bool} (pd : PyData → Bool) (GG : PyData → Array Value → Prop)
    (hit : Itr fr w A env s iter ds) (hz : ds.length ≤ sizeLine) (sc : Sc env scope x cl)
    (tests : ∀ C v d s₃, HK s s₃ → Bd (compEnvC scope cl C env) s₃.heap x v → Rv s₃.heap v d → d ∈ ds → TL w A (compEnvC scope cl C env) s₃ ifs (pd d))
    (helt : ∀ C v d s₃ (Q : Value → Shared → Prop) (E : Value → Shared → Prop), HK s s₃ → Bd (compEnvC scope cl C env) s₃.heap x v → Rv s₃.heap v d → d ∈ ds → pd d = true →
      (∀ T its s₄, Keeps s₃ s₄ → s₃.heap.get? T = none → s₄.heap.IsList T its → GG d its → Q (.ref T) s₄) → wpAny (model pw w) A (eval elt (compEnvC scope cl C env)) Q E s₃)
    (s' : Shared) (k : HK s s') : Core w A env elt iter x px ifs scope cl pos s' (fun D h => ∃ ys, h.IsList D ys ∧ Paired (fun d y => ∃ T its, y = .ref T ∧ h.IsList T its ∧ GG d its) (ds.filter pd) ys.toList) := by
  intro RR E q
  refine hit s' _ _ k fun I fp wr P St s₂ k₂ W st0 hfp hwr _ hP => ?_
  have hup : ∀ s₃ : Shared, (∀ b o, b ∉ wr → s₂.heap.get? b = some o → s₃.heap.get? b = some o) → HK s' s₃ := fun s₃ hk3 b o e => hk3 b o (fun hb => by rw [hwr b hb] at e; cases e) (kp_heap k₂ b o e)
  have hx : ∀ C, (compEnvC scope cl C env).kindOf x = some .local := fun C => lookup_relabel_local sc.x
  refine comp_block_walkCO (W := W.W) (hsz := hz) (p := pOf s'.heap pd) (G := fun v its => ∃ d, Rv s'.heap v d ∧ GG d its) (hlive := fun i h st b hb => let ⟨o, ho, _⟩ := W.flds i h st b hb; ⟨o, ho⟩) (hcell := sc.cell) (hkind := sc.kind) (hx := sc.x) (hst := st0) (hfp := hfp) (hq := ⟨?_, ?_⟩) ?_
  · intro C i v s₃ m₃ E' hC hv hn hm hk3 _
    obtain ⟨d, hd, r⟩ := hP i v hv
    have h3 := hup s₃ hk3
    refine tests C v d s₃ (hk2 k h3) (.inl ⟨hx C, m₃, hn, hm⟩) (r.keep h3) (List.mem_of_getElem? hd) s₃ _ _ (hk_refl _) fun s₄ k₄ => ⟨(pOf_eq r).symm, k₄⟩
  · intro C i v s₃ m₃ E' hC hv hp hn hm hk3 _
    obtain ⟨d, hd, r⟩ := hP i v hv
    have h3 := hup s₃ hk3
    rw [pOf_eq r] at hp
    exact helt C v d s₃ _ _ (hk2 k h3) (.inl ⟨hx C, m₃, hn, hm⟩) (r.keep h3) (List.mem_of_getElem? hd) hp fun T its s₄ k₄ hT hl g => ⟨⟨T, its, rfl, hT, hl, d, r, g⟩, k₄⟩
  · intro D C h' tk m' ys vs hD hC hDC hn hl _ hlen hPv hF _ hk'
    have fin : ∀ h'', Heap.SameBut C h' h'' → ∃ ys, h''.IsList D ys ∧ Paired (fun d y => ∃ T its, y = .ref T ∧ h''.IsList T its ∧ GG d its) (ds.filter pd) ys.toList := fun h'' hs =>
      ⟨ys, hl.extBut hs.extBut hDC, paired_data (h := s'.heap) (fun v y hy => by
        obtain ⟨T, its, rfl, _, hTC, _, _, hlT, d, r, g⟩ := hy
        exact ⟨d, r, T, its, rfl, hlT.extBut hs.extBut hTC, g⟩) hlen (fun j v hj => hP j v (hPv j v hj)) hF⟩
    have fin' : ∃ ys, h'.IsList D ys ∧ Paired (fun d y => ∃ T its, y = .ref T ∧ h'.IsList T its ∧ GG d its) (ds.filter pd) ys.toList :=
      ⟨ys, hl, paired_data (h := s'.heap) (fun v y hy => by
        obtain ⟨T, its, rfl, _, hTC, _, _, hlT, d, r, g⟩ := hy
        exact ⟨d, r, T, its, rfl, hlT, g⟩) hlen (fun j v hj => hP j v (hPv j v hj)) hF⟩
    have := q D C h' tk m' (fresh_hk (kp_heap k₂) hD) (fresh_hk (kp_heap k₂) hC) hDC hn fin fin' (fun b o e => hk' b o (fun hb => by rw [hwr b hb] at e; cases e) (kp_heap k₂ b o e))
    obtain ⟨h₂, t₂, rfl, _⟩ := k₂
    exact this

theorem ev_core {Fin : Shared → Addr → Heap → Prop} (sc : Sc env scope x cl) (c : ∀ s', HK s s' → Core w A env elt iter x px ifs scope cl pos s' (Fin s'))
    (s' : Shared) (Q : Value → Shared → Prop) (E : Value → Shared → Prop) (k : HK s s') (q : ∀ D s'', Keeps s' s'' → s'.heap.get? D = none → Fin s' D s''.heap → Q (.ref D) s'')
    (hs : ∀ x, foldedSetIterable iter env x = pure x := by intro _; rfl) : wpAny (model pw w) A (eval (.ListComp elt [⟨.Name x px, iter, ifs, 0⟩] scope pos) env) Q E s' := by
  rw [eval_ListComp]
  refine wpAny_comprehension_free (use := none) rfl hs sc.clos sc.kind sc.names (c s' k (fun acc C => compPost (model pw w) A E none Q acc C) E fun D C h' tk m' hD hC hDC hn hfin _ hk' => ?_)
  exact ⟨m', hn, fun h'' hs'' => q D _ ⟨h'', tk, rfl, fun b o e => hs''.extBut b o (by rintro rfl; rw [hC] at e; cases e) (hk' b o e)⟩ hD (hfin h'' hs'')⟩

theorem as_core {Fin : Shared → Addr → Heap → Prop} {y : Str} {py spos : Pos} {Q : Flow → Shared → Prop} {E : Value → Shared → Prop} (sc : Sc env scope x cl) (c : ∀ s', HK s s' → Core w A env elt iter x px ifs scope cl pos s' (Fin s'))
    (hk : env.scope.kind = .function) (X : Fm s₀ env s) (hy : env.kindOf y = some .local)
    (q : ∀ D s₁ s₂, Keeps s s₁ → s.heap.get? D = none → Fin s D s₁.heap → Fm s₀ env s₂ → Sto env y (.ref D) s₁ s₂ → Q .next s₂)
    (hsw : swapsWith (.ListComp elt [⟨.Name x px, iter, ifs, 0⟩] scope pos) (some (.Name y py)) spos.line env = pure true)
    (hs : ∀ x, foldedSetIterable iter env x = pure x := by intro _; rfl) : wpAny (model pw w) A (exec (.Assign [.Name y py] (.ListComp elt [⟨.Name x px, iter, ifs, 0⟩] scope pos) spos) env) Q E s := by
  rw [exec_Assign_Name_used _ _ _ _ hsw]
  refine wpAny_bind (wpAny_standAt (wpAny_bind ?_))
  show wpAny _ A (do let _ ← comprehension (.ListComp elt [⟨.Name x px, iter, ifs, 0⟩] scope pos) scope env _ (newList []) false (eval iter env) (some (assign (.Name y py) env))) _ _ s
  refine wpAny_bind (wpAny_mono (wpAny_comprehension_free (use := some (assign (.Name y py) env)) (Q := fun _ s' => Q .next s') rfl hs sc.clos sc.kind sc.names
    (c s (hk_refl _) (fun acc C => compPost (model pw w) A E (some (assign (.Name y py) env)) (fun _ s' => Q .next s') acc C) E fun D C h' tk m' hD hC hDC hn _ hfin hk' => ?_)) (fun _ s' hq => wpAny_pure (wpAny_pure hq)) fun _ _ e => e)
  have kk : Keeps s { s with heap := h', toks := tk } := ⟨h', tk, rfl, hk'⟩
  have X₁ := X.kp kk
  show wpAny _ A (assign (.Name y py) env (.ref D)) _ _ _
  refine wpAny_assign_Name (st_name hk X₁ (.inl hy) fun s₂ X₂ st hsb' => ?_)
  obtain ⟨h₂, t₂, e₂⟩ := st.ef.same
  have hCs : ∀ b o, s.heap.get? b = some o → b ≠ C := by rintro b o e rfl; rw [hC] at e; cases e
  have hL : env.locals ≠ C := by obtain ⟨m, cm, X⟩ := X; obtain ⟨o, _, _, ho, _⟩ := X.toInCall.ns; exact hCs _ _ ho
  have hcl : ∀ n c, env.cells.lookup n = some c → c ≠ C := by obtain ⟨m, cm, X⟩ := X; intro n c e; obtain ⟨o, ho, _⟩ := X.cell n c e; exact hCs _ _ ho
  obtain ⟨a, ha, hsb⟩ := hsb'
  have haC : a ≠ C := by
    rcases ha with rfl | ⟨n, hn⟩
    · exact hL
    · exact hcl n a hn
  refine ⟨m', hn.sameBut hsb (Ne.symm haC), fun h₃ hs₃ => ?_⟩
  have hard : ∀ b o, s₂.heap.get? b = some o → b ≠ C → h₃.get? b = some o := fun b o e hb => hs₃.extBut b o hb e
  have X₃ : Fm s₀ env { s₂ with heap := h₃ } := by
    have hX := X₂.base
    obtain ⟨m₂, cm₂, ⟨⟨g1, g2, g3, g4⟩, g5, g6, g7⟩⟩ := X₂
    refine ⟨m₂, cm₂, ⟨⟨?_, g2.sameBut hs₃ hL, fun b o e => hard b o (g3 b o e) (hCs b o (X.base b o e)), g4⟩, fun n c e => (g5 n c e).sameBut hs₃ (hcl n c e), g6, g7⟩⟩
    obtain ⟨h, t, rfl⟩ := g1; exact ⟨_, _, rfl⟩
  have bdUp : ∀ n v, Bd env s₂.heap n v → Bd env h₃ n v := by
    rintro n v (⟨e, m, hm, hv⟩ | ⟨e, c, hc, hv⟩)
    · exact .inl ⟨e, m, hm.sameBut hs₃ hL, hv⟩
    · exact .inr ⟨e, c, hc, hv.sameBut hs₃ (hcl n c hc)⟩
  refine q D { s with heap := h', toks := tk } { s₂ with heap := h₃ } kk hD hfin X₃ ?_
  refine ⟨⟨?_, fun b o e qq nn => hard b o (st.ef.keep b o e qq nn) ?_⟩, bdUp _ _ st.new, fun n' v' hne hb => bdUp _ _ (st.old n' v' hne hb)⟩
  · subst e₂; exact ⟨_, _, rfl⟩
  · rintro rfl
    obtain ⟨o', es, ep, h1, h2, _⟩ := hn
    have e' : h'.get? b = some o := e
    rw [e'] at h1; cases h1
    unfold soft at qq; rw [h2] at qq; cases qq
end
end
end Mine
end
noncomputable section
open PySem PySem.W PyProof.Rows PySem.Calls
set_option Elab.async false
set_option maxRecDepth 100000
set_option linter.unusedVariables false
namespace Mine
noncomputable section
/-- how deep we stand -/
structure Ok (k : Nat) (A : Around) : Prop where
  handled : A.handled = none
  depth : A.depth ≤ claimMargin + 1 + k
  units : A.units ≤ 4 + 3 * k
theorem Ok.deeper {k : Nat} {A : Around} (h : Ok k A) (env : Env) : Ok (k + 1) (A.deeper env) := ⟨h.handled, by show A.depth + 1 ≤ _; have := h.depth; omega, by show A.units + 3 ≤ _; have := h.units; omega⟩
theorem ok_caller : Ok 0 callerA := ⟨rfl, by show 1 + claimMargin ≤ _; omega, Nat.le_refl _⟩
theorem Ok.line {k : Nat} {A : Around} (h : Ok k A) (hk : k ≤ 20) : A.units + 64 < cLine := by have := h.units; show _ < 9900; omega
theorem Ok.room {k : Nat} {A : Around} (h : Ok k A) (hk : k ≤ 20) : A.depth < recursionLimit := by have := h.depth; have e : claimMargin = 300 := rfl; show _ < 1000; omega
theorem noLimit (P : Params) : (H_11 P).NoLimit := ⟨_, Heap.Ns.of_isNs (by kernel_rfl : (H_11 P).isNs cStatics = true), by kernel_rfl⟩

section
variable {w : World} {A : Around} {s : Shared}
theorem enter {k : Nat} {a : Addr} {o : Obj} {fd : FuncData} {body : List Stmt} {vals : List Value} {binds : List (Str × Value)} {P : Value → Shared → Prop} {Q : Value → Shared → Prop} {E : Value → Shared → Prop}
    (B : Base w s) (ok : Ok k A) (hk20 : k ≤ 20) (ho : (H_11 w.params).get? a = some o) (hdata : o.data = .func fd) (hcd : (H_11 w.params).codeRecOk fd.code fd.qualname = true) (hbody : fd.body = .stmts body)
    (hbind : bindArgs fd ⟨vals, []⟩ = pure binds) (hclo : fd.closure = [])
    (hkind : ∀ L, ∀ x ∈ binds, fd.scope.names.lookup x.1 = some .local ∨ (fd.scope.names.lookup x.1 = some .cell ∧ ((cellsFrom (L + 1) fd.scope.names []).lookup x.1).isSome = true))
    (hdis : binds.Pairwise fun x y => x.1 ≠ y.1)
    (h : ∀ (L : Addr) (s₁ : Shared) (E : Value → Shared → Prop), Fm s (callEnvC fd L a) s₁ → (∀ x ∈ binds, Bd (callEnvC fd L a) s₁.heap x.1 x.2) →
      wpAny (model pw w) (A.deeper (callEnvC fd L a)) (execs body (callEnvC fd L a)) (fun f s' => ∃ v, f = .ret v ∧ Fm s (callEnvC fd L a) s' ∧ P v s') E s₁)
    (q : ∀ v s', Keeps s s' → P v s' → Q v s')
    (hco : fd.scope.isCoroutine = false) (hgen : fd.scope.isGenerator = false) (hk : fd.scope.kind = .function) : wpAny (model pw w) A (call (.ref a) vals) Q E s := by
  refine wpAny_call (codeAny_call_cells (ok.room hk20) (B a o ho) hdata ((noLimit _).keeps B) ((Heap.CodeRec.of_ok hcd).keeps B) hbody hbind hclo (hkind _) (fun s₁ x => ?_) hco hgen hk)
  have X : Fm s (callEnvC fd s.heap.objs.size a) s₁ := ⟨_, _, x⟩
  refine wpAny_mono (h s.heap.objs.size s₁ _ X ?_) (fun f s' hf => ?_) fun _ _ e => e
  · have gen : ∀ (bs : List (Str × Value)) (m cm : Str → Option Value), bs.Pairwise (fun x y => x.1 ≠ y.1) → ∀ n, 
        (∀ v, (n, v) ∈ bs → ((callEnvC fd s.heap.objs.size a).kindOf n = some .local → bindL (callEnvC fd s.heap.objs.size a).kindOf bs m n = some v) ∧ ((callEnvC fd s.heap.objs.size a).kindOf n ≠ some .local → bindC (callEnvC fd s.heap.objs.size a).kindOf bs cm n = some v)) ∧
        ((∀ v, (n, v) ∉ bs) → bindL (callEnvC fd s.heap.objs.size a).kindOf bs m n = m n ∧ bindC (callEnvC fd s.heap.objs.size a).kindOf bs cm n = cm n) := by
      intro bs
      induction bs with
      | nil => intro m cm _ n; exact ⟨fun v hv => (nomatch hv), fun _ => ⟨rfl, rfl⟩⟩
      | cons p r ih =>
        obtain ⟨n', v'⟩ := p
        intro m cm hp n
        obtain ⟨hp1, hp2⟩ := List.pairwise_cons.mp hp
        unfold bindL bindC
        have ih' := ih (if (callEnvC fd s.heap.objs.size a).kindOf n' = some .local then fun y => if y = n' then some v' else m y else m) (if (callEnvC fd s.heap.objs.size a).kindOf n' = some .local then cm else fun y => if y = n' then some v' else cm y) hp2 n
        refine ⟨fun v hv => ?_, fun hno => ?_⟩
        · rcases List.mem_cons.mp hv with e | hv
          · cases e
            have hno : ∀ v, (n', v) ∉ r := fun u hu => hp1 _ hu rfl
            obtain ⟨e1, e2⟩ := ih'.2 hno
            refine ⟨fun hl => ?_, fun hl => ?_⟩
            · rw [e1, if_pos hl]; simp
            · rw [e2, if_neg hl]; simp
          · exact ih'.1 v hv
        · have hne : n ≠ n' := fun e => hno v' (by rw [e]; exact List.mem_cons_self)
          obtain ⟨e1, e2⟩ := ih'.2 fun v hv => hno v (List.mem_cons_of_mem _ hv)
          rw [e1, e2]
          constructor
          · split
            · simp [hne]
            · rfl
          · split
            · rfl
            · simp [hne]
    rintro ⟨n, v⟩ hx
    have g := (gen binds (fun _ => none) (fun _ => none) hdis n).1 v hx
    rcases hkind s.heap.objs.size (n, v) hx with hl | ⟨hl, hc⟩
    · have hl' : (callEnvC fd s.heap.objs.size a).kindOf n = some .local := hl
      exact .inl ⟨hl', _, x.toInCall.ns, g.1 hl'⟩
    · have hl' : (callEnvC fd s.heap.objs.size a).kindOf n = some .cell := hl
      obtain ⟨c, hc⟩ := Option.isSome_iff_exists.mp hc
      have hc' : (callEnvC fd s.heap.objs.size a).cells.lookup n = some c := hc
      refine .inr ⟨hl', c, hc', ?_⟩
      have := x.cell n c hc'
      rw [g.2 (by rw [hl']; decide)] at this
      exact this
  · obtain ⟨v, rfl, X', p⟩ := hf
    exact q v s' X'.done p
end

/-- a row: a text or a list of ints -/
abbrev rowD (k : Bool) (x : List Nat) : PyData := if k = true then St' x else .list (x.map fun (c : Nat) => PyData.int (c : Int))
abbrev elD (k : Bool) (c : Nat) : PyData := if k = true then St' [c] else .int (c : Int)
section
variable {w : World} {A : Around} {env : Env} {s : Shared}
theorem ed_len_row {k : Bool} {f e : PySem.Expr} {pos : Pos} {x : List Nat} (hf : Ev w A env s f (fun _ v => v = .builtin "len")) (he : Ed w A env s e (rowD k x)) (hx : x.length < 2 ^ 62)
    (hc : eval (.Call f [e] [] pos) env = (do callWith pos (← eval f env) [] (backTo pos (starEach [e] env)) (backToKw pos (keywordEach [] env))) := by rfl)
    (hs : starEach [e] env = (false, eval e env) :: starEach [] env := by rfl) : Ed w A env s (.Call f [e] [] pos) (.int (x.length : Nat)) := by
  cases k with
  | true => exact (ed_len_str hf he (by rw [tx_len]; omega) hc hs).eq (by rw [tx_len])
  | false => exact (ed_len_list hf he (by simp; omega) hc hs).eq (by simp)
theorem ed_item_row {k : Bool} {e i : PySem.Expr} {pos : Pos} {x : List Nat} {n c : Nat} (he : Ed w A env s e (rowD k x)) (hi : Ed w A env s i (.int (n : Nat))) (hn : n < 2 ^ 62) (hc : x[n]? = some c)
    (hs : ∀ o i', subscripted i false o i' = operate [o, i'] (getItem o i') := by intro _ _; rfl) (ht : ∀ o r, letTemporaryGo e o r = pure () := by intro _ _; rfl) : Ed w A env s (.Subscript e i pos) (elD k c) := by
  cases k with
  | true => exact ed_sign he hi (by omega) (by omega) (by simpa using hc) hs (fun _ _ _ => ht _ _)
  | false => exact ed_item he hi (by omega) (by omega) (by simp [hc]) hs ht
theorem c_ne_el {k : Bool} {a b : Nat} : ∀ u v (s' : Shared) (Q : Value → Shared → Prop) (E : Value → Shared → Prop), Rv s'.heap u (elD k a) → Rv s'.heap v (elD k b) → (∀ s'', Keeps s' s'' → Q (.bool (a != b)) s'') → wpAny (model pw w) A (compareOp .NotEq u v) Q E s' := by
  intro u v s' Q E ru rv q
  cases k with
  | true =>
    obtain ⟨t, rfl⟩ := Rv.str ru
    obtain ⟨t', rfl⟩ := Rv.str rv
    refine ne_str ?_
    have : ((⟨#[a]⟩ : Str) != (⟨#[b]⟩ : Str)) = (a != b) := by
      rw [bne, bne, Bool.eq_iff_iff]; simp
    rw [this]
    exact q _ (kp_refl _)
  | false =>
    obtain ⟨t, rfl⟩ := Rv.int ru
    obtain ⟨t', rfl⟩ := Rv.int rv
    refine ne_int ?_
    have : (((a : Int)) != (b : Int)) = (a != b) := by rw [bne, bne, Bool.eq_iff_iff]; simp [Int.natCast_inj]
    rw [this]
    exact q _ (kp_refl _)
end
end
end Mine
end
noncomputable section
open PySem PySem.W PyProof.Rows PySem.Calls
set_option Elab.async false
set_option maxRecDepth 100000
set_option linter.unusedVariables false
namespace Mine
noncomputable section
abbrev iD (n : Nat) : PyData := .int (n : Int)
section
variable {w : World} {A : Around} {env : Env} {s s₀ : Shared}

theorem mul_exact {l : Addr} {items : Array Value} {k : Nat} {x : Int} {u : Tok} {Q : Value → Shared → Prop} {E : Value → Shared → Prop}
    (hl : s.heap.get? l = some { cls := .type "list", dict := none, data := .seq items k, slots := #[] })
    (hlo : -(2 ^ 63 : Int) ≤ x) (hhi : x < 2 ^ 63) (hsz : items.size * x.toNat ≤ 2 ^ 24)
    (h : Q (.ref s.heap.objs.size) { s with heap := s.heap.push { cls := .type "list", data := .seq (List.foldl (fun x1 x2 => x1 ++ x2) #[] (List.replicate (if items.isEmpty = true then 0 else x.toNat) items)) } }) :
    wpAny (model pw w) A (binaryOp .Mult (.ref l) (.int x u)) Q E s :=
  wpAny_binaryOp_repeat_ref (T := "list") (U := "int") (by decide) ⟨_, hl, rfl⟩ (fun s' => typeIs_int s' x u) noFill_list_mul PySem.F.fills_int_mul PySem.F.slot_int_rmul repeat_list PySem.F.slot_int_index.lookup
    (call_meets PySem.F.slot_int_rmul (typeIs_int s x u) PySem.F.entry_int_rmul (PySem.F.args_int_rmul_2 _ _) (int___rmul___int_list x u l items k)
      ⟨hl, rfl, ⟨_, hl, rfl⟩, call_meets PySem.F.slot_list_mul ⟨_, hl, rfl⟩ PySem.F.entry_list_mul (PySem.F.args_list_mul_2 _ _)
        (AutoListH.list___mul___list_int_3 l items k x u (by simp [Builtin.List.listFitsIndex]; omega) (by omega) (by simp [Builtin.List.listTooLong, sizeLine]; omega))
        ⟨hl, h⟩⟩)

theorem ev_rep {e₀ e : PySem.Expr} {p pos : Pos} {P : Value → Prop} {n : Nat} (h0 : Ev w A env s e₀ (fun _ u => P u)) (hn : Ed w A env s e (iD n)) (hz : n ≤ 1000000) (s' : Shared) (Q : Value → Shared → Prop) (E : Value → Shared → Prop) (k : HK s s')
    (q : ∀ T u vs s'', Keeps s' s'' → s'.heap.get? T = none → P u → s''.heap.IsList T vs → vs.toList = List.replicate n u → Q (.ref T) s'')
    (h3 : starEach [e₀] env = (false, eval e₀ env) :: starEach [] env := by rfl) : wpAny (model pw w) A (eval (.BinOp (.List [e₀] p) .Mult e pos) env) Q E s' := by
  refine wpAny_BinOp (List_ (args_cons (h0 s' _ _ k fun u s₁ k₁ pu => args_nil ?_) h3))
  refine wpAny_newObj_type ?_ (by show (1 : Nat) ≤ sizeLine; rw [sizeLine_eq]; omega)
  have kp1 : Keeps s' { s₁ with heap := s₁.heap.push { cls := .type "list", data := .seq [u].toArray } } := kp_trans k₁ ⟨_, _, rfl, fun _ _ e => Heap.get?_push_of_some _ e⟩
  refine hn _ _ _ (hk k kp1) fun v s₂ k₂ r => ?_
  obtain ⟨t, rfl⟩ := r.int
  have hl : s₂.heap.get? s₁.heap.objs.size = some { cls := .type "list", dict := none, data := .seq #[u] 0, slots := #[] } := kp_heap k₂ _ _ (Heap.get?_push_size _ rfl)
  refine mul_exact hl (by omega) (by omega) (by simp; omega) ?_
  have hrep : (List.foldl (fun x1 x2 => x1 ++ x2) #[] (List.replicate (if (#[u] : Array Value).isEmpty = true then 0 else (n : Int).toNat) #[u])).toList = List.replicate n u := by
    have : ∀ (m : Nat) (acc : Array Value), (List.foldl (fun x1 x2 => x1 ++ x2) acc (List.replicate m #[u])).toList = acc.toList ++ List.replicate m u := by
      intro m
      induction m with
      | zero => intro acc; simp
      | succ m ih => intro acc; rw [List.replicate_succ, List.foldl_cons, ih, List.replicate_succ]; simp
    have h2 := this n #[]
    simpa using h2
  generalize List.foldl (fun x1 x2 => x1 ++ x2) #[] (List.replicate (if (#[u] : Array Value).isEmpty = true then 0 else (n : Int).toNat) #[u]) = arr at hrep ⊢
  have kp3 : Keeps s' { s₂ with heap := s₂.heap.push { cls := .type "list", data := .seq arr } } := kp_trans kp1 (kp_trans k₂ ⟨_, _, rfl, fun _ _ e => Heap.get?_push_of_some _ e⟩)
  exact q s₂.heap.objs.size u arr { s₂ with heap := s₂.heap.push { cls := .type "list", data := .seq arr } } kp3 (fresh_hk (kp_heap (kp_trans kp1 k₂)) (none_of_ge (Nat.le_refl _))) pu ⟨_, Heap.get?_push_size _ rfl, rfl, _, rfl⟩ hrep

theorem as_gen {n : Str} {e : PySem.Expr} {px pos : Pos} {R : Value → Shared → Prop} {Q : Flow → Shared → Prop} {E : Value → Shared → Prop} (hk : env.scope.kind = .function) (x : Fm s₀ env s)
    (he : ∀ Q' : Value → Shared → Prop, (∀ v s₁, Keeps s s₁ → R v s₁ → Q' v s₁) → wpAny (model pw w) A (eval e env) Q' E s)
    (hn : env.kindOf n = some .local ∨ (env.kindOf n = some .cell ∧ (env.cells.lookup n).isSome = true))
    (h : ∀ v s₁ s₂, Keeps s s₁ → R v s₁ → Fm s₀ env s₂ → Sto env n v s₁ s₂ → Q .next s₂)
    (hs : swapsWith e (some (.Name n px)) pos.line env = pure false := by rfl) : wpAny (model pw w) A (exec (.Assign [.Name n px] e pos) env) Q E s :=
  wpAny_Assign_Name (he _ fun v s₁ k₁ r => st_name hk (x.kp k₁) hn fun s₂ x₂ st _ => h v s₁ s₂ k₁ r x₂ st) hs

/-- one list was changed -/
structure Mu (T : Addr) (s s' : Shared) : Prop where
  same : ∃ h t, s' = { s with heap := h, toks := t }
  keep : ∀ b o, b ≠ T → s.heap.get? b = some o → s'.heap.get? b = some o
theorem Mu.ef {T : Addr} {s s' : Shared} (m : Mu T s s') : Ef [T] s s' := ⟨m.same, fun b o e _ n => m.keep b o (by simpa using n) e⟩
theorem Mu.hard {T : Addr} {s s' : Shared} {vs : Array Value} (m : Mu T s s') (hl : s.heap.IsList T vs) : ∀ b o, s.heap.get? b = some o → soft o = false → s'.heap.get? b = some o := fun b o e q => m.keep b o (by
  rintro rfl
  obtain ⟨o', ho, _, n, hd⟩ := hl
  rw [e] at ho; cases ho
  rw [soft_seq hd] at q; cases q) e
theorem Fm.mu {T : Addr} {s s' : Shared} {vs : Array Value} (x : Fm s₀ env s) (m : Mu T s s') (hl : s.heap.IsList T vs) (hT : s₀.heap.get? T = none) : Fm s₀ env s' :=
  x.keep m.same (m.hard hl) fun b o e => m.keep b o (by rintro rfl; rw [hT] at e; cases e) (x.base b o e)
theorem Bd.mu {T : Addr} {s s' : Shared} {vs : Array Value} {n : Str} {v : Value} (b : Bd env s.heap n v) (m : Mu T s s') (hl : s.heap.IsList T vs) : Bd env s'.heap n v := b.keep (m.hard hl)

theorem as_item {o i e : PySem.Expr} {p pos : Pos} {T : Addr} {vs : Array Value} {n : Nat} {d : PyData} {Q : Flow → Shared → Prop} {E : Value → Shared → Prop}
    (he : Ed w A env s e d) (ho : Ev w A env s o (fun _ v => v = .ref T)) (hi : Ed w A env s i (iD n)) (hl : s.heap.IsList T vs) (hn : n < vs.size) (hz : vs.size < 2 ^ 62)
    (h : ∀ v s₁ s₂, Keeps s s₁ → Rv s₁.heap v d → Mu T s₁ s₂ → s₂.heap.IsList T (vs.setIfInBounds n v) → Q .next s₂)
    (hs : swapsWith e (some (.Subscript o i p)) pos.line env = pure false := by rfl) : wpAny (model pw w) A (exec (.Assign [.Subscript o i p] e pos) env) Q E s :=
  wpAny_Assign_Subscript (he s _ _ (hk_refl _) fun v s₁ k₁ r => ho s₁ _ _ (kp_heap k₁) fun ov s₂ k₂ hov => hi s₂ _ _ (kp_heap (kp_trans k₁ k₂)) fun iv s₃ k₃ ri => by
    subst hov
    obtain ⟨t, rfl⟩ := ri.int
    have kk := kp_trans k₁ (kp_trans k₂ k₃)
    have hl₃ : s₃.heap.IsList T vs := hl.at fun o e => kp_heap kk _ o e
    refine wpAny_setItem_list hl₃ (by omega) (by omega) (by omega) fun h' hl' hs' => ?_
    exact h v s₃ _ kk (r.kp (kp_trans k₂ k₃)) ⟨⟨_, _, rfl⟩, fun b o hb e => hs'.extBut b o hb e⟩ (by simpa using hl')) hs
end
end
end Mine
end
noncomputable section
open PySem PySem.W PyProof.Rows PySem.Calls
set_option Elab.async false
set_option maxRecDepth 100000
set_option linter.unusedVariables false
namespace Mine
noncomputable section
theorem gm_len (P : Params) : (H_11 P).nsMap mainGlobals (Str.ofString "len") = none := by kernel_rfl
theorem gb_len (P : Params) : (H_11 P).nsMap builtinsNs (Str.ofString "len") = some (.builtin "len") := by kernel_rfl
theorem gm_range (P : Params) : (H_11 P).nsMap mainGlobals (Str.ofString "range") = none := by kernel_rfl
theorem gb_range (P : Params) : (H_11 P).nsMap builtinsNs (Str.ofString "range") = some (.type "range") := by kernel_rfl
theorem ne_names {a b : String} (h : (Str.ofString a == Str.ofString b) = false := by kernel_rfl) : Str.ofString a ≠ Str.ofString b := by
  intro e; rw [e] at h; simp at h

def fd1 : FuncData := { name := Str.ofString "_generate_overlap_table", qualname := Str.ofString "_generate_overlap_table", params := fnArgs 1, body := .stmts (fnBody 1), scope := fnScope 1, globals := 3, closure := [], defaults := Value.none, kwdefaults := Value.none, doc := Value.none, pyModule := Value.str (Str.ofString "cpy313.re._compiler") 187, annotations := none, code := Value.ref 20, closureTuple := Value.none, builtins := 0 }

/-- the table so far: the first j places are right -/
def tabN (x : List Nat) (j : Nat) : List Nat := (List.range x.length).map fun t => if t < j then lb x (t + 1) else 0
theorem tabN_len (x : List Nat) (j : Nat) : (tabN x j).length = x.length := by simp [tabN]
theorem tabN_get {x : List Nat} {j t : Nat} (ht : t < x.length) : (tabN x j)[t]? = some (if t < j then lb x (t + 1) else 0) := by simp [tabN, ht]
theorem tabN_zero (x : List Nat) : tabN x 1 = List.replicate x.length 0 := by
  apply List.ext_getElem?
  intro t
  rcases Nat.lt_or_ge t x.length with h | h
  · rw [tabN_get h]
    simp [h]
    intro h0; subst h0; exact lb_one x
  · rw [List.getElem?_eq_none (by rw [tabN_len]; exact h), List.getElem?_eq_none (by simpa using h)]
theorem tabN_full (x : List Nat) {j : Nat} (h : x.length ≤ j) : tabN x j = tbl x := by
  unfold tabN tbl
  refine List.map_congr_left fun t ht => ?_
  rw [if_pos (by simp at ht; omega)]
theorem tabN_set {x : List Nat} {m v : Nat} (hm : m < x.length) (hv : lb x (m + 1) = v) : (tabN x m).set m v = tabN x (m + 1) := by
  apply List.ext_getElem?
  intro t
  rcases Nat.lt_or_ge t x.length with h | h
  · rw [tabN_get h, List.getElem?_set]
    by_cases e : m = t
    · subst e; rw [if_pos rfl, if_pos (by rw [tabN_len]; exact h), if_pos (by omega), hv]
    · rw [if_neg e, tabN_get h]
      congr 1
      by_cases h2 : t < m
      · rw [if_pos h2, if_pos (by omega)]
      · rw [if_neg h2, if_neg (by omega)]
  · rw [List.getElem?_eq_none (by simp [tabN_len]; exact h), List.getElem?_eq_none (by rw [tabN_len]; exact h)]

theorem Rvs.set {h : Heap} : ∀ {vs : List Value} {ds : List PyData} {n : Nat} {v : Value} {d : PyData}, Rvs h vs ds → Rv h v d → Rvs h (vs.set n v) (ds.set n d)
  | [], [], _, _, _, r, _ => r
  | [], _ :: _, _, _, _, ⟨⟨_, q⟩, _⟩, _ => nomatch q
  | _ :: _, [], _, _, _, ⟨⟨_, q⟩, _⟩, _ => nomatch q
  | _ :: _, _ :: _, 0, _, _, r, rv => rvs_cons rv r.uncons.2
  | _ :: _, _ :: _, n + 1, _, _, r, rv => rvs_cons r.uncons.1 (Rvs.set r.uncons.2 rv)
theorem flat_ints (l : List Nat) : ∀ d ∈ l.map iD, flat d = true := by intro d hd; simp at hd; obtain ⟨n, _, rfl⟩ := hd; rfl
theorem rvs_rep {h : Heap} {u : Value} {d : PyData} (r : Rv h u d) : ∀ n, Rvs h (List.replicate n u) (List.replicate n d)
  | 0 => rvs_nil _
  | n + 1 => rvs_cons r (rvs_rep r n)

theorem at_get {x : List Nat} {m : Nat} (h : m < x.length) : x[m]? = some (at' x m) := by simp [at', List.getD, h]
theorem kp_ef {O : List Addr} {a b : Shared} (k : Keeps a b) : Ef O a b := Ef.of k
theorem Ed.all {w : World} {A : Around} {env : Env} {s : Shared} {e : PySem.Expr} {d : PyData} (h : Ed w A env s e d) (hf : flat d = true) : Ev w A env s e (fun _ u => ∀ h, Rv h u d) := fun s' Q E k q => h s' Q E k fun v s'' k'' r => q v s'' k'' fun h => r.flat hf
theorem isList_ef {O : List Addr} {s s' : Shared} {T : Addr} {vs : Array Value} (hl : s.heap.IsList T vs) (e : Ef O s s') (hT : T ∉ O) : s'.heap.IsList T vs := hl.at fun o x => by
  obtain ⟨o', ho, _, n, hd⟩ := hl
  rw [ho] at x; cases x
  exact e.keep _ _ ho (soft_seq hd) hT
theorem if_rule {w : World} {A : Around} {env : Env} {s : Shared} {test : PySem.Expr} {body orelse : List Stmt} {pos : Pos} {b : Bool} {Q : Flow → Shared → Prop} {E : Value → Shared → Prop} (ht : Ts w A env s test b)
    (h1 : b = true → ∀ s₁, Keeps s s₁ → wpAny (model pw w) A (execs body env) Q E s₁) (h2 : b = false → ∀ s₁, Keeps s s₁ → wpAny (model pw w) A (execs orelse env) Q E s₁) : wpAny (model pw w) A (exec (.If test body orelse pos) env) Q E s :=
  wpAny_If (ht s _ _ (hk_refl _) fun s₁ k₁ => by
    cases b with
    | true => exact h1 rfl s₁ k₁
    | false => exact h2 rfl s₁ k₁)

section
variable {w : World} {A : Around} {s : Shared}
set_option maxHeartbeats 1000000 in
theorem overlap_ok {k : Nat} {kd : Bool} {v : Value} {x : List Nat} {Q : Value → Shared → Prop} {E : Value → Shared → Prop} (B : Base w s) (ok : Ok k A) (hk : k ≤ 19) (r : Rv s.heap v (rowD kd x)) (hx : x.length ≤ 1000)
    (q : ∀ T vs s', Keeps s s' → s.heap.get? T = none → s'.heap.IsList T vs → Rvs s'.heap vs.toList ((tbl x).map iD) → Q (.ref T) s') : wpAny (model pw w) A (call (.ref 21) [v]) Q E s := by
  refine enter (k := k) (o := o21_1 w.params) (fd := fd1) (body := fnBody 1) (binds := [(Str.ofString "prefix", v)]) B ok (by omega) (by kernel_rfl) (by rfl) (by kernel_rfl) rfl (by kernel_rfl) rfl
    (fun L x hx => by simp at hx; subst hx; exact .inl (by kernel_rfl)) (by simp) (P := fun v s' => ∃ T vs, v = .ref T ∧ s.heap.get? T = none ∧ s'.heap.IsList T vs ∧ Rvs s'.heap vs.toList ((tbl x).map iD))
    (fun L s₁ E X hb => ?_) (fun u s' kk ⟨T, vs, e, h1, h2, h3⟩ => by subst e; exact q T vs s' kk h1 h2 h3) (by kernel_rfl) (by kernel_rfl) (by kernel_rfl)
  have hbP := hb _ (List.mem_singleton.mpr rfl)
  have G : Gl (callEnvC fd1 L 21) := ⟨by kernel_rfl, by kernel_rfl, by kernel_rfl⟩
  have kT : (callEnvC fd1 L 21).kindOf (Str.ofString "table") = some .local := by kernel_rfl
  have kI : (callEnvC fd1 L 21).kindOf (Str.ofString "i") = some .local := by kernel_rfl
  have kX : (callEnvC fd1 L 21).kindOf (Str.ofString "idx") = some .local := by kernel_rfl
  have kLen : (callEnvC fd1 L 21).kindOf (Str.ofString "len") = some .globalImplicit := by kernel_rfl
  have kRan : (callEnvC fd1 L 21).kindOf (Str.ofString "range") = some .globalImplicit := by kernel_rfl
  have ok' := ok.deeper (callEnvC fd1 L 21)
  generalize A.deeper (callEnvC fd1 L 21) = A' at ok' ⊢
  with_unfolding_all refine wpAny_execs_cons ?_
  clear hb
  generalize callEnvC fd1 L 21 = env at X hbP G kT kI kX kLen kRan ⊢
  have hh := ok'.handled
  have gLen : ∀ {s' : Shared} {pos : Pos}, HK s s' → Ev w A' env s' (.Name (Str.ofString "len") pos) (fun _ v => v = .builtin "len") := fun kk => ev_bl (B.hk kk) G kLen (gm_len _) (gb_len _)
  have gRan : ∀ {s' : Shared} {pos : Pos}, HK s s' → Ev w A' env s' (.Name (Str.ofString "range") pos) (fun _ v => v = .type "range") := fun kk => ev_bl (B.hk kk) G kRan (gm_range _) (gb_range _)
  have nP : ∀ {s' : Shared} {pos : Pos}, HK s s' → Bd env s'.heap (Str.ofString "prefix") v → Ed w A' env s' (.Name (Str.ofString "prefix") pos) (rowD kd x) := fun kk b => ed_name G.kind b (r.keep kk) (by kernel_rfl)
  -- table = [0] * len(prefix)
  refine as_gen (R := fun u s₂ => ∃ T vs, u = .ref T ∧ s.heap.get? T = none ∧ s₂.heap.IsList T vs ∧ Rvs s₂.heap vs.toList ((tabN x 1).map iD)) G.kind X (fun Q' hq => ?_) (.inl kT) ?_
  · refine ev_rep (P := fun u => ∀ h, Rv h u (iD 0)) (n := x.length) (s := s₁) ?_ (ed_len_row (k := kd) (gLen X.base) (nP X.base hbP) (by omega)) (by omega) s₁ _ _ (hk_refl _) fun T u vs s'' k'' hT pu hl hr => ?_
    · exact fun s' Q E k q => ed_int s' Q E k fun v s'' k'' r => q v s'' k'' fun h => r.flat rfl
    · refine hq _ s'' k'' ⟨T, vs, rfl, fresh_hk X.base hT, hl, ?_⟩
      rw [hr, tabN_zero, List.map_replicate]
      exact rvs_rep (pu _) _
  rintro u s₂ s₃ k₂ ⟨T, vs, rfl, hTf, hl₂, hr₂⟩ X₃ st
  dsimp only
  refine wpAny_execs_cons ?_
  have hl₃ : s₃.heap.IsList T vs := hl₂.at fun o e => by
    obtain ⟨o', ho, _, n, hd⟩ := hl₂
    rw [ho] at e; cases e
    exact st.ef.keep _ _ ho (soft_seq hd) (by simp)
  -- the loop
  refine for_rule true [T] (fun i s' => Fm s env s' ∧ Bd env s'.heap (Str.ofString "table") (.ref T) ∧ Bd env s'.heap (Str.ofString "prefix") v ∧ ∃ vs, s'.heap.IsList T vs ∧ Rvs s'.heap vs.toList ((tabN x (i + 1)).map iD))
    (itr_range2 (a := 1) (b := x.length) hh (gRan X₃.base) ed_int (ed_len_row (k := kd) (gLen X₃.base) (nP X₃.base (st.old _ _ ne_names (hbP.hk (kp_heap k₂)))) (by omega)) (by decide) (by omega)) (.inr ⟨rfl, fun b hb => by simp at hb; subst hb; obtain ⟨o, ho, _⟩ := hl₃; exact ⟨o, ho⟩⟩) ?_ ?_ ?_ ?_
  · intro s' k'
    exact ⟨X₃.kp k', st.new.hk (kp_heap k'), (st.old _ _ ne_names (hbP.hk (kp_heap k₂))).hk (kp_heap k'), vs, hl₃.at fun o e => kp_heap k' _ o e, hr₂.flat (flat_ints _)⟩
  · rintro i s₁ s₂ hi ef ⟨X₁, b1, b2, vs, hl, hr⟩ nx hold
    exact ⟨X₁.nx nx fun b o e => hold b o (X₃.base b o e) (X₁.base b o e), b1.nx nx, b2.nx nx, vs, isList_nx hl nx, hr.flat (flat_ints _)⟩
  · rintro i d v' s₄ E' hd ef rv ⟨X₄, b1, b2, vs, hl, hr⟩
    have hi : i < x.length - 1 := by
      rcases Nat.lt_or_ge i (x.length - 1) with h | h
      · exact h
      · rw [List.getElem?_eq_none (by rw [rng_len]; exact h)] at hd; cases hd
    rw [rng_get hi] at hd
    cases hd
    obtain ⟨t, rfl⟩ := rv.int
    have e1 : 1 + i = i + 1 := by omega
    rw [e1]
    have hm : i + 1 < x.length := by omega
    have hvs : vs.size = x.length := by
      have h1 : vs.toList.length = _ := hr.length
      rw [List.length_map, tabN_len, Array.length_toList] at h1
      exact h1
    refine wpAny_assign_Name (st_name G.kind X₄ (.inl kI) fun s₅ X₅ st5 _ => ?_)
    have hl₅ := isList_ef hl st5.ef (by simp)
    have bT₅ := st5.old _ _ ne_names b1
    have bP₅ := st5.old _ _ ne_names b2
    -- idx = table[i - 1]
    refine wpAny_execs_cons (as_name G.kind X₅ (P := fun _ u => ∀ h, Rv h u (iD (lb x (i + 1)))) (Ed.all (ed_item (n := ((i + 1 : Nat) : Int) - 1) (ed_name G.kind bT₅ (rv_list hl₅ (hr.flat (flat_ints _))) (by kernel_rfl)) (ed_sub (ed_name G.kind st5.new (rv_int _ _ _) (by kernel_rfl)) ed_int) (by omega) (by omega) (by
        have e : (((i + 1 : Nat) : Int) - 1).toNat = i := by omega
        rw [e, List.getElem?_map, tabN_get (by omega), if_pos (by omega)]; rfl)) rfl) (.inl kX) ?_)
    intro u s₆ s₇ k₆ hu X₇ st7
    obtain ⟨tu, rfl⟩ := (hu s₇.heap).int
    have ef47 : Ef [T] s₄ s₇ := (st5.ef.wide.trans (Ef.of k₆)).trans st7.ef.wide
    dsimp only
    refine wpAny_execs_cons ?_
    refine while_rule (fun n s' => ∃ t', Fm s env s' ∧ Bd env s'.heap (Str.ofString "table") (.ref T) ∧ Bd env s'.heap (Str.ofString "prefix") v ∧ Bd env s'.heap (Str.ofString "i") (.int ((i + 1 : Nat) : Int) t) ∧ Bd env s'.heap (Str.ofString "idx") (.int (n : Int) t') ∧
      Kmp x (i + 1) n ∧ s'.heap.IsList T vs ∧ Ef [T] s₄ s') (lb x (i + 1)) ⟨tu, X₇, st7.old _ _ ne_names (bT₅.hk (kp_heap k₆)), st7.old _ _ ne_names (bP₅.hk (kp_heap k₆)), st7.old _ _ ne_names (st5.new.hk (kp_heap k₆)), st7.new, kmp_start (by omega), isList_ef hl₅ ((Ef.of k₆).trans st7.ef) (by simp), ef47⟩ ?_
    rintro n s₈ E8 ⟨t', X₈, bT, bP, bI, bX, kmp, hl₈, ef8⟩
    have hnlt : n < i + 1 := kmp.1.1
    have pI : ∀ {pos : Pos}, Ed w A' env s₈ (.Name (Str.ofString "i") pos) (iD (i + 1)) := ed_name G.kind bI (rv_int _ _ _) (by kernel_rfl)
    have pX : ∀ {pos : Pos}, Ed w A' env s₈ (.Name (Str.ofString "idx") pos) (iD n) := ed_name G.kind bX (rv_int _ _ _) (by kernel_rfl)
    -- the end of a turn: the place is set
    have fin : ∀ {e : PySem.Expr} {p pos : Pos} {p1 p2 : Pos} {z : Nat} {rest : List Stmt} {s₉ : Shared} {Q9 : Flow → Shared → Prop} (k₉ : Keeps s₈ s₉) (he : Ed w A' env s₈ e (iD z)) (hz : lb x (i + 1 + 1) = z)
        (hs : swapsWith e (some (.Subscript (.Name (Str.ofString "table") p1) (.Name (Str.ofString "i") p2) p)) pos.line env = pure false),
        (∀ s', Ef [T] s₄ s' → (Fm s env s' ∧ Bd env s'.heap (Str.ofString "table") (.ref T) ∧ Bd env s'.heap (Str.ofString "prefix") v ∧ ∃ vs, s'.heap.IsList T vs ∧ Rvs s'.heap vs.toList ((tabN x (i + 1 + 1)).map iD)) → Q9 .next s') →
        wpAny (model pw w) A' (exec (.Assign [.Subscript (.Name (Str.ofString "table") p1) (.Name (Str.ofString "i") p2) p] e pos) env) Q9 E8 s₉ := by
      intro e p pos p1 p2 z rest s₉ Q9 k₉ he hz hs q9
      refine as_item (T := T) (vs := vs) (n := i + 1) (he.up (kp_heap k₉)) ((ev_name G.kind bT (by kernel_rfl)).up (kp_heap k₉)) (pI.up (kp_heap k₉)) (hl₈.at fun o e => kp_heap k₉ _ o e) (by omega) (by omega) (fun v' s₁₀ s₁₁ k₁₀ r₁₀ mu hl₁₁ => ?_) hs
      have hl₁₀ : s₁₀.heap.IsList T vs := hl₈.at fun o e => kp_heap (kp_trans k₉ k₁₀) _ o e
      refine q9 _ ((ef8.trans (Ef.of (kp_trans k₉ k₁₀))).trans mu.ef) ⟨(X₈.kp (kp_trans k₉ k₁₀)).mu mu hl₁₀ hTf, (bT.hk (kp_heap (kp_trans k₉ k₁₀))).mu mu hl₁₀, (bP.hk (kp_heap (kp_trans k₉ k₁₀))).mu mu hl₁₀, _, hl₁₁, ?_⟩
      rw [← tabN_set hm hz, List.map_set]
      have := Rvs.set (n := i + 1) (hr.flat (h' := s₁₁.heap) (flat_ints _)) (r₁₀.flat (h' := s₁₁.heap) rfl)
      simpa using this
    refine ⟨at' x (i + 1) != at' x n, ts_cmp (ed_item_row (k := kd) (nP X₈.base bP) pI (by omega) (at_get hm)) (ed_item_row (k := kd) (nP X₈.base bP) pX (by omega) (at_get (by omega))) c_ne_el, fun hb s₉ k₉ => ?_, fun hb s₉ k₉ => ?_⟩
    · have hne : at' x (i + 1) ≠ at' x n := by simpa using hb
      refine wpAny_execs_cons (if_rule (b := ((n : Int) == 0)) (ts_cmp (pX.up (kp_heap k₉)) ed_int c_eqi) (fun h0 s₁₀ k₁₀ => ?_) (fun h0 s₁₀ k₁₀ => ?_))
      · have hn0 : n = 0 := by simpa using h0
        subst hn0
        refine wpAny_execs_cons (fin (rest := []) (kp_trans k₉ k₁₀) ed_int (kmp_miss kmp hne) rfl fun s' ef' J' => ?_)
        dsimp only
        exact wpAny_execs_cons (wpAny_Break (wpAny_execs_nil ⟨ef', J'⟩))
      · have hn0 : 0 < n := by
          rcases Nat.eq_zero_or_pos n with h | h
          · subst h; simp at h0
          · exact h
        refine wpAny_execs_nil ?_
        dsimp only
        have k8 := kp_trans k₉ k₁₀
        refine wpAny_execs_cons (as_name G.kind (X₈.kp k8) (P := fun _ u => ∀ h, Rv h u (iD (lb x n))) (Ed.all (ed_item (n := ((n : Nat) : Int) - 1) ((ed_name G.kind bT (rv_list hl₈ (hr.flat (flat_ints _))) (by kernel_rfl)).up (kp_heap k8)) (ed_sub (pX.up (kp_heap k8)) ed_int) (by omega) (by omega) (by
          have e : (((n : Nat) : Int) - 1).toNat = n - 1 := by omega
          rw [e, List.getElem?_map, tabN_get (by omega), if_pos (by omega)]
          have e2 : n - 1 + 1 = n := by omega
          rw [e2]; rfl)) rfl) (.inl kX) ?_)
        intro u s₁₁ s₁₂ k₁₁ hu X₁₂ st12
        obtain ⟨tu, rfl⟩ := (hu s₁₂.heap).int
        have k9 := kp_trans k8 k₁₁
        refine wpAny_execs_nil ⟨lb x n, lb_lt hn0, tu, X₁₂, st12.old _ _ ne_names (bT.hk (kp_heap k9)), st12.old _ _ ne_names (bP.hk (kp_heap k9)), st12.old _ _ ne_names (bI.hk (kp_heap k9)), st12.new, kmp_step kmp hne hn0, isList_ef (hl₈.at fun o e => kp_heap k9 _ o e) st12.ef (by simp), (ef8.trans (Ef.of k9)).trans st12.ef.wide⟩
    · have he : at' x (i + 1) = at' x n := by simpa using hb
      refine wpAny_execs_cons (fin (rest := []) k₉ (ed_add pX ed_int) ?_ rfl fun s' ef' J' => ?_)
      · exact kmp_hit kmp he
      · dsimp only
        exact wpAny_execs_nil (wpAny_execs_nil ⟨ef', J'⟩)
  · rintro s' ef ⟨X', b1, b2, vs, hl, hr⟩
    dsimp only
    refine wpAny_execs_cons (wpAny_Return_some (ev_name G.kind b1 (by kernel_rfl) s' _ _ (hk_refl _) fun u s'' k'' e => ?_))
    subst e
    refine ⟨_, rfl, X'.kp k'', T, vs, rfl, hTf, hl.at fun o e => kp_heap k'' _ o e, ?_⟩
    rw [rng_len, tabN_full x (by omega)] at hr
    exact hr.flat (flat_ints _)
end
end
end Mine
end
noncomputable section
open PySem PySem.W PyProof.Rows PySem.Calls
set_option Elab.async false
set_option maxRecDepth 100000
set_option linter.unusedVariables false
namespace Mine
noncomputable section
/-! data of ints -/
mutual
noncomputable def iq : PyData → Bool
  | .int _ => true
  | .list xs => iqs xs
  | .tuple xs => iqs xs
  | .none => false
  | .bool _ => false
  | .str _ => false
  | .dict _ => false
noncomputable def iqs : List PyData → Bool
  | [] => true
  | x :: xs => iq x && iqs xs
end
theorem iqs_iff : ∀ {l : List PyData}, iqs l = true ↔ ∀ d ∈ l, iq d = true
  | [] => by simp [iqs]
  | x :: xs => by rw [iqs, Bool.and_eq_true_iff, iqs_iff]; simp
mutual
theorem iq_lay : ∀ {d : PyData}, iq d = true → d.canLay0 = true
  | .int _, _ => rfl
  | .list xs, h => by rw [iq] at h; rw [PyData.canLay0]; exact iqs_lay h
  | .tuple xs, h => by rw [iq] at h; rw [PyData.canLay0]; exact iqs_lay h
theorem iqs_lay : ∀ {l : List PyData}, iqs l = true → PyData.canLayAll0 l = true
  | [], _ => rfl
  | x :: xs, h => by rw [iqs, Bool.and_eq_true_iff] at h; rw [PyData.canLayAll0, iq_lay h.1, iqs_lay h.2]; rfl
end
mutual
theorem iq_eqv : ∀ {d e : PyData}, iq d = true → iq e = true → (PyData.eqv d e = true ↔ d = e)
  | .int i, .int j, _, _ => by simp [PyData.eqv]
  | .list xs, .list ys, h, h' => by rw [iq] at h h'; rw [PyData.eqv, iqs_eqv h h']; simp
  | .tuple xs, .tuple ys, h, h' => by rw [iq] at h h'; rw [PyData.eqv, iqs_eqv h h']; simp
  | .int _, .list _, _, _ => by simp [PyData.eqv]
  | .int _, .tuple _, _, _ => by simp [PyData.eqv]
  | .list _, .int _, _, _ => by simp [PyData.eqv]
  | .list _, .tuple _, _, _ => by simp [PyData.eqv]
  | .tuple _, .int _, _, _ => by simp [PyData.eqv]
  | .tuple _, .list _, _, _ => by simp [PyData.eqv]
theorem iqs_eqv : ∀ {l m : List PyData}, iqs l = true → iqs m = true → (PyData.eqvAll l m = true ↔ l = m)
  | [], [], _, _ => by simp [PyData.eqvAll]
  | [], _ :: _, _, _ => by simp [PyData.eqvAll]
  | _ :: _, [], _, _ => by simp [PyData.eqvAll]
  | x :: xs, y :: ys, h, h' => by
    rw [iqs, Bool.and_eq_true_iff] at h h'
    rw [PyData.eqvAll, Bool.and_eq_true_iff, iq_eqv h.1 h'.1, iqs_eqv h.2 h'.2]
    simp
end
theorem depthAll_le {k : Nat} : ∀ {l : List PyData}, (∀ d ∈ l, d.depth ≤ k) → PyData.depthAll l ≤ k
  | [], _ => Nat.zero_le _
  | x :: xs, h => by rw [PyData.depthAll]; exact Nat.max_le.mpr ⟨h x (by simp), depthAll_le fun d hd => h d (by simp [hd])⟩
theorem shp {l : List PyData} (h : iqs l = true) (hd : ∀ d ∈ l, d.depth ≤ 60) : SeqAt.shaped (.list l) = true := by
  unfold SeqAt.shaped
  rw [iq_lay (d := .list l) (by rw [iq]; exact h), Bool.true_and, decide_eq_true_eq, PyData.depth]
  have := depthAll_le hd
  omega
theorem iqs_map {α : Type} (f : α → PyData) (h : ∀ a, iq (f a) = true) (l : List α) : iqs (l.map f) = true := iqs_iff.mpr fun d hd => by simp at hd; obtain ⟨a, _, rfl⟩ := hd; exact h a
theorem dep_map {α : Type} (f : α → PyData) (h : ∀ a, (f a).depth ≤ 60) (l : List α) : ∀ d ∈ l.map f, d.depth ≤ 60 := fun d hd => by simp at hd; obtain ⟨a, _, rfl⟩ := hd; exact h a
theorem shp_map {α : Type} (f : α → PyData) (h : ∀ a, iq (f a) = true) (h' : ∀ a, (f a).depth ≤ 60) (l : List α) : SeqAt.shaped (.list (l.map f)) = true := shp (iqs_map f h l) (dep_map f h' l)
theorem shp_nil : SeqAt.shaped (.list []) = true := by rfl
theorem eqv_map {α : Type} [DecidableEq α] (f : α → PyData) (h : ∀ a, iq (f a) = true) (hi : ∀ a b, f a = f b → a = b) (l m : List α) : PyData.eqv (.list (l.map f)) (.list (m.map f)) = decide (l = m) := by
  rw [Bool.eq_iff_iff, decide_eq_true_eq, iq_eqv (by rw [iq]; exact iqs_map f h l) (by rw [iq]; exact iqs_map f h m)]
  constructor
  · intro e
    have e' : l.map f = m.map f := by simpa using e
    exact (List.map_inj_right (fun a b hab => hi a b hab)).mp e'
  · rintro rfl; rfl
theorem iD_inj (a b : Nat) (h : iD a = iD b) : a = b := by
  have e : (a : Int) = b := by simpa using h
  omega

section
variable {w : World} {A : Around} {env : Env} {s s₀ : Shared}
variable {elt iter : PySem.Expr} {x : Str} {px : Pos} {ifs : List PySem.Expr} {scope : Scope} {cl : List (Str × Addr)} {pos : Pos}

/-- the frame of the display's run -/
def Inner (env : Env) (scope : Scope) (cl : List (Str × Addr)) (env' : Env) : Prop := ∃ C, env' = compEnvC scope cl C env
theorem Inner.bd {env' : Env} {n : Str} {v : Value} {c : Addr} {h : Heap} (I : Inner env scope cl env') (b : Bd env h n v) (hk : env.kindOf n = some .cell) (hc : env.cells.lookup n = some c) (hk' : (relabel scope env).names.lookup n = some .cell := by kernel_rfl) (hc' : cl.lookup n = some c := by kernel_rfl) : Bd env' h n v := by
  obtain ⟨C, rfl⟩ := I
  rcases b with ⟨e, _⟩ | ⟨_, c', hc2, hv⟩
  · rw [hk] at e; cases e
  · rw [hc] at hc2; cases hc2
    exact .inr ⟨hk', c, hc', hv⟩
theorem Inner.gl {env' : Env} (I : Inner env scope cl env') (G : Gl env) (hk : scope.kind = .function := by kernel_rfl) : Gl env' := by
  obtain ⟨C, rfl⟩ := I
  exact ⟨hk, G.gl, G.bl⟩
theorem Inner.kd {env' : Env} {n : Str} {kk : NameKind} (I : Inner env scope cl env') (hk' : (relabel scope env).names.lookup n = some kk) : env'.kindOf n = some kk := by
  obtain ⟨C, rfl⟩ := I
  exact hk'

/-- the items as the images of plain things -/
theorem core_map {α : Type} {fr : Bool} {g : α → PyData} {as : List α} (p : α → Bool) (f : α → PyData) (hg : ∀ a b, g a = g b → a = b) (hf : ∀ a, flat (f a) = true)
    (hit : Itr fr w A env s iter (as.map g)) (hz : as.length ≤ sizeLine) (sc : Sc env scope x cl)
    (tests : ∀ env' v a s₃, Inner env scope cl env' → HK s s₃ → Bd env' s₃.heap x v → Rv s₃.heap v (g a) → a ∈ as → TL w A env' s₃ ifs (p a))
    (helt : ∀ env' v a s₃, Inner env scope cl env' → HK s s₃ → Bd env' s₃.heap x v → Rv s₃.heap v (g a) → a ∈ as → p a = true → Ed w A env' s₃ elt (f a))
    (s' : Shared) (k : HK s s') : Core w A env elt iter x px ifs scope cl pos s' (fun D h => ∃ ys, h.IsList D ys ∧ ∀ h, Rvs h ys.toList ((as.filter p).map f)) := by
  classical
  have inv : ∃ gi : PyData → Option α, ∀ a, gi (g a) = some a := by
    refine ⟨fun d => if h : ∃ a, g a = d then some h.choose else none, fun a => ?_⟩
    have h : ∃ b, g b = g a := ⟨a, rfl⟩
    exact (dif_pos h).trans (congrArg some (hg _ _ h.choose_spec))
  obtain ⟨gi, hgi⟩ := inv
  have c := core_flat (px := px) (pos := pos) (fun d => match gi d with | some a => p a | none => false) (fun _ d y => ∃ a, gi d = some a ∧ ∀ h, Rv h y (f a)) hit (by simpa using hz) sc (fun C v d s₃ k3 b r hd => by
    obtain ⟨a, ha, rfl⟩ := List.mem_map.mp hd
    rw [hgi]
    exact tests _ v a s₃ ⟨C, rfl⟩ k3 b r ha) (fun C v d s' s₃ k' k3 b r hd hp => by
    obtain ⟨a, ha, rfl⟩ := List.mem_map.mp hd
    rw [hgi] at hp
    exact fun s₄ Q E k4 q => helt _ v a s₃ ⟨C, rfl⟩ (hk2 k' k3) b (r.keep k3) ha hp s₄ Q E k4 fun y s₅ k5 ry => q y s₅ k5 ⟨a, hgi a, fun h => ry.flat (hf a)⟩) s' k
  have e : ((as.map g).filter fun d => match gi d with | some a => p a | none => false) = (as.filter p).map g := by
    rw [List.filter_map]
    congr 1
    refine List.filter_congr fun a _ => ?_
    simp [hgi]
  have up : ∀ (h : Heap) (D : Addr), (∃ ys : Array Value, h.IsList D ys ∧ Paired (fun d y => ∃ a, gi d = some a ∧ ∀ h, Rv h y (f a)) ((as.map g).filter fun d => match gi d with | some a => p a | none => false) ys.toList) → ∃ ys : Array Value, h.IsList D ys ∧ ∀ h, Rvs h ys.toList ((as.filter p).map f) := by
    rintro h D ⟨ys, hl, hp⟩
    refine ⟨ys, hl, fun h => ?_⟩
    rw [e] at hp
    generalize as.filter p = bs at hp ⊢
    generalize ys.toList = us at hp ⊢
    clear hl
    induction bs generalizing us with
    | nil => cases hp; exact rvs_nil _
    | cons b bs ih =>
      cases hp with
      | cons h1 h2 =>
        obtain ⟨a, ha, hr⟩ := h1
        rw [hgi] at ha; cases ha
        exact rvs_cons (hr _) (ih _ h2)
  exact fun RR E q => c RR E fun D C h' tk m' hD hC hDC hn h1 h2 hk' => q D C h' tk m' hD hC hDC hn (fun h'' hs => up _ _ (h1 h'' hs)) (up _ _ h2) hk'
theorem comp_q {α : Type} {fr : Bool} {g : α → PyData} {as : List α} (p : α → Bool) (f : α → PyData) (hg : ∀ a b, g a = g b → a = b) (hf : ∀ a, flat (f a) = true)
    (hit : Itr fr w A env s iter (as.map g)) (hz : as.length ≤ sizeLine) (sc : Sc env scope x cl)
    (tests : ∀ env' v a s₃, Inner env scope cl env' → HK s s₃ → Bd env' s₃.heap x v → Rv s₃.heap v (g a) → a ∈ as → TL w A env' s₃ ifs (p a))
    (helt : ∀ env' v a s₃, Inner env scope cl env' → HK s s₃ → Bd env' s₃.heap x v → Rv s₃.heap v (g a) → a ∈ as → p a = true → Ed w A env' s₃ elt (f a))
    (s' : Shared) (Q : Value → Shared → Prop) (E : Value → Shared → Prop) (k : HK s s') (q : ∀ D ys s'', Keeps s' s'' → s'.heap.get? D = none → s''.heap.IsList D ys → (∀ h, Rvs h ys.toList ((as.filter p).map f)) → Q (.ref D) s'')
    (hs : ∀ x, foldedSetIterable iter env x = pure x := by intro _; rfl) : wpAny (model pw w) A (eval (.ListComp elt [⟨.Name x px, iter, ifs, 0⟩] scope pos) env) Q E s' :=
  ev_core (Fin := fun s' D h => ∃ ys, h.IsList D ys ∧ ∀ h, Rvs h ys.toList ((as.filter p).map f)) sc (core_map p f hg hf hit hz sc tests helt) s' Q E k (fun D s'' k'' hD ⟨ys, hl, hp⟩ => q D ys s'' k'' hD hl hp) hs
theorem ed_comp {α : Type} {fr : Bool} {g : α → PyData} {as : List α} (p : α → Bool) (f : α → PyData) (hg : ∀ a b, g a = g b → a = b) (hf : ∀ a, flat (f a) = true)
    (hit : Itr fr w A env s iter (as.map g)) (hz : as.length ≤ sizeLine) (sc : Sc env scope x cl)
    (tests : ∀ env' v a s₃, Inner env scope cl env' → HK s s₃ → Bd env' s₃.heap x v → Rv s₃.heap v (g a) → a ∈ as → TL w A env' s₃ ifs (p a))
    (helt : ∀ env' v a s₃, Inner env scope cl env' → HK s s₃ → Bd env' s₃.heap x v → Rv s₃.heap v (g a) → a ∈ as → p a = true → Ed w A env' s₃ elt (f a))
    (hs : ∀ x, foldedSetIterable iter env x = pure x := by intro _; rfl) : Ed w A env s (.ListComp elt [⟨.Name x px, iter, ifs, 0⟩] scope pos) (.list ((as.filter p).map f)) :=
  fun s' Q E k q => comp_q p f hg hf hit hz sc tests helt s' Q E k (fun D ys s'' k'' _ hl hr => q _ _ k'' (rv_list hl (hr _))) hs

end

theorem sl_from {α : Type} (x : List α) (a : Nat) : (x.drop (at_ x.length 0 (some (a : Int)))).take (at_ x.length x.length none - at_ x.length 0 (some (a : Int))) = x.drop a := by
  show (x.drop (clipAt x.length a)).take (x.length - clipAt x.length a) = x.drop a
  rw [clipAt_nat, List.take_of_length_le (by simp)]
  rcases Nat.le_total a x.length with h | h
  · rw [Nat.min_eq_left h]
  · rw [Nat.min_eq_right h, List.drop_eq_nil_of_le (Nat.le_refl _), List.drop_eq_nil_of_le h]
theorem sl_upto {α : Type} (x : List α) (a : Nat) : (x.drop (at_ x.length 0 none)).take (at_ x.length x.length (some (a : Int)) - at_ x.length 0 none) = x.take a := by
  show (x.drop 0).take (clipAt x.length a - 0) = x.take a
  rw [clipAt_nat, List.drop_zero, Nat.sub_zero]
  rcases Nat.le_total a x.length with h | h
  · rw [Nat.min_eq_left h]
  · rw [Nat.min_eq_right h, List.take_of_length_le (Nat.le_refl _), List.take_of_length_le h]
theorem sl_run {α : Type} (x : List α) (a b : Nat) (hb : b ≤ x.length) (hab : a ≤ b) : (x.drop (at_ x.length 0 (some (a : Int)))).take (at_ x.length x.length (some (b : Int)) - at_ x.length 0 (some (a : Int))) = (x.drop a).take (b - a) := by
  show (x.drop (clipAt x.length a)).take (clipAt x.length b - clipAt x.length a) = _
  rw [clipAt_nat, clipAt_nat, Nat.min_eq_left hb, Nat.min_eq_left (Nat.le_trans hab hb)]
section
variable {w : World} {A : Around} {env : Env} {s : Shared}
theorem ed_catw {a b : PySem.Expr} {x y : List Nat} {pos : Pos} (ha : Ed w A env s a (St' x)) (hb : Ed w A env s b (St' y)) (hz : x.length + y.length ≤ 10000) : Ed w A env s (.BinOp a .Add b pos) (St' (x ++ y)) :=
  (ed_cats ha hb (by rw [tx_len, tx_len, sizeLine_eq]; omega)).eq (by
    show PyData.str (tx x ++ tx y) = PyData.str (tx (x ++ y))
    congr 1
    show (⟨x.toArray ++ y.toArray⟩ : Str) = _
    simp)
theorem c_ltw {x y : List Nat} : ∀ u v (s' : Shared) (Q : Value → Shared → Prop) (E : Value → Shared → Prop), Rv s'.heap u (St' x) → Rv s'.heap v (St' y) → (∀ s'', Keeps s' s'' → Q (.bool (decide (x < y))) s'') → wpAny (model pw w) A (compareOp .Lt u v) Q E s' := c_lts
theorem c_lew {x y : List Nat} : ∀ u v (s' : Shared) (Q : Value → Shared → Prop) (E : Value → Shared → Prop), Rv s'.heap u (St' x) → Rv s'.heap v (St' y) → (∀ s'', Keeps s' s'' → Q (.bool (!decide (y < x))) s'') → wpAny (model pw w) A (compareOp .LtE u v) Q E s' := c_les
end
def fd10 : FuncData := { name := Str.ofString "_law_first", qualname := Str.ofString "_law_first", params := fnArgs 10, body := .stmts (fnBody 10), scope := fnScope 10, globals := 3, closure := [], defaults := Value.none, kwdefaults := Value.none, doc := Value.none, pyModule := Value.str (Str.ofString "law_rl0074_01") 2227, annotations := none, code := Value.ref 99, closureTuple := Value.none, builtins := 0 }

section
variable {w : World} {A : Around} {s : Shared}
theorem first_ok {k : Nat} {v : Value} {x : List Nat} {Q : Value → Shared → Prop} {E : Value → Shared → Prop} (B : Base w s) (ok : Ok k A) (hk : k ≤ 19) (r : Rv s.heap v (St' x)) (hx : x.length ≤ 1000)
    (q : ∀ s', Keeps s s' → Q (.bool (firstB x)) s') : wpAny (model pw w) A (call (.ref 100) [v]) Q E s := by
  refine enter (k := k) (o := o100_10 w.params) (fd := fd10) (body := fnBody 10) (binds := [(Str.ofString "word", v)]) B ok (by omega) (by kernel_rfl) (by rfl) (by kernel_rfl) rfl (by kernel_rfl) rfl
    (fun L x hx => by simp at hx; subst hx; exact .inr ⟨by kernel_rfl, by kernel_rfl⟩) (by simp) (P := fun v s' => v = .bool (firstB x))
    (fun L s₁ E X hb => ?_) (fun u s' kk e => by subst e; exact q s' kk) (by kernel_rfl) (by kernel_rfl) (by kernel_rfl)
  have hbP := hb _ (List.mem_singleton.mpr rfl)
  have G : Gl (callEnvC fd10 L 100) := ⟨by kernel_rfl, by kernel_rfl, by kernel_rfl⟩
  have ok' := ok.deeper (callEnvC fd10 L 100)
  generalize A.deeper (callEnvC fd10 L 100) = A' at ok' ⊢
  have hh := ok'.handled
  with_unfolding_all refine wpAny_execs_cons ?_
  refine wpAny_Return_some ?_
  have kW : (callEnvC fd10 L 100).kindOf (Str.ofString "word") = some .cell := by kernel_rfl
  have cW : (callEnvC fd10 L 100).cells.lookup (Str.ofString "word") = some (L + 1) := by kernel_rfl
  have kLen : (callEnvC fd10 L 100).kindOf (Str.ofString "len") = some .globalImplicit := by kernel_rfl
  have kRan : (callEnvC fd10 L 100).kindOf (Str.ofString "range") = some .globalImplicit := by kernel_rfl
  have r₁ := r.keep X.base
  refine ed_cmp (s := s₁) (da := .list (((List.range' 1 (x.length - 1)).filter fun k => !decide (x < rot x k)).map iD)) (db := .list []) (ed_comp (g := iD) (cl := [(Str.ofString "word", L + 1)]) (fun k => !decide (x < rot x k)) iD iD_inj (fun _ => rfl)
    (itr_range2 (a := 1) (b := x.length) hh (ev_bl (B.hk X.base) G kRan (gm_range _) (gb_range _)) ed_int (ed_len_row (k := true) (ev_bl (B.hk X.base) G kLen (gm_len _) (gb_len _)) (ed_name G.kind hbP r₁ (by kernel_rfl)) (by omega)) (by decide) (by omega)) (by simp [sizeLine_eq]; omega)
    ⟨by kernel_rfl, by decide +kernel, by kernel_rfl, by decide +kernel, by kernel_rfl⟩ ?_ ?_) ed_list0 (c_eq (shp_map _ (fun _ => rfl) (fun _ => Nat.zero_le _) _) shp_nil (ok'.line (by omega))) rfl s₁ _ _ (hk_refl _) ?_
  · intro env' v' a s₃ I k3 b r3 ha
    have ha' : a < x.length := by simp at ha; omega
    have Gi := I.gl G
    have nW : ∀ {pos : Pos}, Ed w A' env' s₃ (.Name (Str.ofString "word") pos) (St' x) := ed_name Gi.kind (I.bd (hbP.hk k3) kW cW) (r₁.keep k3) (by kernel_rfl)
    have nK : ∀ {pos : Pos}, Ed w A' env' s₃ (.Name (Str.ofString "k") pos) (iD a) := ed_name Gi.kind b r3 (by kernel_rfl)
    refine tl_one (ts_cmp (ed_catw ((ed_slices nW (.some nK) .none (by rw [sizeLine_eq]; omega)).eq (by rw [sl_from])) ((ed_slices nW .none (.some nK) (by rw [sizeLine_eq]; omega)).eq (by rw [sl_upto])) (by simp; omega)) nW c_lew)
  · intro env' v' a s₃ I k3 b r3 ha _
    exact ed_name (I.gl G).kind b r3 (by kernel_rfl)
  · intro u s₂ k₂ ru
    have e := ru.bool
    subst e
    refine ⟨_, rfl, X.kp k₂, ?_⟩
    unfold firstB
    exact congrArg Value.bool (eqv_map iD (fun _ => rfl) iD_inj _ [])
end
end
end Mine
end
noncomputable section
open PySem PySem.W PyProof.Rows PySem.Calls
set_option Elab.async false
set_option maxRecDepth 100000
set_option linter.unusedVariables false
namespace Mine
noncomputable section
abbrev tupD (p : Nat × Nat × Nat) : PyData := .tuple [iD p.1, iD p.2.1, iD p.2.2]
theorem tupD_inj (a b : Nat × Nat × Nat) (h : tupD a = tupD b) : a = b := by
  obtain ⟨a1, a2, a3⟩ := a
  obtain ⟨b1, b2, b3⟩ := b
  simp at h
  obtain ⟨h1, h2, h3⟩ := h
  simp only [Prod.mk.injEq]
  exact ⟨by omega, by omega, by omega⟩
/-- tuples stay -/
def Tk (h h' : Heap) : Prop := ∀ b o, h.get? b = some o → o.cls = .type "tuple" → (∃ vs n, o.data = .seq vs n) → h'.get? b = some o
theorem tk_kp {s s' : Shared} (k : HK s s') : Tk s.heap s'.heap := fun b o e _ _ => k b o e
theorem tk_ef {s s' : Shared} (k : Ef [] s s') : Tk s.heap s'.heap := fun b o e _ ⟨vs, n, hd⟩ => k.keep b o e (soft_seq hd) (by simp)
theorem tk_nx {s s' : Shared} (k : Nx s s') : Tk s.heap s'.heap := fun b o e _ ⟨vs, n, hd⟩ => k.keep b o e fun fs h => by rw [hd] at h; cases h
theorem tk_mu {s s' : Shared} {T : Addr} {vs : Array Value} (k : Mu T s s') (hl : s.heap.IsList T vs) : Tk s.heap s'.heap := fun b o e hc _ => k.keep b o (by
  rintro rfl
  obtain ⟨o', ho, hc', _⟩ := hl
  rw [e] at ho; cases ho
  rw [hc] at hc'
  exact absurd hc' (by simp)) e
theorem Tk.trans {a b c : Heap} (x : Tk a b) (y : Tk b c) : Tk a c := fun d o e hc hs => y d o (x d o e hc hs) hc hs
theorem rv_tk {h h' : Heap} {v : Value} {p : Nat × Nat × Nat} (r : Rv h v (tupD p)) (k : Tk h h') : Rv h' v (tupD p) := by
  obtain ⟨a, o, vs, n, rfl, ho, hc, hd, rr⟩ := r.tuple
  have r' : Rvs h' vs.toList [iD p.1, iD p.2.1, iD p.2.2] := rr.flat (by intro d hd; simp at hd; rcases hd with rfl | rfl | rfl <;> rfl)
  obtain ⟨⟨_, q⟩, nn⟩ := r'
  exact ⟨⟨_, .tuple (k a o ho hc ⟨vs, n, hd⟩) hc hd q⟩, by rw [nd]; exact nn⟩
theorem rvs_tk {h h' : Heap} (k : Tk h h') : ∀ {vs : List Value} {l : List (Nat × Nat × Nat)}, Rvs h vs (l.map tupD) → Rvs h' vs (l.map tupD)
  | [], [], _ => rvs_nil _
  | [], _ :: _, ⟨⟨_, q⟩, _⟩ => nomatch q
  | _ :: _, [], ⟨⟨_, q⟩, _⟩ => nomatch q
  | _ :: _, _ :: _, r => rvs_cons (rv_tk r.uncons.1 k) (rvs_tk k r.uncons.2)
theorem plain_nx {s s' : Shared} {a : Addr} {vs : Array Value} (l : PlainL s.heap a vs) (x : Nx s s') : PlainL s'.heap a vs := by
  obtain ⟨o, n, ho, hc, hd, hdat⟩ := l
  exact ⟨o, n, x.keep _ _ ho (fun fs h => by rw [hdat] at h; cases h), hc, hd, hdat⟩
theorem plain_ef {O : List Addr} {s s' : Shared} {a : Addr} {vs : Array Value} (l : PlainL s.heap a vs) (x : Ef O s s') (ha : a ∉ O) : PlainL s'.heap a vs := by
  obtain ⟨o, n, ho, hc, hd, hdat⟩ := l
  exact ⟨o, n, x.keep _ _ ho (soft_seq hdat) ha, hc, hd, hdat⟩
theorem plain_kp {s s' : Shared} {a : Addr} {vs : Array Value} (l : PlainL s.heap a vs) (k : HK s s') : PlainL s'.heap a vs := by
  obtain ⟨o, n, ho, hc, hd, hdat⟩ := l
  exact ⟨o, n, k _ _ ho, hc, hd, hdat⟩

section
variable {w : World} {A : Around} {env : Env} {s s₀ : Shared}

theorem st_append {o e : PySem.Expr} {ap cp pos : Pos} {R : Addr} {vs : Array Value} {d : PyData} {Q : Flow → Shared → Prop} {E : Value → Shared → Prop}
    (ho : Ev w A env s o (fun _ v => v = .ref R)) (he : Ed w A env s e d) (hl : PlainL s.heap R vs) (hz : vs.size ≤ sizeLine)
    (h : ∀ v s₁ s₂, Keeps s s₁ → Rv s₁.heap v d → Mu R s₁ s₂ → PlainL s₂.heap R (vs.push v) → Q .next s₂)
    (hbase : attributeBase o "append" env (eval o env) = eval o env := by rfl)
    (hs1 : starEach [e] env = (false, eval e env) :: starEach [] env := by rfl) (hline : (ap.endLine == cp.line) = true := by rfl)
    (hi : interactive env = false := by rfl) (hs : swapsWith (.Call (.Attribute o "append" ap) [e] [] cp) none pos.line env = pure false := by rfl) :
    wpAny (model pw w) A (exec (.Expr (.Call (.Attribute o "append" ap) [e] [] cp) pos) env) Q E s := by
  refine wpAny_Expr_any (wpAny_Call_append hbase (by rw [hs1]; rfl) hline (by rw [hs1]; rfl) (ho s _ _ (hk_refl _) fun ov s₁ k₁ hov => ?_)) hi hs
  subst hov
  refine ⟨R, vs, rfl, plain_kp hl (kp_heap k₁), he s₁ _ _ (kp_heap k₁) fun y s₂ k₂ ry => ?_⟩
  refine list_append_plainL (plain_kp hl (kp_heap (kp_trans k₁ k₂))) (fun h' hl' hs' => ?_) hz
  exact h y s₂ _ (kp_trans k₁ k₂) ry ⟨⟨_, _, rfl⟩, fun b o hb e => hs'.extBut b o hb e⟩ hl'

theorem ed_slice_row {k : Bool} {e lo : PySem.Expr} {p pos : Pos} {x : List Nat} {a : Nat} (he : Ed w A env s e (rowD k x)) (ha : Ed w A env s lo (iD a)) (hz : x.length ≤ 10000)
    (ht : ∀ o r, letTemporaryGo e o r = pure () := by intro _ _; rfl) : Ed w A env s (.Subscript e (.Slice (some lo) none none p) pos) (rowD k (x.drop a)) := by
  cases k with
  | true => exact (ed_slices he (.some ha) .none (by rw [sizeLine_eq]; omega) ht).eq (by rw [sl_from]; rfl)
  | false =>
    refine (ed_slice he (.some ha) .none (by rw [List.length_map, sizeLine_eq]; omega)).eq ?_
    rw [sl_from, ← List.map_drop]; rfl
theorem c_eq_el {k : Bool} {a b : Nat} : ∀ u v (s' : Shared) (Q : Value → Shared → Prop) (E : Value → Shared → Prop), Rv s'.heap u (elD k a) → Rv s'.heap v (elD k b) → (∀ s'', Keeps s' s'' → Q (.bool (a == b)) s'') → wpAny (model pw w) A (compareOp .Eq u v) Q E s' := by
  intro u v s' Q E ru rv q
  cases k with
  | true =>
    obtain ⟨t, rfl⟩ := Rv.str ru
    obtain ⟨t', rfl⟩ := Rv.str rv
    refine PySem.P.eq_str ?_
    have : ((tx [a]).cps.toList == (tx [b]).cps.toList) = (a == b) := by rw [Bool.eq_iff_iff]; simp
    rw [show (({ cps := #[a] } : Str).cps.toList == ({ cps := #[b] } : Str).cps.toList) = (a == b) from this]
    exact q _ (kp_refl _)
  | false =>
    obtain ⟨t, rfl⟩ := Rv.int ru
    obtain ⟨t', rfl⟩ := Rv.int rv
    refine eq_int ?_
    have : (((a : Int)) == (b : Int)) = (a == b) := by rw [Bool.eq_iff_iff]; simp [Int.natCast_inj]
    rw [this]
    exact q _ (kp_refl _)

/-- a call of a def of ours, one thing handed over -/
theorem ev_def1 {f e : PySem.Expr} {a : Addr} {o : Obj} {fd : FuncData} {pos : Pos} {P₁ : Heap → Value → Prop} (B : Base w s) (ho : (H_11 w.params).get? a = some o) (hdat : o.data = .func fd) (hf : Ev w A env s f (fun _ v => v = .ref a)) (he : Ev w A env s e P₁)
    (s' : Shared) (Q : Value → Shared → Prop) (E : Value → Shared → Prop) (k : HK s s') (h : ∀ u s'', Keeps s' s'' → P₁ s''.heap u → wpAny (model pw w) A (call (.ref a) [u]) Q E s'')
    (hc : eval (.Call f [e] [] pos) env = (do callWith pos (← eval f env) [] (backTo pos (starEach [e] env)) (backToKw pos (keywordEach [] env))) := by rfl)
    (hs : starEach [e] env = (false, eval e env) :: starEach [] env := by rfl) : wpAny (model pw w) A (eval (.Call f [e] [] pos) env) Q E s' :=
  Call_ (hf s' _ _ k fun v s₁ k₁ hv => by
    subst hv
    refine callWith_def hdat (args_cons (he s₁ _ _ (hk k k₁) fun u s₂ k₂ ru => args_nil ⟨B.hk (hk k (kp_trans k₁ k₂)) a o ho, ?_⟩) hs) hs
    exact h u s₂ (kp_trans k₁ k₂) ru) hc

theorem ts_isnot_type {a b : PySem.Expr} {T : String} {pos : Pos} (ha : Ev w A env s a (fun _ v => v = .type T)) (hb : Ev w A env s b (fun _ v => v = .type T)) (hm : behindInMarks .IsNot b = false := by rfl) : Ts w A env s (.Compare a [.IsNot] [b] pos) false :=
  fun s' Q E k q => wpAny_isTrue_Compare1 (ha s' _ _ k fun u s₁ k₁ e => by
    subst e
    exact hb s₁ _ _ (hk k k₁) fun v s₂ k₂ e => by
      subst e
      exact isnot_type_same (wpAny_truthy_bool (q s₂ (kp_trans k₁ k₂)))) hm

theorem ne_same {l b : Addr} {u : Value} {xs ys : Array Value} {n : Nat} {Q : Value → Shared → Prop} {E : Value → Shared → Prop} (hl : s.heap.IsList l xs) (hb : s.heap.IsList b ys) (h1 : xs.toList = List.replicate n u) (h2 : ys.toList = List.replicate n u) (hu : A.units < cLine)
    (q : Q (.bool false) s) : wpAny (model pw w) A (compareOp .NotEq (.ref l) (.ref b)) Q E s := by
  have e1 : xs.size = n := by rw [← Array.length_toList, h1]; simp
  have e2 : ys.size = n := by rw [← Array.length_toList, h2]; simp
  have hx : ∀ j (h : j < xs.size), xs[j] = u := by
    intro j h
    have : xs.toList[j]? = some xs[j] := by simp [h]
    rw [h1, List.getElem?_replicate] at this
    split at this
    · exact (Option.some.inj this).symm
    · cases this
  have hy : ∀ j (h : j < ys.size), ys[j] = u := by
    intro j h
    have : ys.toList[j]? = some ys[j] := by simp [h]
    rw [h2, List.getElem?_replicate] at this
    split at this
    · exact (Option.some.inj this).symm
    · cases this
  have := PySem.SeqAt.RcNeAt.lists (A := A) (e := fun _ => true) hl hb (by omega) hu (fun j h1 h2 => by rw [hx j h1, hy j h2]; exact PySem.SeqAt.EqAt.same u)
  show wpAny _ A (richCompare .NotEq _ _) Q E s
  refine this pw w E Q ?_
  have e : (List.range xs.size).all (fun _ => true) = true := by simp
  rw [e]
  exact q

theorem ts_ne_types {elt iter : PySem.Expr} {x : Str} {px : Pos} {scope : Scope} {cl : List (Str × Addr)} {p pos p2 p3 : Pos} {e₀ e : PySem.Expr} {ds : List PyData} {fr : Bool} {u : Value} (hu : A.units < cLine)
    (hit : Itr fr w A env s iter ds) (hz : ds.length ≤ 1000000) (sc : Sc env scope x cl)
    (helt : ∀ env' v d s₃, Inner env scope cl env' → HK s s₃ → Bd env' s₃.heap x v → Rv s₃.heap v d → d ∈ ds → Ev w A env' s₃ elt (fun _ y => y = u))
    (h0 : Ev w A env s e₀ (fun _ v => v = u)) (hn : Ed w A env s e (iD ds.length))
    (hs : ∀ x, foldedSetIterable iter env x = pure x := by intro _; rfl) (h3 : starEach [e₀] env = (false, eval e₀ env) :: starEach [] env := by rfl)
    (hm : behindInMarks .NotEq (.BinOp (.List [e₀] p2) .Mult e p3) = false := by rfl) : Ts w A env s (.Compare (.ListComp elt [⟨.Name x px, iter, [], 0⟩] scope p) [.NotEq] [.BinOp (.List [e₀] p2) .Mult e p3] pos) false := by
  intro s' Q E k q
  refine wpAny_isTrue_Compare1 (ev_core (Fin := fun s' D h => ∃ ys, h.IsList D ys ∧ Paired (fun d y => y = u) (ds.filter fun _ => true) ys.toList) sc
    (core_flat (fun _ => true) (fun _ d y => y = u) hit (by rw [sizeLine_eq]; omega) sc (fun C v d s₃ k3 b r hd => tl_nil) (fun C v d s' s₃ k' k3 b r hd hp => helt _ v d s₃ ⟨C, rfl⟩ (hk2 k' k3) b (r.keep k3) hd)) s' _ _ k (fun D s₁ k₁ _ hfin => ?_) hs) hm
  obtain ⟨ys, hl, hp⟩ := hfin
  refine ev_rep (P := fun v => v = u) (n := ds.length) h0 hn hz s₁ _ _ (hk k k₁) (fun T u' vs s₂ k₂ _ hu' hl2 hr => ?_) h3
  subst hu'
  refine ne_same (n := ds.length) (hl.at fun o e => kp_heap k₂ _ o e) hl2 ?_ hr hu (wpAny_truthy_bool (q s₂ (kp_trans k₁ k₂)))
  have gen : ∀ (ds : List PyData) (us : List Value), Paired (fun d y => y = u') ds us → us = List.replicate ds.length u' := by
    intro ds
    induction ds with
    | nil => intro us h; cases h; rfl
    | cons d ds ih => intro us h; cases h with | cons a b => rw [a, ih _ b]; rfl
  have := gen _ _ hp
  rw [List.filter_eq_self.mpr (fun _ _ => rfl)] at this
  exact this
end
end
end Mine
end
noncomputable section
open PySem PySem.W PyProof.Rows PySem.Calls
set_option Elab.async false
set_option maxRecDepth 100000
set_option linter.unusedVariables false
namespace Mine
noncomputable section
theorem gm_type (P : Params) : (H_11 P).nsMap mainGlobals (Str.ofString "type") = none := by kernel_rfl
theorem gb_type (P : Params) : (H_11 P).nsMap builtinsNs (Str.ofString "type") = some (.type "type") := by kernel_rfl
theorem gm_list (P : Params) : (H_11 P).nsMap mainGlobals (Str.ofString "list") = none := by kernel_rfl
theorem gb_list (P : Params) : (H_11 P).nsMap builtinsNs (Str.ofString "list") = some (.type "list") := by kernel_rfl
theorem gm_int (P : Params) : (H_11 P).nsMap mainGlobals (Str.ofString "int") = none := by kernel_rfl
theorem gb_int (P : Params) : (H_11 P).nsMap builtinsNs (Str.ofString "int") = some (.type "int") := by kernel_rfl
theorem g_overlap (P : Params) : (H_11 P).nsMap mainGlobals (Str.ofString "_generate_overlap_table") = some (.ref 21) := by kernel_rfl
def fd8 : FuncData := { name := Str.ofString "_law_told", qualname := Str.ofString "_law_told", params := fnArgs 8, body := .stmts (fnBody 8), scope := fnScope 8, globals := 3, closure := [], defaults := Value.none, kwdefaults := Value.none, doc := Value.none, pyModule := Value.str (Str.ofString "law_rl0074_01") 2227, annotations := none, code := Value.ref 89, closureTuple := Value.none, builtins := 0 }

section
variable {w : World} {A : Around} {s : Shared}
set_option maxHeartbeats 1000000 in
theorem told_ok {k : Nat} {kd : Bool} {v : Value} {x : List Nat} {Q : Value → Shared → Prop} {E : Value → Shared → Prop} (B : Base w s) (ok : Ok k A) (hk18 : k ≤ 18) (r : Rv s.heap v (rowD kd x)) (hx : x.length ≤ 100)
    (q : ∀ u s', Keeps s s' → Rv s'.heap u (.list ((told x).map tupD)) → Q u s') : wpAny (model pw w) A (call (.ref 90) [v]) Q E s := by
  refine enter (k := k) (o := o90_8 w.params) (fd := fd8) (body := fnBody 8) (binds := [(Str.ofString "row", v)]) B ok (by omega) (by kernel_rfl) (by rfl) (by kernel_rfl) rfl (by kernel_rfl) rfl
    (fun L x hx => by simp at hx; subst hx; exact .inl (by kernel_rfl)) (by simp) (P := fun u s' => Rv s'.heap u (.list ((told x).map tupD)))
    (fun L s₁ E X hb => ?_) (fun u s' kk e => q u s' kk e) (by kernel_rfl) (by kernel_rfl) (by kernel_rfl)
  have hbP := hb _ (List.mem_singleton.mpr rfl)
  have G : Gl (callEnvC fd8 L 90) := ⟨by kernel_rfl, by kernel_rfl, by kernel_rfl⟩
  have ok' := ok.deeper (callEnvC fd8 L 90)
  generalize A.deeper (callEnvC fd8 L 90) = A' at ok' ⊢
  have hh := ok'.handled
  have kTab : (callEnvC fd8 L 90).kindOf (Str.ofString "table") = some .cell := by kernel_rfl
  have cTab : (callEnvC fd8 L 90).cells.lookup (Str.ofString "table") = some (L + 1) := by kernel_rfl
  have kRuns : (callEnvC fd8 L 90).kindOf (Str.ofString "runs") = some .local := by kernel_rfl
  have kLow : (callEnvC fd8 L 90).kindOf (Str.ofString "low") = some .local := by kernel_rfl
  have kSize : (callEnvC fd8 L 90).kindOf (Str.ofString "size") = some .local := by kernel_rfl
  have kStep : (callEnvC fd8 L 90).kindOf (Str.ofString "step") = some .local := by kernel_rfl
  have kAh : (callEnvC fd8 L 90).kindOf (Str.ofString "ahead") = some .local := by kernel_rfl
  have kBe : (callEnvC fd8 L 90).kindOf (Str.ofString "behind") = some .local := by kernel_rfl
  have bl : ∀ {n : Str} {u : Value} {s' : Shared} {pos : Pos}, HK s s' → (callEnvC fd8 L 90).kindOf n = some .globalImplicit → (H_11 w.params).nsMap mainGlobals n = none → (H_11 w.params).nsMap builtinsNs n = some u → (n == ("__debug__" : Str)) = false → Ev w A' (callEnvC fd8 L 90) s' (.Name n pos) (fun _ v => v = u) := fun kk h1 h2 h3 h4 => ev_bl (B.hk kk) G h1 h2 h3 h4
  have gLen : ∀ {s' : Shared} {pos : Pos}, HK s s' → Ev w A' (callEnvC fd8 L 90) s' (.Name (Str.ofString "len") pos) (fun _ v => v = .builtin "len") := fun kk => bl kk (by kernel_rfl) (gm_len _) (gb_len _) (by kernel_rfl)
  have gRan : ∀ {s' : Shared} {pos : Pos}, HK s s' → Ev w A' (callEnvC fd8 L 90) s' (.Name (Str.ofString "range") pos) (fun _ v => v = .type "range") := fun kk => bl kk (by kernel_rfl) (gm_range _) (gb_range _) (by kernel_rfl)
  have gTyp : ∀ {s' : Shared} {pos : Pos}, HK s s' → Ev w A' (callEnvC fd8 L 90) s' (.Name (Str.ofString "type") pos) (fun _ v => v = .type "type") := fun kk => bl kk (by kernel_rfl) (gm_type _) (gb_type _) (by kernel_rfl)
  have gLis : ∀ {s' : Shared} {pos : Pos}, HK s s' → Ev w A' (callEnvC fd8 L 90) s' (.Name (Str.ofString "list") pos) (fun _ v => v = .type "list") := fun kk => bl kk (by kernel_rfl) (gm_list _) (gb_list _) (by kernel_rfl)
  have gInt : ∀ {s' : Shared} {pos : Pos}, HK s s' → Ev w A' (callEnvC fd8 L 90) s' (.Name (Str.ofString "int") pos) (fun _ v => v = .type "int") := fun kk => bl kk (by kernel_rfl) (gm_int _) (gb_int _) (by kernel_rfl)
  have gOv : ∀ {s' : Shared} {pos : Pos}, HK s s' → Ev w A' (callEnvC fd8 L 90) s' (.Name (Str.ofString "_generate_overlap_table") pos) (fun _ v => v = .ref 21) := fun kk => ev_gl (B.hk kk) G (by kernel_rfl) (g_overlap _) (by kernel_rfl)
  have nRow : ∀ {s' : Shared} {pos : Pos}, HK s s' → Bd (callEnvC fd8 L 90) s'.heap (Str.ofString "row") v → Ed w A' (callEnvC fd8 L 90) s' (.Name (Str.ofString "row") pos) (rowD kd x) := fun kk b => ed_name G.kind b (r.keep kk) (by kernel_rfl)
  have hLine := ok'.line (by omega)
  with_unfolding_all refine wpAny_execs_cons ?_
  -- runs = []
  refine as_gen (R := fun u s₂ => ∃ R, u = .ref R ∧ s.heap.get? R = none ∧ PlainL s₂.heap R #[]) G.kind X (fun Q' hq => ?_) (.inl kRuns) ?_
  · refine List_ (args_nil ?_)
    refine wpAny_newObj_type ?_ (by show (0 : Nat) ≤ sizeLine; omega)
    exact hq _ _ ⟨_, _, rfl, fun _ _ e => Heap.get?_push_of_some _ e⟩ ⟨_, rfl, fresh_hk X.base (none_of_ge (Nat.le_refl _)), ⟨_, _, Heap.get?_push_size _ rfl, rfl, rfl, rfl⟩⟩
  rintro u s₂ s₃ k₂ ⟨R, rfl, hRf, hl₂⟩ X₃ st
  dsimp only
  refine wpAny_execs_cons ?_
  have hl₃ : PlainL s₃.heap R #[] := plain_ef hl₂ st.ef (by simp)
  -- for low in range(len(row))
  refine for_rule true [R] (fun i s' => Fm s (callEnvC fd8 L 90) s' ∧ Bd (callEnvC fd8 L 90) s'.heap (Str.ofString "runs") (.ref R) ∧ Bd (callEnvC fd8 L 90) s'.heap (Str.ofString "row") v ∧
      ∃ vs, PlainL s'.heap R vs ∧ Rvs s'.heap vs.toList ((((List.range x.length).take i).flatMap fun low => ((List.range' 2 (x.length - low - 1)).filter (toldIf x low)).map fun size => (low, low + size, lp x low size)).map tupD) ∧ vs.size ≤ 100 * i)
    (itr_range1 (b := x.length) hh (gRan X₃.base) (ed_len_row (k := kd) (gLen X₃.base) (nRow X₃.base (st.old _ _ ne_names (hbP.hk (kp_heap k₂)))) (by omega)) (by omega)) (.inr ⟨rfl, fun b hb => by simp at hb; subst hb; obtain ⟨o, n, ho, _⟩ := hl₃; exact ⟨o, ho⟩⟩) ?_ ?_ ?_ ?_
  · intro s' k'
    exact ⟨X₃.kp k', st.new.hk (kp_heap k'), (st.old _ _ ne_names (hbP.hk (kp_heap k₂))).hk (kp_heap k'), #[], plain_kp hl₃ (kp_heap k'), by simpa using rvs_nil _, by simp⟩
  · rintro i s₁ s₂ hi ef ⟨X₁, b1, b2, vs, hl, hr, hsz⟩ nx hold
    exact ⟨X₁.nx nx fun b o e => hold b o (X₃.base b o e) (X₁.base b o e), b1.nx nx, b2.nx nx, vs, plain_nx hl nx, rvs_tk (tk_nx nx) hr, hsz⟩
  · rintro low d v' s₄ E' hd ef rv ⟨X₄, b1, b2, vs, hl, hr, hsz⟩
    have hlow : low < x.length := by
      rcases Nat.lt_or_ge low x.length with h | h
      · exact h
      · rw [List.getElem?_eq_none (by rw [rng_len]; omega)] at hd; cases hd
    rw [rng_get (by omega), Nat.zero_add] at hd
    cases hd
    obtain ⟨t, rfl⟩ := rv.int
    refine wpAny_assign_Name (st_name G.kind X₄ (.inl kLow) fun s₅ X₅ st5 _ => ?_)
    have bRuns₅ := st5.old _ _ ne_names b1
    have bRow₅ := st5.old _ _ ne_names b2
    have hl₅ := plain_ef hl st5.ef (by simp)
    have hr₅ := rvs_tk (tk_ef st5.ef) hr
    -- table = _generate_overlap_table(row[low:])
    refine wpAny_execs_cons (as_gen (R := fun u s₂ => ∃ T tv, u = .ref T ∧ s₅.heap.get? T = none ∧ s₂.heap.IsList T tv ∧ Rvs s₂.heap tv.toList ((tbl (x.drop low)).map iD)) G.kind X₅ (fun Q' hq => ?_) (.inr ⟨kTab, by rw [cTab]; rfl⟩) ?_)
    · refine ev_def1 (P₁ := fun h u => Rv h u (rowD kd (x.drop low))) (B.hk X₅.base) (by kernel_rfl : (H_11 w.params).get? 21 = some (o21_1 w.params)) (by rfl : (o21_1 w.params).data = .func fd1) (gOv X₅.base) (ed_slice_row (nRow X₅.base bRow₅) (ed_name G.kind st5.new (rv_int _ _ _) (by kernel_rfl)) (by omega)) s₅ _ _ (hk_refl _) fun u s'' k'' ru => ?_
      exact overlap_ok (B.hk (hk X₅.base k'')) ok' (by omega) ru (by simp; omega) fun T tv s' k' hT hlT hrT => hq _ s' (kp_trans k'' k') ⟨T, tv, rfl, fresh_hk (kp_heap k'') hT, hlT, hrT⟩
    rintro u s₆ s₇ k₆ ⟨T, tv, rfl, hTf, hT₆, hrT⟩ X₇ st7
    dsimp only
    have hTR : T ≠ R := by rintro rfl; obtain ⟨o, n, ho, _⟩ := hl₅; rw [hTf] at ho; cases ho
    have hT₇ := isList_ef hT₆ st7.ef (by simp)
    have bRuns₇ := st7.old _ _ ne_names (bRuns₅.hk (kp_heap k₆))
    have bRow₇ := st7.old _ _ ne_names (bRow₅.hk (kp_heap k₆))
    have bLow₇ := st7.old _ _ ne_names (st5.new.hk (kp_heap k₆))
    have hl₇ := plain_ef (plain_kp hl₅ (kp_heap k₆)) st7.ef (by simp)
    have hr₇ := rvs_tk ((tk_kp (kp_heap k₆)).trans (tk_ef st7.ef)) hr₅
    have ef47 : Ef [R] s₄ s₇ := (st5.ef.wide.trans (Ef.of k₆)).trans st7.ef.wide
    have hN : tv.size = x.length - low := by
      have h1 := hrT.length
      rw [List.length_map, tbl_length, List.length_drop, Array.length_toList] at h1
      exact h1
    have nLow : ∀ {s' : Shared} {pos : Pos}, HK s₇ s' → Ed w A' (callEnvC fd8 L 90) s' (.Name (Str.ofString "low") pos) (iD low) := fun kk => ed_name G.kind (bLow₇.hk kk) (rv_int _ _ _) (by kernel_rfl)
    have nTab : ∀ {s' : Shared} {pos : Pos}, HK s₇ s' → Ed w A' (callEnvC fd8 L 90) s' (.Name (Str.ofString "table") pos) (.list ((tbl (x.drop low)).map iD)) := fun kk => ed_name G.kind (st7.new.hk kk) (rv_list (hT₇.at fun o e => kk _ o e) (hrT.flat (flat_ints _))) (by kernel_rfl)
    have lTab : ∀ {s' : Shared} {p1 p2 p3 : Pos}, HK s₇ s' → Ed w A' (callEnvC fd8 L 90) s' (.Call (.Name (Str.ofString "len") p1) [.Name (Str.ofString "table") p2] [] p3) (iD (x.length - low)) := fun kk =>
      (ed_len_list (gLen (hk2 X₇.base kk)) (nTab kk) (by rw [List.length_map, tbl_length, List.length_drop]; omega)).eq (by rw [List.length_map, tbl_length, List.length_drop])
    refine wpAny_execs_cons (if_rule (b := false) ?_ (fun h => by cases h) (fun _ s₈ k₈ => wpAny_execs_nil ?_))
    · refine (ts_or (ts_isnot_type (ev_callT (P₁ := fun h u => u = .ref T ∧ h.IsList T tv) (gTyp X₇.base) ?_ ?_) (gLis X₇.base)) (fun _ => ts_ne_types (ds := (tbl (x.drop low)).map iD) (cl := []) (u := .type "int") (by omega) (itr_var hh G.kind st7.new (rv_list hT₇ (hrT.flat (flat_ints _))) (by kernel_rfl)) ?_ ⟨by kernel_rfl, by decide +kernel, by kernel_rfl, by decide +kernel, by kernel_rfl⟩ ?_ (gInt X₇.base) ?_)).eq rfl
      · exact fun s' Q E k q => ev_name G.kind st7.new (by kernel_rfl) s' Q E k fun u s'' k'' e => q u s'' k'' ⟨e, hT₇.at fun o e => kp_heap k'' _ o (k _ o e)⟩
      · rintro u s' Q E ⟨rfl, hl'⟩ q
        exact call_type_of hl'.typeIs (by decide) (q _ _ (kp_refl _) rfl)
      · rw [List.length_map, tbl_length, List.length_drop]; omega
      · intro env' v' d s₃ I k3 b r3 hd
        obtain ⟨n, _, rfl⟩ := List.mem_map.mp hd
        obtain ⟨tn, rfl⟩ := Rv.int r3
        refine ev_callT (P₁ := fun _ u => u = .int (n : Int) tn) (ev_bl (B.hk (hk2 X₇.base k3)) (I.gl G) (I.kd (by kernel_rfl)) (gm_type _) (gb_type _) (by kernel_rfl)) (ev_name (I.gl G).kind b (by kernel_rfl)) ?_
        rintro u s' Q E rfl q
        exact call_type_of (typeIs_int _ _ _) (by decide) (q _ _ (kp_refl _) rfl)
      · refine (ed_sub (ed_len_row (k := kd) (gLen X₇.base) (nRow X₇.base bRow₇) (by omega)) (nLow (hk_refl _))).eq ?_
        rw [List.length_map, tbl_length, List.length_drop]
        congr 1
        omega
    have K8 := kp_heap k₈
    refine wpAny_execs_cons (if_rule (b := false) ?_ (fun h => by cases h) (fun _ s₉ k₉ => wpAny_execs_nil ?_))
    · refine (ts_cmp (da := .list (((List.range' 0 (x.length - low)).filter fun k => (decide ((lb (x.drop low) (k + 1) : Int) < 0) || decide ((k : Int) < (lb (x.drop low) (k + 1) : Int)))).map iD)) (db := .list []) (ed_comp (g := iD) (cl := [(Str.ofString "table", L + 1)])
        (fun k => (decide ((lb (x.drop low) (k + 1) : Int) < 0) || decide ((k : Int) < (lb (x.drop low) (k + 1) : Int)))) iD iD_inj (fun _ => rfl) (itr_range1 (b := x.length - low) hh (gRan (hk2 X₇.base K8)) (lTab K8) (by omega)) (by rw [List.length_range', sizeLine_eq]; omega)
        ⟨by kernel_rfl, by decide +kernel, by kernel_rfl, by decide +kernel, by kernel_rfl⟩ ?_ ?_) ed_list0 (c_ne (shp_map _ (fun _ => rfl) (fun _ => Nat.zero_le _) _) shp_nil hLine)).eq ?_
      · intro env' v' a s₃ I k3 b r3 ha
        have ha' : a < x.length - low := by simp at ha; omega
        have Gi := I.gl G
        have nT : ∀ {pos : Pos}, Ed w A' env' s₃ (.Name (Str.ofString "table") pos) (.list ((tbl (x.drop low)).map iD)) := ed_name Gi.kind (I.bd (st7.new.hk (hk2 K8 k3)) kTab cTab) (rv_list (hT₇.at fun o e => (hk2 K8 k3) _ o e) (hrT.flat (flat_ints _))) (by kernel_rfl)
        have nK : ∀ {pos : Pos}, Ed w A' env' s₃ (.Name (Str.ofString "k") pos) (iD a) := ed_name Gi.kind b r3 (by kernel_rfl)
        have it : ∀ {p1 p2 p3 : Pos}, Ed w A' env' s₃ (.Subscript (.Name (Str.ofString "table") p1) (.Name (Str.ofString "k") p2) p3) (iD (lb (x.drop low) (a + 1))) := ed_item nT nK (by omega) (by omega) (by
          rw [Int.toNat_natCast, List.getElem?_map, tbl_at (by simp; omega)]; rfl)
        exact tl_one (ts_or (ts_cmp it ed_int c_lt) (fun _ => ts_cmp it nK c_gt))
      · intro env' v' a s₃ I k3 b r3 ha _
        exact ed_name (I.gl G).kind b r3 (by kernel_rfl)
      · have : ((List.range' 0 (x.length - low)).filter fun k => (decide ((lb (x.drop low) (k + 1) : Int) < 0) || decide ((k : Int) < (lb (x.drop low) (k + 1) : Int)))) = [] := by
          rw [List.filter_eq_nil_iff]
          intro a _
          have := tbl_le (w := x.drop low) (k := a)
          simp
          omega
        rw [this]
        rfl
    have K9 := hk K8 k₉
    dsimp only
    have hl₉ := plain_kp hl₇ K9
    generalize hpre : (((List.range x.length).take low).flatMap fun low => ((List.range' 2 (x.length - low - 1)).filter (toldIf x low)).map fun size => (low, low + size, lp x low size)) = pre at hr₇
    have hdlen : (x.drop low).length = x.length - low := by simp
    refine wpAny_execs_cons (for_rule true [R] (fun j s' => Fm s (callEnvC fd8 L 90) s' ∧ Bd (callEnvC fd8 L 90) s'.heap (Str.ofString "runs") (.ref R) ∧ Bd (callEnvC fd8 L 90) s'.heap (Str.ofString "row") v ∧ Bd (callEnvC fd8 L 90) s'.heap (Str.ofString "low") (.int (low : Int) t) ∧ Bd (callEnvC fd8 L 90) s'.heap (Str.ofString "table") (.ref T) ∧ s'.heap.IsList T tv ∧
        ∃ rs, PlainL s'.heap R rs ∧ Rvs s'.heap rs.toList ((pre ++ (((List.range' 2 (x.length - low - 1)).take j).filter (toldIf x low)).map fun size => (low, low + size, lp x low size)).map tupD) ∧ rs.size ≤ 100 * low + j)
      (itr_range2 (a := 2) (b := x.length - low + 1) hh (gRan (hk2 X₇.base K9)) ed_int ((ed_add (lTab K9) ed_int).eq (by push_cast; rfl)) (by decide) (by omega)) (.inr ⟨rfl, fun b hb => by simp at hb; subst hb; obtain ⟨o, n, ho, _⟩ := hl₉; exact ⟨o, ho⟩⟩) ?_ ?_ ?_ ?_)
    · intro s' k'
      have KK := hk K9 k'
      exact ⟨X₇.kp (kp_trans k₈ (kp_trans k₉ k')), bRuns₇.hk KK, bRow₇.hk KK, bLow₇.hk KK, st7.new.hk KK, hT₇.at fun o e => KK _ o e, vs, plain_kp hl₇ KK, by simpa using rvs_tk (tk_kp KK) hr₇, hsz⟩
    · rintro j s₁ s₂ hj ef' ⟨X₁, b1, b2, b3, b4, hlT, rs, hlR, hrR, hz⟩ nx hold
      exact ⟨X₁.nx nx fun b o e => hold b o (K9 b o (X₇.base b o e)) (X₁.base b o e), b1.nx nx, b2.nx nx, b3.nx nx, b4.nx nx, isList_nx hlT nx, rs, plain_nx hlR nx, rvs_tk (tk_nx nx) hrR, hz⟩
    · rintro j d v' s₁₀ E10 hd ef10 rv ⟨X₁₀, c1, c2, c3, c4, hlT, rs, hlR, hrR, hz⟩
      have hj : j < x.length - low + 1 - 2 := by
        rcases Nat.lt_or_ge j (x.length - low + 1 - 2) with h | h
        · exact h
        · rw [List.getElem?_eq_none (by rw [rng_len]; omega)] at hd; cases hd
      rw [rng_get hj] at hd
      cases hd
      obtain ⟨tz, rfl⟩ := rv.int
      generalize hsize : 2 + j = size
      have hs1 : 2 ≤ size := by omega
      have hs2 : size ≤ x.length - low := by omega
      have hstp : 0 < lp x low size := lp_pos (by omega)
      have hstl : lp x low size ≤ size := lp_le
      have hlb : lb (x.drop low) size + lp x low size = size := by unfold lp; have := lb_lt (w := x.drop low) (L := size) (by omega); omega
      refine wpAny_assign_Name (st_name G.kind X₁₀ (.inl kSize) fun s₁₁ X₁₁ st11 _ => ?_)
      have d1 := st11.old _ _ ne_names c1
      have d2 := st11.old _ _ ne_names c2
      have d3 := st11.old _ _ ne_names c3
      have d4 := st11.old _ _ ne_names c4
      have hT11 := isList_ef hlT st11.ef (by simp)
      have eTab : ∀ {s' : Shared} {pos : Pos}, Bd (callEnvC fd8 L 90) s'.heap (Str.ofString "table") (.ref T) → s'.heap.IsList T tv → Ed w A' (callEnvC fd8 L 90) s' (.Name (Str.ofString "table") pos) (.list ((tbl (x.drop low)).map iD)) := fun b hl => ed_name G.kind b (rv_list hl (hrT.flat (flat_ints _))) (by kernel_rfl)
      have eInt : ∀ {s' : Shared} {pos : Pos} {n : Str} {z : Nat} {tt : Tok}, Bd (callEnvC fd8 L 90) s'.heap n (.int (z : Int) tt) → (n == ("__debug__" : Str)) = false → Ed w A' (callEnvC fd8 L 90) s' (.Name n pos) (iD z) := fun b h => ed_name G.kind b (rv_int _ _ _) h
      -- step = size - table[size - 1]
      refine wpAny_execs_cons (as_name G.kind X₁₁ (P := fun _ u => ∀ h, Rv h u (iD (lp x low size))) (Ed.all ((ed_sub (eInt st11.new (by kernel_rfl)) (ed_item (n := (size : Int) - 1) (d := iD (lb (x.drop low) size)) (eTab d4 hT11) (ed_sub (eInt st11.new (by kernel_rfl)) ed_int) (by omega) (by omega) (by
          have e : ((size : Int) - 1).toNat = size - 1 := by omega
          rw [e, List.getElem?_map, tbl_at (by rw [hdlen]; omega)]
          have e2 : size - 1 + 1 = size := by omega
          rw [e2]; rfl))).eq (by congr 1; omega)) rfl) (.inl kStep) ?_)
      intro u s₁₂ s₁₃ k₁₂ hu X₁₃ st13
      obtain ⟨tu, rfl⟩ := (hu s₁₃.heap).int
      dsimp only
      have K12 := kp_heap k₁₂
      have e1 := st13.old _ _ ne_names (d1.hk K12)
      have e2 := st13.old _ _ ne_names (d2.hk K12)
      have e3 := st13.old _ _ ne_names (d3.hk K12)
      have e4 := st13.old _ _ ne_names (d4.hk K12)
      have e5 := st13.old _ _ ne_names (st11.new.hk K12)
      have hT13 := isList_ef (hT11.at fun o e => K12 _ o e) st13.ef (by simp)
      -- ahead
      refine wpAny_execs_cons (as_name G.kind X₁₃ (P := fun _ u => u = .bool (decide (0 < low) && (at' x (low - 1) == at' x (low - 1 + lp x low size)))) (fun s' Q E k q => (ed_and (x := decide (0 < low)) (y := (at' x (low - 1) == at' x (low - 1 + lp x low size))) ((ed_cmp (eInt e3 (by kernel_rfl)) ed_int c_gt).eq (by congr 1; simp)) (fun h0 => ?_)) s' Q E k fun v s'' k'' r => q v s'' k'' r.bool) (.inl kAh) ?_)
      · have h0' : 0 < low := by simpa using h0
        refine ed_cmp (ed_item_row (k := kd) (n := low - 1) (nRow X₁₃.base e2) ((ed_sub (eInt e3 (by kernel_rfl)) ed_int).eq (by congr 1; omega)) (by omega) (at_get (by omega)))
          (ed_item_row (k := kd) (n := low - 1 + lp x low size) (nRow X₁₃.base e2) ((ed_add (ed_sub (eInt e3 (by kernel_rfl)) ed_int) (eInt st13.new (by kernel_rfl))).eq (by congr 1; omega)) (by omega) (at_get (by omega))) c_eq_el
      intro u s₁₄ s₁₅ k₁₄ hu X₁₅ st15
      subst hu
      dsimp only
      have K14 := kp_heap k₁₄
      have f1 := st15.old _ _ ne_names (e1.hk K14)
      have f2 := st15.old _ _ ne_names (e2.hk K14)
      have f3 := st15.old _ _ ne_names (e3.hk K14)
      have f4 := st15.old _ _ ne_names (e4.hk K14)
      have f5 := st15.old _ _ ne_names (e5.hk K14)
      have f6 := st15.old _ _ ne_names (st13.new.hk K14)
      have hT15 := isList_ef (hT13.at fun o e => K14 _ o e) st15.ef (by simp)
      have lTab15 : ∀ {p1 p2 p3 : Pos}, Ed w A' (callEnvC fd8 L 90) s₁₅ (.Call (.Name (Str.ofString "len") p1) [.Name (Str.ofString "table") p2] [] p3) (iD (x.length - low)) :=
        (ed_len_list (gLen X₁₅.base) (eTab f4 hT15) (by rw [List.length_map, tbl_length, List.length_drop]; omega)).eq (by rw [List.length_map, tbl_length, List.length_drop])
      -- behind
      refine wpAny_execs_cons (as_name G.kind X₁₅ (P := fun _ u => u = .bool (decide (low + size < x.length) && (lp x low (size + 1) == lp x low size))) (fun s' Q E k q => (ed_and (x := decide (low + size < x.length)) (y := (lp x low (size + 1) == lp x low size)) ((ed_cmp (eInt f5 (by kernel_rfl)) lTab15 c_lt).eq (by congr 1; rw [Bool.eq_iff_iff]; simp; omega)) (fun h0 => ?_)) s' Q E k fun v s'' k'' r => q v s'' k'' r.bool) (.inl kBe) ?_)
      · have h0' : low + size < x.length := by simpa using h0
        have hl2 : lb (x.drop low) (size + 1) + lp x low (size + 1) = size + 1 := by unfold lp; have := lb_lt (w := x.drop low) (L := size + 1) (by omega); omega
        refine (ed_cmp (da := iD (lp x low (size + 1))) ((ed_sub (ed_add (eInt f5 (by kernel_rfl)) ed_int) (ed_item (n := (size : Int)) (d := iD (lb (x.drop low) (size + 1))) (eTab f4 hT15) (eInt f5 (by kernel_rfl)) (by omega) (by omega) (by
          rw [Int.toNat_natCast, List.getElem?_map, tbl_at (by rw [hdlen]; omega)]; rfl))).eq (by congr 1; omega)) (eInt f6 (by kernel_rfl)) c_eqi).eq (by congr 1; rw [Bool.eq_iff_iff]; simp [Int.natCast_inj])
      intro u s₁₆ s₁₇ k₁₆ hu X₁₇ st17
      subst hu
      dsimp only
      have K16 := kp_heap k₁₆
      have g1 := st17.old _ _ ne_names (f1.hk K16)
      have g2 := st17.old _ _ ne_names (f2.hk K16)
      have g3 := st17.old _ _ ne_names (f3.hk K16)
      have g4 := st17.old _ _ ne_names (f4.hk K16)
      have g5 := st17.old _ _ ne_names (f5.hk K16)
      have g6 := st17.old _ _ ne_names (f6.hk K16)
      have g7 := st17.old _ _ ne_names (st15.new.hk K16)
      have hT17 := isList_ef (hT15.at fun o e => K16 _ o e) st17.ef (by simp)
      have efE : Ef [] s₁₀ s₁₇ := ((((((st11.ef.trans (Ef.of k₁₂)).trans st13.ef).trans (Ef.of k₁₄)).trans st15.ef).trans (Ef.of k₁₆)).trans st17.ef)
      have hlR17 := plain_ef hlR efE (by simp)
      have hrR17 := rvs_tk (tk_ef efE) hrR
      have htake : (List.range' 2 (x.length - low - 1)).take (j + 1) = (List.range' 2 (x.length - low - 1)).take j ++ [size] := by
        rw [List.take_add_one]
        have : (List.range' 2 (x.length - low - 1))[j]? = some size := by rw [List.getElem?_range' (by omega)]; simp; omega
        rw [this]; rfl
      refine wpAny_execs_cons (if_rule (b := toldIf x low size) ((ts_and3 (x := decide (2 * lp x low size ≤ size)) (y := !(decide (0 < low) && (at' x (low - 1) == at' x (low - 1 + lp x low size)))) (z := !(decide (low + size < x.length) && (lp x low (size + 1) == lp x low size)))
          ((ts_cmp (ed_mul ed_int (eInt g6 (by kernel_rfl)) (by decide) (by omega)) (eInt g5 (by kernel_rfl)) c_le).eq (by rw [Bool.eq_iff_iff]; simp; omega)) (fun _ => ts_not (ts_plain (ed_name G.kind g7 (rv_bool _ _) (by kernel_rfl)))) (fun _ _ => ts_not (ts_plain (ed_name G.kind st17.new (rv_bool _ _) (by kernel_rfl))))).eq (by unfold toldIf; rw [Bool.and_assoc])) (fun ht s₁₈ k₁₈ => ?_) (fun ht s₁₈ k₁₈ => ?_))
      · have K18 := kp_heap k₁₈
        refine wpAny_execs_cons (st_append (d := tupD (low, low + size, lp x low size)) ((ev_name G.kind (g1.hk K18) (by kernel_rfl))) (ed_tuple3 (eInt (g3.hk K18) (by kernel_rfl)) ((ed_add (eInt (g3.hk K18) (by kernel_rfl)) (eInt (g5.hk K18) (by kernel_rfl))).eq (by push_cast; rfl)) (eInt (g6.hk K18) (by kernel_rfl))) (plain_kp hlR17 K18) (by rw [sizeLine_eq]; omega) ?_ (hi := by kernel_rfl))
        intro v' s₁₉ s₂₀ k₁₉ rv' mu hl20
        dsimp only
        have K19 := hk K18 k₁₉
        have hlR19 := (plain_kp hlR17 K19).isList
        refine wpAny_execs_nil (wpAny_execs_nil ⟨(efE.wide.trans (Ef.of (kp_trans k₁₈ k₁₉))).trans mu.ef, (X₁₇.kp (kp_trans k₁₈ k₁₉)).mu mu hlR19 hRf, (g1.hk K19).mu mu hlR19, (g2.hk K19).mu mu hlR19, (g3.hk K19).mu mu hlR19, (g4.hk K19).mu mu hlR19, ?_, rs.push v', hl20, ?_, ?_⟩)
        · exact (hT17.at fun o e => mu.keep _ o hTR (K19 _ o e))
        · have el : pre ++ (((List.range' 2 (x.length - low - 1)).take (j + 1)).filter (toldIf x low)).map (fun size => (low, low + size, lp x low size)) = (pre ++ (((List.range' 2 (x.length - low - 1)).take j).filter (toldIf x low)).map (fun size => (low, low + size, lp x low size))) ++ [(low, low + size, lp x low size)] := by
            rw [htake, List.filter_append]; simp [ht]
          rw [el, List.map_append, Array.toList_push]
          exact (rvs_tk ((tk_kp K19).trans (tk_mu mu hlR19)) hrR17).app (rvs_cons (rv_tk rv' (tk_mu mu hlR19)) (rvs_nil _))
        · rw [Array.size_push]; omega
      · have K18 := kp_heap k₁₈
        refine wpAny_execs_nil (wpAny_execs_nil ⟨efE.wide.trans (Ef.of k₁₈), X₁₇.kp k₁₈, g1.hk K18, g2.hk K18, g3.hk K18, g4.hk K18, hT17.at fun o e => K18 _ o e, rs, plain_kp hlR17 K18, ?_, by omega⟩)
        rw [htake, List.filter_append, List.filter_cons, if_neg (by rw [ht]; simp), List.filter_nil, List.append_nil]
        exact rvs_tk (tk_kp K18) hrR17
    · rintro s' ef' ⟨X', c1, c2, c3, c4, hlT, rs, hlR, hrR, hz⟩
      refine wpAny_execs_nil ⟨(ef47.trans (Ef.of (kp_trans k₈ k₉))).trans ef', X', c1, c2, rs, hlR, ?_, ?_⟩
      · rw [rng_len, List.take_of_length_le (by simp)] at hrR
        have : (List.range x.length).take (low + 1) = (List.range x.length).take low ++ [low] := by
          rw [List.take_add_one]; simp [hlow]
        rw [this, List.flatMap_append, hpre, List.flatMap_singleton]
        exact hrR
      · rw [rng_len] at hz; omega
  · rintro s' ef ⟨X', b1, b2, vs, hl, hr, hsz⟩
    dsimp only
    refine wpAny_execs_cons (wpAny_Return_some (ev_name G.kind b1 (by kernel_rfl) s' _ _ (hk_refl _) fun u s'' k'' e => ?_))
    subst e
    refine ⟨_, rfl, X'.kp k'', ?_⟩
    rw [rng_len, List.take_of_length_le (by simp)] at hr
    exact rv_list (plain_kp hl (kp_heap k'')).isList (rvs_tk (tk_kp (kp_heap k'')) hr)
end
end
end Mine
end
noncomputable section
open PySem PySem.W PyProof.Rows PySem.Calls
set_option Elab.async false
set_option maxRecDepth 100000
set_option linter.unusedVariables false
namespace Mine
noncomputable section
section
variable {w : World} {A : Around} {env : Env} {s s₀ : Shared}

theorem as_swap2 {a b : PySem.Expr} {n1 n2 : Str} {elts : List PySem.Expr} {k1 k2 : Nat} {p1 p2 pos : Pos} {Ra : Value → Shared → Prop} {Rb : Value → Value → Shared → Prop} {Q : Flow → Shared → Prop} {E : Value → Shared → Prop}
    (hh : A.handled = none) (hk : env.scope.kind = .function) (X : Fm s₀ env s)
    (ha : ∀ Q' : Value → Shared → Prop, (∀ u s₁, Keeps s s₁ → Ra u s₁ → Q' u s₁) → wpAny (model pw w) A (eval a env) Q' E s)
    (hb : ∀ u s₁ (Q' : Value → Shared → Prop), Keeps s s₁ → Ra u s₁ → (∀ v s₂, Keeps s₁ s₂ → Rb u v s₂ → Q' v s₂) → wpAny (model pw w) A (eval b env) Q' E s₁)
    (hn1 : env.kindOf n1 = some .local ∨ (env.kindOf n1 = some .cell ∧ (env.cells.lookup n1).isSome = true)) (hn2 : env.kindOf n2 = some .local ∨ (env.kindOf n2 = some .cell ∧ (env.cells.lookup n2).isSome = true))
    (h : ∀ u v s₂ s₄ s₅ s₆, Keeps s s₂ → Rb u v s₂ → Keeps s₂ s₄ → Sto env n2 v s₄ s₅ → Fm s₀ env s₆ → Sto env n1 u s₅ s₆ → Q .next s₆)
    (hw : swappedStores [.Tuple elts k1 p1] (.Tuple [a, b] k2 p2) env = pure (some [n1, n2]))
    (hs : swapsWithSole [.Tuple elts k1 p1] (.Tuple [a, b] k2 p2) pos.line env = pure false := by rfl)
    (h2 : starEach [a, b] env = (false, eval a env) :: starEach [b] env := by rfl) (h3 : starEach [b] env = (false, eval b env) :: starEach [] env := by rfl) :
    wpAny (model pw w) A (exec (.Assign [.Tuple elts k1 p1] (.Tuple [a, b] k2 p2) pos) env) Q E s := by
  refine Assign_Tuple_swapped (names := [n1, n2]) ?_ hs hw
  refine Tuple_ (args_cons (ha _ fun u s₁ k₁ ra => args_cons (hb u s₁ _ k₁ ra fun v s₂ k₂ rb => args_nil ?_) h3) h2)
  refine wpAny_newObj_type ?_ (by show (2 : Nat) ≤ sizeLine; rw [sizeLine_eq]; omega)
  refine unpackItems_tuple (items := #[u, v]) hh ⟨_, Heap.get?_push_size _ rfl, rfl, _, rfl⟩ fun h' he => ?_
  have kk : Keeps s₂ { s₂ with heap := h' } := ⟨h', _, rfl, fun b o e => he b o (by show b ≠ (s₂.heap.push _).objs.size; rw [Heap.size_push]; exact Nat.ne_of_lt (Nat.lt_succ_of_lt (Heap.lt_size e))) (Heap.get?_push_of_some _ e)⟩
  have k2 := kp_trans k₁ k₂
  show wpAny _ A (assignInOrder [bindName env n2, bindName env n1] [v, u]) _ _ _
  refine wpAny_bind (wpAny_holding (wpAny_bindName (st_name hk (X.kp (kp_trans k2 kk)) hn2 fun s₅ X₅ st5 _ => ?_)))
  refine wpAny_bind (wpAny_holding (wpAny_bindName (st_name hk X₅ hn1 fun s₆ X₆ st6 _ => wpAny_pure ?_)))
  exact h u v s₂ _ s₅ s₆ k2 rb kk st5 X₆ st6

theorem as_swap3 {a b c : PySem.Expr} {da db dc : PyData} {n1 n2 n3 : Str} {elts : List PySem.Expr} {k1 k2 : Nat} {p1 p2 pos : Pos} {Q : Flow → Shared → Prop} {E : Value → Shared → Prop}
    (hh : A.handled = none) (hk : env.scope.kind = .function) (X : Fm s₀ env s) (ha : Ed w A env s a da) (hb : Ed w A env s b db) (hc : Ed w A env s c dc)
    (hn1 : env.kindOf n1 = some .local ∨ (env.kindOf n1 = some .cell ∧ (env.cells.lookup n1).isSome = true)) (hn2 : env.kindOf n2 = some .local ∨ (env.kindOf n2 = some .cell ∧ (env.cells.lookup n2).isSome = true)) (hn3 : env.kindOf n3 = some .local ∨ (env.kindOf n3 = some .cell ∧ (env.cells.lookup n3).isSome = true))
    (h : ∀ u v t s₃ s₄ s₅ s₆, Keeps s s₃ → Rv s₃.heap u da → Rv s₃.heap v db → Rv s₃.heap t dc → Sto env n3 t s₃ s₄ → Sto env n2 v s₄ s₅ → Fm s₀ env s₆ → Sto env n1 u s₅ s₆ → Q .next s₆)
    (hw : swappedStores [.Tuple elts k1 p1] (.Tuple [a, b, c] k2 p2) env = pure (some [n1, n2, n3]))
    (hs : swapsWithSole [.Tuple elts k1 p1] (.Tuple [a, b, c] k2 p2) pos.line env = pure false := by rfl)
    (h1 : starEach [a, b, c] env = (false, eval a env) :: starEach [b, c] env := by rfl) (h2 : starEach [b, c] env = (false, eval b env) :: starEach [c] env := by rfl) (h3 : starEach [c] env = (false, eval c env) :: starEach [] env := by rfl) :
    wpAny (model pw w) A (exec (.Assign [.Tuple elts k1 p1] (.Tuple [a, b, c] k2 p2) pos) env) Q E s := by
  refine Assign_Tuple_swapped (names := [n1, n2, n3]) ?_ hs hw
  refine Tuple_ (args_cons (ha s _ _ (hk_refl _) fun u s₁ k₁ ra => args_cons (hb s₁ _ _ (kp_heap k₁) fun v s₂ k₂ rb => args_cons (hc s₂ _ _ (kp_heap (kp_trans k₁ k₂)) fun t s₃ k₃ rc => args_nil ?_) h3) h2) h1)
  refine wpAny_newObj_type ?_ (by show (3 : Nat) ≤ sizeLine; rw [sizeLine_eq]; omega)
  refine unpackItems_tuple (items := #[u, v, t]) hh ⟨_, Heap.get?_push_size _ rfl, rfl, _, rfl⟩ fun h' he => ?_
  have kk : Keeps s₃ { s₃ with heap := h' } := ⟨h', _, rfl, fun b o e => he b o (by show b ≠ (s₃.heap.push _).objs.size; rw [Heap.size_push]; exact Nat.ne_of_lt (Nat.lt_succ_of_lt (Heap.lt_size e))) (Heap.get?_push_of_some _ e)⟩
  have k3 := kp_trans (kp_trans k₁ (kp_trans k₂ k₃)) kk
  show wpAny _ A (assignInOrder [bindName env n3, bindName env n2, bindName env n1] [t, v, u]) _ _ _
  refine wpAny_bind (wpAny_holding (wpAny_bindName (st_name hk (X.kp k3) hn3 fun s₅ X₅ st5 _ => ?_)))
  refine wpAny_bind (wpAny_holding (wpAny_bindName (st_name hk X₅ hn2 fun s₆ X₆ st6 _ => ?_)))
  refine wpAny_bind (wpAny_holding (wpAny_bindName (st_name hk X₆ hn1 fun s₇ X₇ st7 _ => wpAny_pure ?_)))
  exact h u v t _ s₅ s₆ s₇ k3 (ra.kp (kp_trans k₂ (kp_trans k₃ kk))) (rb.kp (kp_trans k₃ kk)) (rc.kp kk) st5 st6 X₇ st7

/-- a new list cut from a list, gone through -/
theorem itr_cut {e : PySem.Expr} {hi : PySem.Expr} {p pos : Pos} {ds : List PyData} {b : Nat} (hh : A.handled = none) (he : Ed w A env s e (.list ds)) (hb : Ed w A env s hi (iD b)) (hz : ds.length ≤ sizeLine) (hf : ∀ d ∈ ds, flat d = true) : Itr true w A env s (.Subscript e (.Slice none (some hi) none p) pos) (ds.take b) :=
  fun s' K E k q => sub_list_slice (he s' _ _ k fun o s₁ k₁ r => pt_ev (.none) s₁ _ _ (hk k k₁) fun pa hpa s₂ k₂ => pt_ev (.some hb) s₂ _ _ (hk k (kp_trans k₁ k₂)) fun pb hpb s₃ k₃ => by
    obtain ⟨l, vs, rfl, hl, rr⟩ := (r.kp (kp_trans k₂ k₃)).list
    have hn : vs.size = ds.length := by rw [← Array.length_toList]; exact rr.length
    refine ⟨l, vs, none, some (b : Int), rfl, hl, by omega, hpa ▸ isPart_of pa, hpb ▸ isPart_of pb, ?_⟩
    have hcut : (slicePick vs none (some (b : Int)) none).toList = vs.toList.take b := by rw [slicePick_upto']
    generalize slicePick vs none (some (b : Int)) none = cut at hcut ⊢
    have k4 : Keeps s' { s₃ with heap := (s₃.heap.push { cls := .type "slice", data := .fields #[partValue pa, partValue pb, .none] }).push { cls := .type "list", data := .seq cut } } :=
      kp_trans k₁ (kp_trans k₂ (kp_trans k₃ ⟨_, _, rfl, fun _ _ e => Heap.get?_push_of_some _ (Heap.get?_push_of_some _ e)⟩))
    have hlc : ({ s₃ with heap := (s₃.heap.push { cls := .type "slice", data := .fields #[partValue pa, partValue pb, .none] }).push { cls := .type "list", data := .seq cut } } : Shared).heap.IsList (s₃.heap.objs.size + 1) cut := by
      have := Heap.get?_push_size (s₃.heap.push { cls := .type "slice", data := .fields #[partValue pa, partValue pb, .none] }) (o := { cls := .type "list", data := .seq cut }) rfl
      rw [Heap.size_push] at this
      exact ⟨_, this, rfl, _, rfl⟩
    have hfr : s'.heap.get? (s₃.heap.objs.size + 1) = none := fresh_hk (kp_heap (kp_trans k₁ (kp_trans k₂ k₃))) (none_of_ge (Nat.le_succ _))
    generalize ({ s₃ with heap := (s₃.heap.push { cls := .type "slice", data := .fields #[partValue pa, partValue pb, .none] }).push { cls := .type "list", data := .seq cut } } : Shared) = s₄ at k4 hlc ⊢
    generalize s₃.heap.objs.size + 1 = lc at hlc hfr ⊢
    have hne : lc ≠ s₄.heap.objs.size := by obtain ⟨o, ho, _⟩ := hlc; exact Nat.ne_of_lt (Heap.lt_size ho)
    have hf' : s'.heap.get? s₄.heap.objs.size = none := fresh_hk (kp_heap k4) (none_of_ge (Nat.le_refl _))
    have WW := wk_list (w := w) hh _ lc hne cut
    have hcs : cut.size = (ds.take b).length := by rw [← Array.length_toList, hcut]; simp [hn]
    rw [hcs] at WW
    refine wpAny_pyIter_list hlc ?_
    refine q _ _ _ _ _ { s₄ with heap := _ } (kp_trans k4 ⟨_, _, rfl, fun _ _ e => Heap.get?_push_of_some _ e⟩) WW ⟨⟨_, Heap.get?_push_size _ rfl, rfl, rfl⟩, hlc.push _⟩ ?_ ?_ ?_ ?_
    · intro x hx
      show _ < (s₄.heap.push _).objs.size
      rw [Heap.size_push]
      rcases List.mem_cons.mp hx with rfl | hx
      · exact Nat.lt_succ_self _
      · simp at hx; subst hx; obtain ⟨o, ho, _⟩ := hlc; exact Nat.lt_succ_of_lt (Heap.lt_size ho)
    · intro x hx; simp at hx; subst hx; exact hf'
    · intro _ x hx
      rcases List.mem_cons.mp hx with rfl | hx
      · exact hf'
      · simp at hx; subst hx; exact hfr
    · intro j v hv
      have rr' := (rvs_take_drop rr b).2
      rw [← hcut] at rr'
      have hj : j < cut.size := by
        rcases Nat.lt_or_ge j cut.size with h | h
        · exact h
        · rw [Array.getElem?_eq_none h] at hv; cases hv
      have hj' : j < (ds.take b).length := by omega
      obtain ⟨u, hu, ru⟩ := rr'.get (i := j) (List.getElem?_eq_getElem hj')
      have : u = v := by
        have h2 : cut.toList[j]? = some v := by simpa using hv
        rw [h2] at hu; exact (Option.some.inj hu).symm
      subst this
      exact ⟨_, List.getElem?_eq_getElem hj', ru.flat (hf _ (List.mem_of_mem_take (List.getElem_mem hj')))⟩)
end
end
end Mine
end
noncomputable section
open PySem PySem.W PyProof.Rows PySem.Calls
set_option Elab.async false
set_option maxRecDepth 100000
set_option linter.unusedVariables false
namespace Mine
noncomputable section
def fd9 : FuncData := { name := Str.ofString "_law_found", qualname := Str.ofString "_law_found", params := fnArgs 9, body := .stmts (fnBody 9), scope := fnScope 9, globals := 3, closure := [], defaults := Value.none, kwdefaults := Value.none, doc := Value.none, pyModule := Value.str (Str.ofString "law_rl0074_01") 2227, annotations := none, code := Value.ref 94, closureTuple := Value.none, builtins := 0 }
theorem flat_tails (x e : List Nat) (l : List Nat) : ∀ d ∈ l.map (fun k => St' (tail' x e k)), flat d = true := by intro d hd; simp at hd; obtain ⟨n, _, rfl⟩ := hd; rfl

theorem filter_true {α : Type} (l : List α) : l.filter (fun _ => true) = l := List.filter_eq_self.mpr fun _ _ => rfl
theorem not_both {p : Prop} [Decidable p] {a b : Nat} (h : (decide p && (a == b)) = false) : ¬ (p ∧ a = b) := by rintro ⟨hp, he⟩; simp [hp, he] at h
theorem Itr.eq {fr : Bool} {w : World} {A : Around} {env : Env} {s : Shared} {iter : PySem.Expr} {ds ds' : List PyData} (h : Itr fr w A env s iter ds) (e : ds = ds') : Itr fr w A env s iter ds' := e ▸ h
section
variable {w : World} {A : Around} {s : Shared}
set_option maxHeartbeats 1000000 in
theorem found_ok {k : Nat} {v1 v2 : Value} {x e : List Nat} {Q : Value → Shared → Prop} {E : Value → Shared → Prop} (B : Base w s) (ok : Ok k A) (hk18 : k ≤ 18) (r1 : Rv s.heap v1 (St' x)) (r2 : Rv s.heap v2 (St' e)) (hx : x.length ≤ 100) (he : e.length ≤ 100)
    (q : ∀ u s', Keeps s s' → Rv s'.heap u (.list ((found x e).map tupD)) → Q u s') : wpAny (model pw w) A (call (.ref 95) [v1, v2]) Q E s := by
  refine enter (k := k) (o := o95_9 w.params) (fd := fd9) (body := fnBody 9) (binds := [(Str.ofString "face", v1), (Str.ofString "end", v2)]) B ok (by omega) (by kernel_rfl) (by rfl) (by kernel_rfl) rfl (by kernel_rfl) rfl
    (fun L x hx => by simp at hx; rcases hx with rfl | rfl <;> exact .inr ⟨by kernel_rfl, by kernel_rfl⟩) (List.pairwise_cons.mpr ⟨fun y hy => by simp at hy; subst hy; exact ne_names, List.pairwise_singleton _ _⟩) (P := fun u s' => Rv s'.heap u (.list ((found x e).map tupD)))
    (fun L s₁ E X hb => ?_) (fun u s' kk e => q u s' kk e) (by kernel_rfl) (by kernel_rfl) (by kernel_rfl)
  have hbF : Bd (callEnvC fd9 L 95) s₁.heap (Str.ofString "face") v1 := hb (Str.ofString "face", v1) (by simp)
  have hbE : Bd (callEnvC fd9 L 95) s₁.heap (Str.ofString "end") v2 := hb (Str.ofString "end", v2) (by simp)
  have G : Gl (callEnvC fd9 L 95) := ⟨by kernel_rfl, by kernel_rfl, by kernel_rfl⟩
  have ok' := ok.deeper (callEnvC fd9 L 95)
  generalize A.deeper (callEnvC fd9 L 95) = A' at ok' ⊢
  have hh := ok'.handled
  have hLine := ok'.line (by omega)
  have kF : (callEnvC fd9 L 95).kindOf (Str.ofString "face") = some .cell := by kernel_rfl
  have cF : (callEnvC fd9 L 95).cells.lookup (Str.ofString "face") = some (L + 1) := by kernel_rfl
  have kE : (callEnvC fd9 L 95).kindOf (Str.ofString "end") = some .cell := by kernel_rfl
  have cE : (callEnvC fd9 L 95).cells.lookup (Str.ofString "end") = some (L + 2) := by kernel_rfl
  have kTl : (callEnvC fd9 L 95).kindOf (Str.ofString "tails") = some .cell := by kernel_rfl
  have cTl : (callEnvC fd9 L 95).cells.lookup (Str.ofString "tails") = some (L + 3) := by kernel_rfl
  have kPl : (callEnvC fd9 L 95).kindOf (Str.ofString "place") = some .cell := by kernel_rfl
  have cPl : (callEnvC fd9 L 95).cells.lookup (Str.ofString "place") = some (L + 4) := by kernel_rfl
  have kRuns : (callEnvC fd9 L 95).kindOf (Str.ofString "runs") = some .local := by kernel_rfl
  have kSize : (callEnvC fd9 L 95).kindOf (Str.ofString "size") = some .local := by kernel_rfl
  have kStop : (callEnvC fd9 L 95).kindOf (Str.ofString "stop") = some .local := by kernel_rfl
  have kLow : (callEnvC fd9 L 95).kindOf (Str.ofString "low") = some .local := by kernel_rfl
  have kHigh : (callEnvC fd9 L 95).kindOf (Str.ofString "high") = some .local := by kernel_rfl
  have kStep : (callEnvC fd9 L 95).kindOf (Str.ofString "step") = some .local := by kernel_rfl
  have gLen : ∀ {s' : Shared} {pos : Pos}, HK s s' → Ev w A' (callEnvC fd9 L 95) s' (.Name (Str.ofString "len") pos) (fun _ v => v = .builtin "len") := fun kk => ev_bl (B.hk kk) G (by kernel_rfl) (gm_len _) (gb_len _) (by kernel_rfl)
  have gRan : ∀ {s' : Shared} {pos : Pos}, HK s s' → Ev w A' (callEnvC fd9 L 95) s' (.Name (Str.ofString "range") pos) (fun _ v => v = .type "range") := fun kk => ev_bl (B.hk kk) G (by kernel_rfl) (gm_range _) (gb_range _) (by kernel_rfl)
  have nF : ∀ {s' : Shared} {pos : Pos}, HK s s' → Bd (callEnvC fd9 L 95) s'.heap (Str.ofString "face") v1 → Ed w A' (callEnvC fd9 L 95) s' (.Name (Str.ofString "face") pos) (St' x) := fun kk b => ed_name G.kind b (r1.keep kk) (by kernel_rfl)
  have eInt : ∀ {s' : Shared} {pos : Pos} {n : Str} {z : Nat} {tt : Tok}, Bd (callEnvC fd9 L 95) s'.heap n (.int (z : Int) tt) → (n == ("__debug__" : Str)) = false → Ed w A' (callEnvC fd9 L 95) s' (.Name n pos) (iD z) := fun b h => ed_name G.kind b (rv_int _ _ _) h
  with_unfolding_all refine wpAny_execs_cons ?_
  -- runs, size = [], len(face)
  refine as_swap2 (n1 := Str.ofString "runs") (n2 := Str.ofString "size") (Ra := fun u s₂ => ∃ R, u = .ref R ∧ s.heap.get? R = none ∧ PlainL s₂.heap R #[]) (Rb := fun u v s₂ => ∃ R t, u = .ref R ∧ v = .int (x.length : Int) t ∧ s.heap.get? R = none ∧ PlainL s₂.heap R #[]) hh G.kind X (fun Q' hq => ?_) (fun u s₁' Q' k₁' ra hq => ?_) (.inl kRuns) (.inl kSize) ?_ (by kernel_rfl)
  · refine List_ (args_nil ?_)
    refine wpAny_newObj_type ?_ (by show (0 : Nat) ≤ sizeLine; omega)
    exact hq _ _ ⟨_, _, rfl, fun _ _ e => Heap.get?_push_of_some _ e⟩ ⟨_, rfl, fresh_hk X.base (none_of_ge (Nat.le_refl _)), ⟨_, _, Heap.get?_push_size _ rfl, rfl, rfl, rfl⟩⟩
  · obtain ⟨R, rfl, hRf, hl⟩ := ra
    refine ed_len_row (k := true) (gLen (hk X.base k₁')) (nF (hk X.base k₁') (hbF.hk (kp_heap k₁'))) (by omega) rfl rfl s₁' _ _ (hk_refl _) fun u s₂ k₂ ru => ?_
    obtain ⟨t, rfl⟩ := Rv.int ru
    exact hq _ s₂ k₂ ⟨R, t, rfl, rfl, hRf, plain_kp hl (kp_heap k₂)⟩
  rintro u v s₂ s₄ s₅ s₆ k₂ ⟨R, tn, rfl, rfl, hRf, hl₂⟩ k₄ st5 X₆ st6
  dsimp only
  have K4 := kp_heap (kp_trans k₂ k₄)
  have bF6 := st6.old _ _ ne_names (st5.old _ _ ne_names (hbF.hk K4))
  have bE6 := st6.old _ _ ne_names (st5.old _ _ ne_names (hbE.hk K4))
  have bS6 := st6.old _ _ ne_names st5.new
  have hl₆ := plain_ef (plain_ef (plain_kp hl₂ (kp_heap k₄)) st5.ef (by simp)) st6.ef (by simp)
  -- tails = [face[k:] + end for k in range(size + 1)]
  refine wpAny_execs_cons (as_gen (R := fun u s₂ => ∃ T tv, u = .ref T ∧ s₆.heap.get? T = none ∧ s₂.heap.IsList T tv ∧ ∀ h, Rvs h tv.toList ((List.range' 0 (x.length + 1)).map fun k => St' (tail' x e k))) G.kind X₆ (fun Q' hq => ?_) (.inr ⟨kTl, by rw [cTl]; rfl⟩) ?_ (by kernel_rfl))
  · refine comp_q (g := iD) (as := List.range' 0 (x.length + 1)) (cl := [(Str.ofString "face", L + 1), (Str.ofString "end", L + 2)]) (fun _ => true) (fun k => St' (tail' x e k)) iD_inj (fun _ => rfl)
      (itr_range1 (b := x.length + 1) hh (gRan X₆.base) ((ed_add (eInt bS6 (by kernel_rfl)) ed_int).eq (by push_cast; rfl)) (by omega)) (by rw [List.length_range', sizeLine_eq]; omega)
      ⟨by kernel_rfl, by decide +kernel, by kernel_rfl, by decide +kernel, by kernel_rfl⟩ (fun env' v' a s₃ I k3 b r3 ha => tl_nil) (fun env' v' a s₃ I k3 b r3 ha _ => ?_) s₆ _ _ (hk_refl _) (fun D ys s'' k'' hD hl hr => hq _ s'' k'' ⟨D, ys, rfl, hD, hl, fun h => by have := hr h; rw [filter_true] at this; exact this⟩)
    have Gi := I.gl G
    refine ed_catw (x := x.drop a) (y := e) ((ed_slices (ed_name Gi.kind (I.bd (bF6.hk k3) kF cF) (r1.keep (hk2 X₆.base k3)) (by kernel_rfl)) (.some (ed_name Gi.kind b r3 (by kernel_rfl))) .none (by rw [sizeLine_eq]; omega)).eq (by rw [sl_from])) (ed_name Gi.kind (I.bd (bE6.hk k3) kE cE) (r2.keep (hk2 X₆.base k3)) (by kernel_rfl)) (by simp; omega)
  rintro u s₇ s₈ k₇ ⟨T, tv, rfl, hTf, hT₇, hrT⟩ X₈ st8
  dsimp only
  have hTR : T ≠ R := by rintro rfl; obtain ⟨o, n, ho, _⟩ := hl₆; rw [hTf] at ho; cases ho
  have K7 := kp_heap k₇
  have bF8 := st8.old _ _ ne_names (bF6.hk K7)
  have bE8 := st8.old _ _ ne_names (bE6.hk K7)
  have bS8 := st8.old _ _ ne_names (bS6.hk K7)
  have bR8 := st8.old _ _ ne_names (st6.new.hk K7)
  have hl₈ := plain_ef (plain_kp hl₆ K7) st8.ef (by simp)
  have hT₈ := isList_ef hT₇ st8.ef (by simp)
  refine wpAny_execs_cons ?_
  -- for place in range(size)
  refine for_rule true [R] (fun i s' => Fm s (callEnvC fd9 L 95) s' ∧ Bd (callEnvC fd9 L 95) s'.heap (Str.ofString "face") v1 ∧ Bd (callEnvC fd9 L 95) s'.heap (Str.ofString "size") (.int (x.length : Int) tn) ∧ Bd (callEnvC fd9 L 95) s'.heap (Str.ofString "runs") (.ref R) ∧ Bd (callEnvC fd9 L 95) s'.heap (Str.ofString "tails") (.ref T) ∧ s'.heap.IsList T tv ∧
      ∃ vs, PlainL s'.heap R vs ∧ Rvs s'.heap vs.toList ((((List.range x.length).take i).flatMap fun place => ((stops x e place).take 1).flatMap (foundAt x place)).map tupD) ∧ vs.size ≤ i)
    (itr_range1 (b := x.length) hh (gRan X₈.base) (eInt bS8 (by kernel_rfl)) (by omega)) (.inr ⟨rfl, fun b hb => by simp at hb; subst hb; obtain ⟨o, n, ho, _⟩ := hl₈; exact ⟨o, ho⟩⟩) ?_ ?_ ?_ ?_
  · intro s' k'
    have K := kp_heap k'
    exact ⟨X₈.kp k', bF8.hk K, bS8.hk K, bR8.hk K, st8.new.hk K, hT₈.at fun o e => K _ o e, #[], plain_kp hl₈ K, by simpa using rvs_nil _, by simp⟩
  · rintro i s₁ s₂ hi ef ⟨X₁, b1, b2, b3, b4, hlT, vs, hl, hr, hsz⟩ nx hold
    exact ⟨X₁.nx nx fun b o e => hold b o (X₈.base b o e) (X₁.base b o e), b1.nx nx, b2.nx nx, b3.nx nx, b4.nx nx, isList_nx hlT nx, vs, plain_nx hl nx, rvs_tk (tk_nx nx) hr, hsz⟩
  · rintro place d v' s₉ E' hd ef rv ⟨X₉, b1, b2, b3, b4, hlT, vs, hl, hr, hsz⟩
    have hpl : place < x.length := by
      rcases Nat.lt_or_ge place x.length with h | h
      · exact h
      · rw [List.getElem?_eq_none (by rw [rng_len]; omega)] at hd; cases hd
    rw [rng_get (by omega), Nat.zero_add] at hd
    cases hd
    obtain ⟨tp, rfl⟩ := rv.int
    refine wpAny_assign_Name (st_name G.kind X₉ (.inr ⟨kPl, by rw [cPl]; rfl⟩) fun s₁₀ X₁₀ st10 _ => ?_)
    have c1 := st10.old _ _ ne_names b1
    have c2 := st10.old _ _ ne_names b2
    have c3 := st10.old _ _ ne_names b3
    have c4 := st10.old _ _ ne_names b4
    have hT10 := isList_ef hlT st10.ef (by simp)
    have hl10 := plain_ef hl st10.ef (by simp)
    have hr10 := rvs_tk (tk_ef st10.ef) hr
    generalize hpre : (((List.range x.length).take place).flatMap fun place => ((stops x e place).take 1).flatMap (foundAt x place)) = pre at hr10
    refine wpAny_execs_cons ?_
    have K8 : HK s s₁₀ := X₁₀.base
    have hstl : (stops x e place).length ≤ x.length := by
      unfold stops
      refine Nat.le_trans (List.length_filter_le _ _) ?_
      rw [List.length_range']; omega
    refine for_rule true [R] (fun j s' => Fm s (callEnvC fd9 L 95) s' ∧ Bd (callEnvC fd9 L 95) s'.heap (Str.ofString "face") v1 ∧ Bd (callEnvC fd9 L 95) s'.heap (Str.ofString "size") (.int (x.length : Int) tn) ∧ Bd (callEnvC fd9 L 95) s'.heap (Str.ofString "runs") (.ref R) ∧ Bd (callEnvC fd9 L 95) s'.heap (Str.ofString "tails") (.ref T) ∧ Bd (callEnvC fd9 L 95) s'.heap (Str.ofString "place") (.int (place : Int) tp) ∧ s'.heap.IsList T tv ∧
        ∃ vs, PlainL s'.heap R vs ∧ Rvs s'.heap vs.toList ((pre ++ (((stops x e place).take 1).take j).flatMap (foundAt x place)).map tupD) ∧ vs.size ≤ place + j)
      (itr_cut (b := 1) (ds := (stops x e place).map iD) hh (ed_comp (g := iD) (as := List.range' (place + 1) (x.length - place)) (cl := [(Str.ofString "tails", L + 3), (Str.ofString "place", L + 4)]) (fun k => decide (tail' x e k < tail' x e place)) iD iD_inj (fun _ => rfl)
        (Itr.eq (itr_range2 (a := place + 1) (b := x.length + 1) hh (gRan K8) ((ed_add (eInt st10.new (by kernel_rfl)) ed_int).eq (by push_cast; rfl)) ((ed_add (eInt c2 (by kernel_rfl)) ed_int).eq (by push_cast; rfl)) (by omega) (by omega)) (by unfold rng; rw [Nat.add_sub_add_right])) (by rw [List.length_range', sizeLine_eq]; omega)
        ⟨by kernel_rfl, by decide +kernel, by kernel_rfl, by decide +kernel, by kernel_rfl⟩ ?_ ?_) ed_int (by rw [List.length_map, sizeLine_eq]; omega) (flat_ints _)) (.inr ⟨rfl, fun b hb => by simp at hb; subst hb; obtain ⟨o, n, ho, _⟩ := hl10; exact ⟨o, ho⟩⟩) ?_ ?_ ?_ ?_
    · intro env' v' a s₃ I k3 b r3 ha
      have ha' : a < x.length + 1 := by simp at ha; omega
      have Gi := I.gl G
      have nT : ∀ {pos : Pos}, Ed w A' env' s₃ (.Name (Str.ofString "tails") pos) (.list ((List.range' 0 (x.length + 1)).map fun k => St' (tail' x e k))) := ed_name Gi.kind (I.bd (c4.hk k3) kTl cTl) (rv_list (hT10.at fun o e => k3 _ o e) (hrT _)) (by kernel_rfl)
      have tl : ∀ z, z < x.length + 1 → ((List.range' 0 (x.length + 1)).map fun k => St' (tail' x e k))[z]? = some (St' (tail' x e z)) := by
        intro z hz
        rw [List.getElem?_map, List.getElem?_range' hz]; simp
      refine tl_one (ts_cmp (ed_item nT (ed_name Gi.kind b r3 (by kernel_rfl)) (by omega) (by omega) (by rw [Int.toNat_natCast]; exact tl a ha')) (ed_item nT (ed_name Gi.kind (I.bd (st10.new.hk k3) kPl cPl) (rv_int _ _ _) (by kernel_rfl)) (by omega) (by omega) (by rw [Int.toNat_natCast]; exact tl place (by omega))) c_ltw)
    · intro env' v' a s₃ I k3 b r3 ha _
      exact ed_name (I.gl G).kind b r3 (by kernel_rfl)
    · intro s' k'
      have K := kp_heap k'
      exact ⟨X₁₀.kp k', c1.hk K, c2.hk K, c3.hk K, c4.hk K, st10.new.hk K, hT10.at fun o e => K _ o e, vs, plain_kp hl10 K, by simpa using rvs_tk (tk_kp K) hr10, by omega⟩
    · rintro j s₁ s₂ hj ef' ⟨X₁, b1, b2, b3, b4, b5, hlT, rs, hlR, hrR, hz⟩ nx hold
      exact ⟨X₁.nx nx fun b o e => hold b o (X₁₀.base b o e) (X₁.base b o e), b1.nx nx, b2.nx nx, b3.nx nx, b4.nx nx, b5.nx nx, isList_nx hlT nx, rs, plain_nx hlR nx, rvs_tk (tk_nx nx) hrR, hz⟩
    · rintro j d v' s₁₁ E11 hd ef11 rv ⟨X₁₁, d1, d2, d3, d4, d5, hlT, rs, hlR, hrR, hz⟩
      rw [← List.map_take, List.getElem?_map] at hd
      cases hst : ((stops x e place).take 1)[j]? with
      | none => rw [hst] at hd; cases hd
      | some stop =>
      rw [hst] at hd
      cases hd
      obtain ⟨tz, rfl⟩ := Rv.int rv
      have hmem : stop ∈ (stops x e place).take 1 := List.mem_of_getElem? hst
      have hj1 : j < 1 := by
        rcases Nat.lt_or_ge j 1 with h | h
        · exact h
        · rw [List.getElem?_eq_none (Nat.le_trans (by rw [List.length_take]; omega) h)] at hst; cases hst
      obtain ⟨hps, hsn, _, _⟩ := stops_first.mp hmem
      refine wpAny_assign_Name (st_name G.kind X₁₁ (.inl kStop) fun s₁₂ X₁₂ st12 _ => ?_)
      have f1 := st12.old _ _ ne_names d1
      have f2 := st12.old _ _ ne_names d2
      have f3 := st12.old _ _ ne_names d3
      have f4 := st12.old _ _ ne_names d4
      have f5 := st12.old _ _ ne_names d5
      -- low, high, step = place, stop, stop - place
      refine wpAny_execs_cons (as_swap3 (n1 := Str.ofString "low") (n2 := Str.ofString "high") (n3 := Str.ofString "step") (da := iD place) (db := iD stop) (dc := iD (stop - place)) hh G.kind X₁₂ (eInt f5 (by kernel_rfl)) (eInt st12.new (by kernel_rfl)) ((ed_sub (eInt st12.new (by kernel_rfl)) (eInt f5 (by kernel_rfl))).eq (by congr 1; omega)) (.inl kLow) (.inl kHigh) (.inl kStep) ?_ (by kernel_rfl))
      intro u v t s₁₃ s₁₄ s₁₅ s₁₆ k₁₃ ru rv' rt st14 st15 X₁₆ st16
      obtain ⟨tl, rfl⟩ := Rv.int ru
      obtain ⟨th, rfl⟩ := Rv.int rv'
      obtain ⟨tt, rfl⟩ := Rv.int rt
      dsimp only
      have K13 := kp_heap k₁₃
      have g1 := st16.old _ _ ne_names (st15.old _ _ ne_names (st14.old _ _ ne_names (f1.hk K13)))
      have g2 := st16.old _ _ ne_names (st15.old _ _ ne_names (st14.old _ _ ne_names (f2.hk K13)))
      have g3 := st16.old _ _ ne_names (st15.old _ _ ne_names (st14.old _ _ ne_names (f3.hk K13)))
      have g4 := st16.old _ _ ne_names (st15.old _ _ ne_names (st14.old _ _ ne_names (f4.hk K13)))
      have g5 := st16.old _ _ ne_names (st15.old _ _ ne_names (st14.old _ _ ne_names (f5.hk K13)))
      have gS := st16.old _ _ ne_names (st15.old _ _ ne_names st14.new)
      have gH := st16.old _ _ ne_names st15.new
      have gL := st16.new
      have efA : Ef [] s₁₁ s₁₆ := (((st12.ef.trans (Ef.of k₁₃)).trans st14.ef).trans st15.ef).trans st16.ef
      -- while low > 0 and face[low - 1] == face[low - 1 + step]
      refine wpAny_execs_cons (while_rule (fun n s' => ∃ t', Fm s (callEnvC fd9 L 95) s' ∧ Bd (callEnvC fd9 L 95) s'.heap (Str.ofString "face") v1 ∧ Bd (callEnvC fd9 L 95) s'.heap (Str.ofString "size") (.int (x.length : Int) tn) ∧ Bd (callEnvC fd9 L 95) s'.heap (Str.ofString "runs") (.ref R) ∧ Bd (callEnvC fd9 L 95) s'.heap (Str.ofString "tails") (.ref T) ∧ Bd (callEnvC fd9 L 95) s'.heap (Str.ofString "place") (.int (place : Int) tp) ∧
          Bd (callEnvC fd9 L 95) s'.heap (Str.ofString "step") (.int ((stop - place : Nat) : Int) tt) ∧ Bd (callEnvC fd9 L 95) s'.heap (Str.ofString "high") (.int (stop : Int) th) ∧ Bd (callEnvC fd9 L 95) s'.heap (Str.ofString "low") (.int (n : Int) t') ∧ n ≤ place ∧ lowOf x (stop - place) n = lowOf x (stop - place) place ∧ Ef [] s₁₁ s') place ⟨tl, X₁₆, g1, g2, g3, g4, g5, gS, gH, gL, Nat.le_refl _, rfl, efA⟩ ?_)
      rintro n s₁₇ E17 ⟨t', X₁₇, h1, h2, h3, h4, h5, h6, h7, h8, hnp, hlo, efB⟩
      refine ⟨decide (0 < n) && (at' x (n - 1) == at' x (n - 1 + (stop - place))), ts_and (x := decide (0 < n)) (y := (at' x (n - 1) == at' x (n - 1 + (stop - place)))) ((ts_cmp (eInt h8 (by kernel_rfl)) ed_int c_gt).eq (by simp)) (fun h0 => ?_), fun hb s₁₈ k₁₈ => ?_, fun hb s₁₈ k₁₈ => ?_⟩
      · have h0' : 0 < n := by simpa using h0
        exact ts_cmp (ed_item_row (k := true) (n := n - 1) (nF X₁₇.base h1) ((ed_sub (eInt h8 (by kernel_rfl)) ed_int).eq (by congr 1; omega)) (by omega) (at_get (by omega)))
          (ed_item_row (k := true) (n := n - 1 + (stop - place)) (nF X₁₇.base h1) ((ed_add (ed_sub (eInt h8 (by kernel_rfl)) ed_int) (eInt h6 (by kernel_rfl))).eq (by congr 1; omega)) (by omega) (at_get (by omega))) c_eq_el
      · have hb' : 0 < n ∧ at' x (n - 1) = at' x (n - 1 + (stop - place)) := by simpa using hb
        have K18 := kp_heap k₁₈
        refine wpAny_execs_cons (as_name G.kind (X₁₇.kp k₁₈) (P := fun _ u => ∀ h, Rv h u (iD (n - 1))) (Ed.all ((ed_sub (eInt (h8.hk K18) (by kernel_rfl)) ed_int).eq (by congr 1; omega)) rfl) (.inl kLow) ?_)
        intro u s₁₉ s₂₀ k₁₉ hu X₂₀ st20
        obtain ⟨tu, rfl⟩ := (hu s₂₀.heap).int
        have K19 := hk K18 k₁₉
        refine wpAny_execs_nil ⟨n - 1, by omega, tu, X₂₀, st20.old _ _ ne_names (h1.hk K19), st20.old _ _ ne_names (h2.hk K19), st20.old _ _ ne_names (h3.hk K19), st20.old _ _ ne_names (h4.hk K19), st20.old _ _ ne_names (h5.hk K19), st20.old _ _ ne_names (h6.hk K19), st20.old _ _ ne_names (h7.hk K19), st20.new, by omega, ?_, (efB.trans (Ef.of (kp_trans k₁₈ k₁₉))).trans st20.ef⟩
        rw [← hlo]
        obtain ⟨m, rfl⟩ : ∃ m, n = m + 1 := ⟨n - 1, by omega⟩
        show lowOf x (stop - place) m = _
        have hb2 : at' x m = at' x (m + (stop - place)) := hb'.2
        rw [lowOf, if_pos hb2]
      · have hstay : lowOf x (stop - place) n = n := lowOf_stay (not_both hb)
        have hlow : n = lowOf x (stop - place) place := by rw [← hlo, hstay]
        have K18 := kp_heap k₁₈
        refine wpAny_execs_nil ?_
        dsimp only
        -- while high < size and face[high] == face[high - step]
        refine wpAny_execs_cons (while_rule (fun m s' => ∃ hi t'', m = x.length - hi ∧ Fm s (callEnvC fd9 L 95) s' ∧ Bd (callEnvC fd9 L 95) s'.heap (Str.ofString "face") v1 ∧ Bd (callEnvC fd9 L 95) s'.heap (Str.ofString "size") (.int (x.length : Int) tn) ∧ Bd (callEnvC fd9 L 95) s'.heap (Str.ofString "runs") (.ref R) ∧ Bd (callEnvC fd9 L 95) s'.heap (Str.ofString "tails") (.ref T) ∧ Bd (callEnvC fd9 L 95) s'.heap (Str.ofString "place") (.int (place : Int) tp) ∧
            Bd (callEnvC fd9 L 95) s'.heap (Str.ofString "step") (.int ((stop - place : Nat) : Int) tt) ∧ Bd (callEnvC fd9 L 95) s'.heap (Str.ofString "low") (.int (n : Int) t') ∧ Bd (callEnvC fd9 L 95) s'.heap (Str.ofString "high") (.int (hi : Int) t'') ∧ stop ≤ hi ∧ hi ≤ x.length ∧ highOf x (stop - place) hi = highOf x (stop - place) stop ∧ Ef [] s₁₁ s') (x.length - stop)
          ⟨stop, th, rfl, X₁₇.kp k₁₈, h1.hk K18, h2.hk K18, h3.hk K18, h4.hk K18, h5.hk K18, h6.hk K18, h8.hk K18, h7.hk K18, Nat.le_refl _, hsn, rfl, efB.trans (Ef.of k₁₈)⟩ ?_)
        rintro m s₁₉ E19 ⟨hi, t'', rfl, X₁₉, i1, i2, i3, i4, i5, i6, i7, i8, hsh, hhn, hhi, efC⟩
        refine ⟨decide (hi < x.length) && (at' x hi == at' x (hi - (stop - place))), ts_and (x := decide (hi < x.length)) (y := (at' x hi == at' x (hi - (stop - place)))) ((ts_cmp (eInt i8 (by kernel_rfl)) (eInt i2 (by kernel_rfl)) c_lt).eq (by simp)) (fun h0 => ?_), fun hb s₂₀ k₂₀ => ?_, fun hb s₂₀ k₂₀ => ?_⟩
        · have h0' : hi < x.length := by simpa using h0
          exact ts_cmp (ed_item_row (k := true) (n := hi) (nF X₁₉.base i1) (eInt i8 (by kernel_rfl)) (by omega) (at_get (by omega)))
            (ed_item_row (k := true) (n := hi - (stop - place)) (nF X₁₉.base i1) ((ed_sub (eInt i8 (by kernel_rfl)) (eInt i6 (by kernel_rfl))).eq (by congr 1; omega)) (by omega) (at_get (by omega))) c_eq_el
        · have hb' : hi < x.length ∧ at' x hi = at' x (hi - (stop - place)) := by simpa using hb
          have K20 := kp_heap k₂₀
          refine wpAny_execs_cons (as_name G.kind (X₁₉.kp k₂₀) (P := fun _ u => ∀ h, Rv h u (iD (hi + 1))) (Ed.all ((ed_add (eInt (i8.hk K20) (by kernel_rfl)) ed_int).eq (by push_cast; rfl)) rfl) (.inl kHigh) ?_)
          intro u s₂₁ s₂₂ k₂₁ hu X₂₂ st22
          obtain ⟨tu, rfl⟩ := (hu s₂₂.heap).int
          have K21 := hk K20 k₂₁
          refine wpAny_execs_nil ⟨x.length - (hi + 1), by omega, hi + 1, tu, rfl, X₂₂, st22.old _ _ ne_names (i1.hk K21), st22.old _ _ ne_names (i2.hk K21), st22.old _ _ ne_names (i3.hk K21), st22.old _ _ ne_names (i4.hk K21), st22.old _ _ ne_names (i5.hk K21), st22.old _ _ ne_names (i6.hk K21), st22.old _ _ ne_names (i7.hk K21), st22.new, by omega, by omega, ?_, (efC.trans (Ef.of (kp_trans k₂₀ k₂₁))).trans st22.ef⟩
          rw [← hhi, highOf_step hb'.1 hb'.2]
        · have hstay2 : highOf x (stop - place) hi = hi := highOf_stay (not_both hb)
          have hhigh : hi = highOf x (stop - place) stop := by rw [← hhi, hstay2]
          have K20 := kp_heap k₂₀
          refine wpAny_execs_nil ?_
          dsimp only
          have hlR20 := plain_ef hlR (efC.trans (Ef.of k₂₀)) (by simp)
          have hrR20 := rvs_tk (tk_ef (efC.trans (Ef.of k₂₀))) hrR
          have hT20 := isList_ef hlT (efC.trans (Ef.of k₂₀)) (by simp)
          have hfa : foundAt x place stop = if 2 * (stop - place) ≤ hi - n then [(n, hi, stop - place)] else [] := by unfold foundAt; rw [← hlow, ← hhigh]
          have htake : ((stops x e place).take 1).take (j + 1) = ((stops x e place).take 1).take j ++ [stop] := by rw [List.take_add_one, hst]; rfl
          have hle : n ≤ hi := by omega
          refine wpAny_execs_cons (if_rule (b := decide (2 * (stop - place) ≤ hi - n)) ((ts_cmp (da := iD (hi - n)) (db := iD (2 * (stop - place))) ((ed_sub (eInt (i8.hk K20) (by kernel_rfl)) (eInt (i7.hk K20) (by kernel_rfl))).eq (by congr 1; omega)) ((ed_mul ed_int (eInt (i6.hk K20) (by kernel_rfl)) (by decide) (by omega)).eq (by congr 1)) c_ge).eq (by rw [Bool.eq_iff_iff]; simp only [decide_eq_true_eq]; omega)) (fun ht s₂₁ k₂₁ => ?_) (fun ht s₂₁ k₂₁ => ?_))
          · have K21 := hk K20 k₂₁
            refine wpAny_execs_cons (st_append (d := tupD (n, hi, stop - place)) (ev_name G.kind (i3.hk K21) (by kernel_rfl)) (ed_tuple3 (eInt (i7.hk K21) (by kernel_rfl)) (eInt (i8.hk K21) (by kernel_rfl)) (eInt (i6.hk K21) (by kernel_rfl))) (plain_kp hlR20 (kp_heap k₂₁)) (by rw [sizeLine_eq]; omega) ?_ (hi := by kernel_rfl))
            intro v'' s₂₂ s₂₃ k₂₂ rv'' mu hl23
            dsimp only
            have kk := kp_trans k₂₁ k₂₂
            have K22 := hk K21 k₂₂
            have hlR22 := (plain_kp hlR20 (kp_heap kk)).isList
            refine wpAny_execs_nil (wpAny_execs_nil ⟨((efC.wide.trans (Ef.of (kp_trans k₂₀ kk)))).trans mu.ef, (X₁₉.kp (kp_trans k₂₀ kk)).mu mu hlR22 hRf, (i1.hk K22).mu mu hlR22, (i2.hk K22).mu mu hlR22, (i3.hk K22).mu mu hlR22, (i4.hk K22).mu mu hlR22, (i5.hk K22).mu mu hlR22, ?_, rs.push v'', hl23, ?_, ?_⟩)
            · exact hT20.at fun o e => mu.keep _ o hTR (kp_heap kk _ o e)
            · rw [htake, List.flatMap_append, List.flatMap_singleton, hfa, if_pos (by simpa using ht), ← List.append_assoc, List.map_append, Array.toList_push]
              exact (rvs_tk ((tk_kp (kp_heap kk)).trans (tk_mu mu hlR22)) hrR20).app (rvs_cons (rv_tk rv'' (tk_mu mu hlR22)) (rvs_nil _))
            · rw [Array.size_push]; omega
          · have K21 := hk K20 k₂₁
            refine wpAny_execs_nil (wpAny_execs_nil ⟨efC.wide.trans (Ef.of (kp_trans k₂₀ k₂₁)), X₁₉.kp (kp_trans k₂₀ k₂₁), i1.hk K21, i2.hk K21, i3.hk K21, i4.hk K21, i5.hk K21, hT20.at fun o e => kp_heap k₂₁ _ o e, rs, plain_kp hlR20 (kp_heap k₂₁), ?_, by omega⟩)
            rw [htake, List.flatMap_append, List.flatMap_singleton, hfa, if_neg (by simpa using ht), List.append_nil]
            exact rvs_tk (tk_kp (kp_heap k₂₁)) hrR20
    · rintro s' ef' ⟨X', d1, d2, d3, d4, d5, hlT, rs, hlR, hrR, hz⟩
      refine wpAny_execs_nil ⟨st10.ef.wide.trans ef', X', d1, d2, d3, d4, hlT, rs, hlR, ?_, ?_⟩
      · rw [← List.map_take, List.length_map, List.take_of_length_le (Nat.le_refl _)] at hrR
        have : (List.range x.length).take (place + 1) = (List.range x.length).take place ++ [place] := by
          rw [List.take_add_one]; simp [hpl]
        rw [this, List.flatMap_append, hpre, List.flatMap_singleton]
        exact hrR
      · have : (((stops x e place).map iD).take 1).length ≤ 1 := by rw [List.length_take]; omega
        omega
  · rintro s' ef ⟨X', b1, b2, b3, b4, hlT, vs, hl, hr, hsz⟩
    dsimp only
    refine wpAny_execs_cons (wpAny_Return_some (ev_name G.kind b3 (by kernel_rfl) s' _ _ (hk_refl _) fun u s'' k'' e => ?_))
    subst e
    refine ⟨_, rfl, X'.kp k'', ?_⟩
    rw [rng_len, List.take_of_length_le (by simp)] at hr
    exact rv_list (plain_kp hl (kp_heap k'')).isList (rvs_tk (tk_kp (kp_heap k'')) hr)
end
end
end Mine
end
noncomputable section
open PySem PySem.W PyProof.Rows PySem.Calls
set_option Elab.async false
set_option maxRecDepth 100000
set_option linter.unusedVariables false
namespace Mine
noncomputable section
/-! the set -/
def b1es (P : Params) : List (Int × Value) := match (o29_3 P).data with | .set es _ _ => es.toList | _ => []
def b1S (P : Params) (k : Int) : Bool := (b1es P).any fun e => Value.isInt k e.2
def b1ok (e : Int × Value) : Bool := match e.2 with | .int k _ => (e.1 == hashInt k) && e.2.scannable && decide (k ≤ 65279) | _ => false
theorem b1_all (P : Params) : (b1es P).all b1ok = true := by kernel_rfl
theorem b1_set (w : World) : (H_11 w.params).SetOf (intKind pw w) 29 (b1S w.params) 27 := by
  refine ⟨o29_3 w.params, (b1es w.params).toArray, _, _, by kernel_rfl, ⟨by kernel_rfl, by kernel_rfl, by kernel_rfl⟩, rfl, fun e he => ?_, fun k => ?_, Nat.lt_of_le_of_lt (Nat.le_of_eq (by kernel_rfl : (b1es w.params).toArray.size = 27)) (by decide), by kernel_rfl, by kernel_rfl⟩
  · have h := List.all_eq_true.mp (b1_all w.params) e (by simpa using he)
    unfold b1ok at h
    obtain ⟨h1, v⟩ := e
    cases v with
    | int k t =>
      simp only [Bool.and_eq_true, beq_iff_eq, decide_eq_true_eq] at h
      exact ⟨⟨k, by simp [intKind, Value.isInt], h.1.1⟩, h.1.2⟩
    | _ => simp at h
  · unfold b1S
    rw [List.any_eq_true]
    rfl
theorem b1_big {P : Params} {c : Int} (h : 65279 < c) : b1S P c = false := by
  rw [Bool.eq_false_iff]
  intro hc
  unfold b1S at hc
  obtain ⟨e, he, hi⟩ := List.any_eq_true.mp hc
  have ho := List.all_eq_true.mp (b1_all P) e he
  unfold b1ok at ho
  obtain ⟨h1, v⟩ := e
  cases v with
  | int k t =>
    simp only [Bool.and_eq_true, beq_iff_eq, decide_eq_true_eq] at ho
    have : k = c := beq_iff_eq.mp hi
    omega
  | _ => simp at ho

/-! the dict -/
def b3F (k : Int) : Option Value := (b3all.find? fun e => Value.isInt k e.key).map (·.val)
def b3ok (e : DictEntry) : Bool := match e.key with | .int k _ => e.hash == hashInt k | _ => false
theorem b3_keys : b3all.all b3ok = true := by kernel_rfl
theorem b3_map (w : World) : (H_11 w.params).MapOf (intKind pw w) 40 b3F := by
  refine ⟨dictO b3all, b3all.toArray, b3all.length, by kernel_rfl, ⟨rfl, rfl, rfl⟩, rfl, fun e he => ?_, fun k => ?_⟩
  · have h := List.all_eq_true.mp b3_keys e (by simpa using he)
    unfold b3ok at h
    obtain ⟨hs, key, val⟩ := e
    cases key with
    | int k t => exact ⟨k, by simp [intKind, Value.isInt], beq_iff_eq.mp h⟩
    | _ => simp at h
  · unfold findBy b3F
    simp [intKind]
/-- the letters of the fonts -/
def fontsL : List Nat := [119808, 119860, 119912, 120016, 120172, 120224, 120276, 120328, 120380, 120432]
def kOf (e : DictEntry) : Int := match e.key with | .int k _ => k | _ => -1
noncomputable def risesK : List DictEntry → Bool
  | [] => true
  | e :: r => (match r with | [] => true | f :: _ => decide (kOf e < kOf f)) && risesK r
theorem risesK_lt : ∀ (l : List DictEntry) (e : DictEntry), risesK (e :: l) = true → ∀ x ∈ l, kOf e < kOf x
  | [], _, _, _, hx => nomatch hx
  | f :: r, e, h, x, hx => by
    rw [risesK, Bool.and_eq_true] at h
    have h1 : kOf e < kOf f := of_decide_eq_true h.1
    rcases List.mem_cons.mp hx with rfl | hx
    · exact h1
    · exact Int.lt_trans h1 (risesK_lt r f h.2 x hx)
theorem isInt_kOf {e x : DictEntry} (h : b3ok x = true) : Value.isInt (kOf e) x.key = (kOf x == kOf e) := by
  unfold b3ok at h
  split at h
  · rename_i k t ek
    have e2 : kOf x = k := by unfold kOf; rw [ek]
    rw [ek, e2]
    rfl
  · cases h
theorem find_at : ∀ (es : List DictEntry) (i : Nat) (e : DictEntry), es.all b3ok = true → risesK es = true → es[i]? = some e → es.find? (fun x => Value.isInt (kOf e) x.key) = some e
  | [], _, _, _, _, h => by simp at h
  | a :: r, 0, e, ha, hr, h => by
    have h : a = e := by simpa using h
    subst h
    rw [List.all_cons, Bool.and_eq_true] at ha
    rw [List.find?_cons, isInt_kOf ha.1, beq_self_eq_true]
  | a :: r, i + 1, e, ha, hr, h => by
    have h : r[i]? = some e := by simpa using h
    rw [List.all_cons, Bool.and_eq_true] at ha
    have hlt := risesK_lt r a hr e (List.mem_of_getElem? h)
    have hne : (kOf a == kOf e) = false := beq_eq_false_iff_ne.mpr (Int.ne_of_lt hlt)
    rw [List.find?_cons, isInt_kOf ha.1, hne]
    have hr2 : risesK r = true := by
      cases r with
      | nil => rfl
      | cons f r => rw [risesK, Bool.and_eq_true] at hr; exact hr.2
    exact find_at r i e ha.2 hr2 h
theorem b3_risesK : risesK b3all = true := by kernel_rfl
/-- the letters of a font, one behind the other -/
noncomputable def chk (f : Nat) : Nat → Nat → List DictEntry → Bool
  | 0, _, _ => true
  | _ + 1, _, [] => false
  | n + 1, j, e :: r => (kOf e == ((f + j : Nat) : Int)) && (match e.val with | .str x _ => x.cps.toList == [97 + j] | _ => false) && chk f n (j + 1) r
theorem chk_at {f : Nat} : ∀ (n j : Nat) (es : List DictEntry), chk f n j es = true → ∀ i, i < n → ∃ e, es[i]? = some e ∧ kOf e = ((f + (j + i) : Nat) : Int) ∧ ∃ t, e.val = .str (tx [97 + (j + i)]) t
  | 0, _, _, _, _, hi => by omega
  | _ + 1, _, [], h, _, _ => by cases h
  | n + 1, j, e :: r, h, 0, _ => by
    rw [chk, Bool.and_eq_true, Bool.and_eq_true] at h
    refine ⟨e, rfl, beq_iff_eq.mp h.1.1, ?_⟩
    have h2 := h.1.2
    split at h2
    · rename_i x t ev
      refine ⟨t, ?_⟩
      rw [ev]
      obtain ⟨cps⟩ := x
      have e3 : cps.toList = [97 + j] := by simpa using h2
      show Value.str ⟨cps⟩ t = Value.str ⟨[97 + j].toArray⟩ t
      rw [← e3]
    · cases h2
  | n + 1, j, e :: r, h, i + 1, hi => by
    rw [chk, Bool.and_eq_true] at h
    obtain ⟨e', h1, h2, h3⟩ := chk_at n (j + 1) r h.2 i (by omega)
    have ej : j + 1 + i = j + (i + 1) := by omega
    rw [ej] at h2 h3
    exact ⟨e', by simpa using h1, h2, h3⟩
def starts : List (Nat × Nat) := [(119808, 202), (119860, 228), (119912, 254), (120016, 298), (120172, 364), (120224, 390), (120276, 416), (120328, 442), (120380, 468), (120432, 494)]
theorem b3_letters : (starts.all fun p => chk p.1 26 0 (b3all.drop p.2)) = true := by kernel_rfl
theorem b3_at {f j : Nat} (hf : f ∈ fontsL) (hj : j < 26) : ∃ t, b3F ((f + j : Nat) : Int) = some (.str (tx [97 + j]) t) := by
  have hf' : f ∈ starts.map (·.1) := hf
  obtain ⟨p, hp, rfl⟩ := List.mem_map.mp hf'
  obtain ⟨e, h1, h2, t, h3⟩ := chk_at 26 0 _ (List.all_eq_true.mp b3_letters p hp) j hj
  rw [Nat.zero_add] at h2 h3
  rw [List.getElem?_drop] at h1
  have h4 := find_at b3all _ e b3_keys b3_risesK h1
  refine ⟨t, ?_⟩
  unfold b3F
  rw [← h2, h4]
  exact congrArg some h3

theorem gm_ord (P : Params) : (H_11 P).nsMap mainGlobals (Str.ofString "ord") = none := by kernel_rfl
theorem gb_ord (P : Params) : (H_11 P).nsMap builtinsNs (Str.ofString "ord") = some (.builtin "ord") := by kernel_rfl
theorem g_b1set (P : Params) : (H_11 P).nsMap mainGlobals (Str.ofString "b1_set") = some (.ref 29) := by kernel_rfl
theorem g_b3ex (P : Params) : (H_11 P).nsMap mainGlobals (Str.ofString "b3_exceptions") = some (.ref 40) := by kernel_rfl
def fd4 : FuncData := { name := Str.ofString "in_table_b1", qualname := Str.ofString "in_table_b1", params := fnArgs 4, body := .stmts (fnBody 4), scope := fnScope 4, globals := 3, closure := [], defaults := Value.none, kwdefaults := Value.none, doc := Value.none, pyModule := Value.str (Str.ofString "cpy313.stringprep") 199, annotations := none, code := Value.ref 38, closureTuple := Value.none, builtins := 0 }
def fd6 : FuncData := { name := Str.ofString "map_table_b3", qualname := Str.ofString "map_table_b3", params := fnArgs 6, body := .stmts (fnBody 6), scope := fnScope 6, globals := 3, closure := [], defaults := Value.none, kwdefaults := Value.none, doc := Value.none, pyModule := Value.str (Str.ofString "cpy313.stringprep") 199, annotations := none, code := Value.ref 84, closureTuple := Value.none, builtins := 0 }
theorem setOf_keep {w : World} {h h' : Heap} {a : Addr} {S : Int → Bool} {n : Nat} (x : h.SetOf (intKind pw w) a S n) (k : ∀ b o, h.get? b = some o → h'.get? b = some o) : h'.SetOf (intKind pw w) a S n := by
  obtain ⟨o, es, ep, t, ho, r⟩ := x
  exact ⟨o, es, ep, t, k _ _ ho, r⟩
theorem mapOf_keep {w : World} {h h' : Heap} {a : Addr} {f : Int → Option Value} (x : h.MapOf (intKind pw w) a f) (k : ∀ b o, h.get? b = some o → h'.get? b = some o) : h'.MapOf (intKind pw w) a f := by
  obtain ⟨o, es, ep, ho, r⟩ := x
  exact ⟨o, es, ep, k _ _ ho, r⟩

section
variable {w : World} {A : Around} {s : Shared}
theorem b1_ok {k : Nat} {v : Value} {c : Nat} {Q : Value → Shared → Prop} {E : Value → Shared → Prop} (B : Base w s) (ok : Ok k A) (hk19 : k ≤ 19) (r : Rv s.heap v (St' [c]))
    (q : ∀ s', Keeps s s' → Q (.bool (b1S w.params c)) s') : wpAny (model pw w) A (call (.ref 39) [v]) Q E s := by
  refine enter (k := k) (o := o39_4 w.params) (fd := fd4) (body := fnBody 4) (binds := [(Str.ofString "code", v)]) B ok (by omega) (by kernel_rfl) (by rfl) (by kernel_rfl) rfl (by kernel_rfl) rfl
    (fun L x hx => by simp at hx; subst hx; exact .inl (by kernel_rfl)) (by simp) (P := fun u s' => u = .bool (b1S w.params c))
    (fun L s₁ E X hb => ?_) (fun u s' kk e => by subst e; exact q s' kk) (by kernel_rfl) (by kernel_rfl) (by kernel_rfl)
  have hbP := hb _ (List.mem_singleton.mpr rfl)
  have G : Gl (callEnvC fd4 L 39) := ⟨by kernel_rfl, by kernel_rfl, by kernel_rfl⟩
  have ok' := ok.deeper (callEnvC fd4 L 39)
  generalize A.deeper (callEnvC fd4 L 39) = A' at ok' ⊢
  with_unfolding_all refine wpAny_execs_cons ?_
  refine wpAny_Return_some ?_
  refine wpAny_Compare1 (ed_ord (ev_bl (B.hk X.base) G (by kernel_rfl) (gm_ord _) (gb_ord _) (by kernel_rfl)) (ed_name G.kind hbP (r.keep X.base) (by kernel_rfl)) rfl rfl s₁ _ _ (hk_refl _) fun u s₂ k₂ ru => ?_) rfl
  obtain ⟨t, rfl⟩ := Rv.int ru
  refine ev_gl (B.hk X.base) G (by kernel_rfl) (g_b1set _) (by kernel_rfl) s₂ _ _ (kp_heap k₂) fun u s₃ k₃ e => ?_
  subst e
  refine wpAny_inSet_of (knd := intKind pw w) (k := (c : Int)) (by simp [intKind, Value.isInt]) (by rfl) (setOf_keep (b1_set w) (B.hk (hk X.base (kp_trans k₂ k₃)))) ?_
  exact ⟨_, rfl, (X.kp (kp_trans k₂ k₃)).kp (kp_tok _), rfl⟩

theorem b3_ok {k : Nat} {v : Value} {c : Nat} {x : Str} {t : Tok} {Q : Value → Shared → Prop} {E : Value → Shared → Prop} (B : Base w s) (ok : Ok k A) (hk19 : k ≤ 19) (r : Rv s.heap v (St' [c])) (hc : b3F (c : Int) = some (.str x t))
    (q : ∀ s', Keeps s s' → Q (.str x t) s') : wpAny (model pw w) A (call (.ref 85) [v]) Q E s := by
  refine enter (k := k) (o := o85_6 w.params) (fd := fd6) (body := fnBody 6) (binds := [(Str.ofString "code", v)]) B ok (by omega) (by kernel_rfl) (by rfl) (by kernel_rfl) rfl (by kernel_rfl) rfl
    (fun L x hx => by simp at hx; subst hx; exact .inl (by kernel_rfl)) (by simp) (P := fun u s' => u = .str x t)
    (fun L s₁ E X hb => ?_) (fun u s' kk e => by subst e; exact q s' kk) (by kernel_rfl) (by kernel_rfl) (by kernel_rfl)
  have hbP := hb _ (List.mem_singleton.mpr rfl)
  have G : Gl (callEnvC fd6 L 85) := ⟨by kernel_rfl, by kernel_rfl, by kernel_rfl⟩
  have kR : (callEnvC fd6 L 85).kindOf (Str.ofString "r") = some .local := by kernel_rfl
  have ok' := ok.deeper (callEnvC fd6 L 85)
  generalize A.deeper (callEnvC fd6 L 85) = A' at ok' ⊢
  with_unfolding_all refine wpAny_execs_cons ?_
  refine as_gen (R := fun u s₂ => u = .str x t) G.kind X (fun Q' hq => ?_) (.inl kR) ?_
  · refine wpAny_Call_method1_late rfl rfl rfl (ev_gl (B.hk X.base) G (by kernel_rfl) (g_b3ex _) (by kernel_rfl) s₁ _ _ (hk_refl _) fun u s₂ k₂ e => ?_)
    subst e
    have hm : ∀ s', HK s₁ s' → s'.heap.MapOf (intKind pw w) 40 b3F := fun s' kk => mapOf_keep (b3_map w) (B.hk (hk2 X.base kk))
    refine ⟨"dict", "dict.get", PySem.F.plainAttrs_dict, PySem.F.slot_dict_get, PySem.F.type_dict_get, (hm s₂ (kp_heap k₂)).typeIs, (hm s₂ (kp_heap k₂)).noDict, wpAny_dict_get1 (knd := intKind pw w) (by decide) ?_⟩
    refine ed_ord (ev_bl (B.hk (hk X.base k₂)) G (by kernel_rfl) (gm_ord _) (gb_ord _) (by kernel_rfl)) (ed_name G.kind (hbP.hk (kp_heap k₂)) (r.keep (hk X.base k₂)) (by kernel_rfl)) rfl rfl s₂ _ _ (hk_refl _) fun u s₃ k₃ ru => ?_
    obtain ⟨tt, rfl⟩ := Rv.int ru
    refine ⟨(c : Int), b3F, by simp [intKind, Value.isInt], hm s₃ (kp_heap (kp_trans k₂ k₃)), ?_⟩
    rw [hc]
    exact hq _ _ (kp_trans k₂ (kp_trans k₃ (kp_tok _))) rfl
  · rintro u s₂ s₃ k₂ rfl X₃ st
    dsimp only
    refine wpAny_execs_cons (if_rule (b := true) (fun s' Q E kk qq => wpAny_isTrue_Compare1 (ev_name G.kind st.new (by kernel_rfl) s' _ _ kk fun u s₄ k₄ e => ?_) rfl) (fun _ s₄ k₄ => ?_) (fun h => by cases h))
    · subst e
      refine wpAny_Constant_none ?_
      exact isnot_str_none (wpAny_truthy_bool (qq _ k₄))
    · refine wpAny_execs_cons (wpAny_Return_some (ev_name G.kind (st.new.hk (kp_heap k₄)) (by kernel_rfl) s₄ _ _ (hk_refl _) fun u s₅ k₅ e => ?_))
      subst e
      exact ⟨_, rfl, X₃.kp (kp_trans k₄ k₅), rfl⟩
end
end
end Mine
end
noncomputable section
open PySem PySem.W PyProof.Rows PySem.Calls PySem.Builtin.Str
set_option Elab.async false
set_option maxRecDepth 100000
set_option linter.unusedVariables false
namespace Mine
noncomputable section
section
variable {w : World} {A : Around} {env : Env} {s s₀ : Shared}

/-! list(range(..)) -/
theorem items_rng {a b : Nat} {acc : Array Value} {h : Heap} (hi : ItemsOf (fun i v => ∃ t, v = .int ((a : Int) + (i : Nat) * 1) t) acc (b - a)) : Rvs h acc.toList (rng a b) := by
  obtain ⟨hs, hv⟩ := hi
  have gen : ∀ (vs : List Value) (a n : Nat), vs.length = n → (∀ (j : Nat) (v : Value), vs[j]? = some v → ∃ t, v = Value.int ((a : Int) + (j : Nat) * 1) t) → Rvs h vs ((List.range' a n).map fun i => PyData.int ((i : Nat) : Int)) := by
    intro vs
    induction vs with
    | nil => intro a n e _; simp at e; subst e; exact rvs_nil _
    | cons v vs ih =>
      intro a n e hv
      obtain ⟨m, rfl⟩ : ∃ m, n = m + 1 := ⟨n - 1, by simp at e; omega⟩
      rw [List.range'_succ, List.map_cons]
      refine rvs_cons ?_ (ih (a + 1) m (by simpa using e) fun j u hj => ?_)
      · obtain ⟨t, rfl⟩ := hv 0 v rfl
        have e0 : (a : Int) + ((0 : Nat) : Int) * 1 = (a : Int) := by omega
        rw [e0]; exact rv_int _ _ _
      · obtain ⟨t, rfl⟩ := hv (j + 1) u (by simpa using hj)
        refine ⟨t, ?_⟩
        congr 1
        push_cast; omega
  exact gen acc.toList a (b - a) (by rw [Array.length_toList]; exact hs) fun j v hj => hv j v (by simpa using hj)
theorem list_range {a b : Nat} (hh : A.handled = none) (ha : a < 2 ^ 62) (hb : b < 2 ^ 20) {r : Addr} {s₁ : Shared} {Q : Value → Shared → Prop} {E : Value → Shared → Prop} {t u v : Tok} (hr : IsRange s₁.heap r a b 1 t u v)
    (q : ∀ T vs s₂, Keeps s₁ s₂ → s₁.heap.get? T = none → s₂.heap.IsList T vs → (∀ h, Rvs h vs.toList (rng a b)) → Q (.ref T) s₂) : wpAny (model pw w) A (call (.type "list") [.ref r]) Q E s₁ := by
  refine call_list_range (n := b - a) hh hr (small_one (by omega) (by omega) (by omega) (by omega)) (by rw [rangeSize_one]; split <;> omega) (by omega) fun h' tk acc c hkk hl hi => ?_
  exact q _ acc _ ⟨h', tk, rfl, hkk⟩ (none_of_ge (Nat.le_refl _)) ⟨_, hl, rfl, _, rfl⟩ fun h => items_rng hi
/-- list(range(e)), new -/
theorem q_list_range1 {f g e : PySem.Expr} {p pos : Pos} {b : Nat} (hh : A.handled = none) (hf : Ev w A env s f (fun _ v => v = .type "list")) (hg : Ev w A env s g (fun _ v => v = .type "range")) (he : Ed w A env s e (iD b)) (hb : b < 2 ^ 20)
    (s' : Shared) (Q : Value → Shared → Prop) (E : Value → Shared → Prop) (k : HK s s') (q : ∀ T vs s₂, Keeps s' s₂ → s'.heap.get? T = none → s₂.heap.IsList T vs → (∀ h, Rvs h vs.toList (rng 0 b)) → Q (.ref T) s₂)
    (hc : eval (.Call f [.Call g [e] [] p] [] pos) env = (do callWith pos (← eval f env) [] (backTo pos (starEach [.Call g [e] [] p] env)) (backToKw pos (keywordEach [] env))) := by rfl)
    (hs : starEach [.Call g [e] [] p] env = (false, eval (.Call g [e] [] p) env) :: starEach [] env := by rfl)
    (hc' : eval (.Call g [e] [] p) env = (do callWith p (← eval g env) [] (backTo p (starEach [e] env)) (backToKw p (keywordEach [] env))) := by rfl)
    (hs' : starEach [e] env = (false, eval e env) :: starEach [] env := by rfl) : wpAny (model pw w) A (eval (.Call f [.Call g [e] [] p] [] pos) env) Q E s' :=
  Call_ (hf s' _ _ k fun v s₁ k₁ hv => by
    subst hv
    refine PyProof.Rows.callWith_type1 (args_cons (Call_ (hg s₁ _ _ (hk k k₁) fun v s₂ k₂ hv => ?_) hc') hs) hs
    subst hv
    refine PyProof.Rows.callWith_type1 (args_cons (he s₂ _ _ (hk k (kp_trans k₁ k₂)) fun u s₃ k₃ ru => args_nil ?_) hs') hs'
    obtain ⟨t, rfl⟩ := ru.int
    refine call_range_1 (args_nil ?_)
    have k4 := kp_trans k₁ (kp_trans k₂ k₃)
    refine list_range (a := 0) (b := b) hh (by decide) hb (IsRange.new _ _ _ _ _ _ _) fun T vs s₅ k₅ hT hl hr => q T vs s₅ (kp_trans k4 (kp_trans (kp_push _ _) k₅)) (fresh_hk (kp_heap (kp_trans k4 (kp_push _ _))) hT) hl hr) hc
theorem ed_list_range2 {f g e₁ e₂ : PySem.Expr} {p pos : Pos} {a b : Nat} (hh : A.handled = none) (hf : Ev w A env s f (fun _ v => v = .type "list")) (hg : Ev w A env s g (fun _ v => v = .type "range")) (h1 : Ed w A env s e₁ (iD a)) (h2 : Ed w A env s e₂ (iD b)) (ha : a < 2 ^ 20) (hb : b < 2 ^ 20)
    (hc : eval (.Call f [.Call g [e₁, e₂] [] p] [] pos) env = (do callWith pos (← eval f env) [] (backTo pos (starEach [.Call g [e₁, e₂] [] p] env)) (backToKw pos (keywordEach [] env))) := by rfl)
    (hs : starEach [.Call g [e₁, e₂] [] p] env = (false, eval (.Call g [e₁, e₂] [] p) env) :: starEach [] env := by rfl)
    (hc' : eval (.Call g [e₁, e₂] [] p) env = (do callWith p (← eval g env) [] (backTo p (starEach [e₁, e₂] env)) (backToKw p (keywordEach [] env))) := by rfl)
    (hs' : starEach [e₁, e₂] env = (false, eval e₁ env) :: starEach [e₂] env := by rfl) (hs2 : starEach [e₂] env = (false, eval e₂ env) :: starEach [] env := by rfl) : Ed w A env s (.Call f [.Call g [e₁, e₂] [] p] [] pos) (.list (rng a b)) :=
  fun s' Q E k q => Call_ (hf s' _ _ k fun v s₁ k₁ hv => by
    subst hv
    refine PyProof.Rows.callWith_type1 (args_cons (Call_ (hg s₁ _ _ (hk k k₁) fun v s₂ k₂ hv => ?_) hc') hs) hs
    subst hv
    refine PyProof.Rows.callWith_type1 (args_cons (h1 s₂ _ _ (hk k (kp_trans k₁ k₂)) fun u s₃ k₃ ru => args_cons (h2 s₃ _ _ (hk k (kp_trans k₁ (kp_trans k₂ k₃))) fun u' s₄ k₄ ru' => args_nil ?_) hs2) hs') hs' (by rw [hs2]; rfl)
    obtain ⟨t, rfl⟩ := ru.int
    obtain ⟨t', rfl⟩ := ru'.int
    refine call_range_2 (args_nil ?_)
    have k4 := kp_trans k₁ (kp_trans k₂ (kp_trans k₃ k₄))
    refine list_range (a := a) (b := b) hh (by omega) hb (IsRange.new _ _ _ _ _ _ _) fun T vs s₅ k₅ hT hl hr => q _ s₅ (kp_trans k4 (kp_trans (kp_push _ _) k₅)) (rv_list hl (hr _))) hc

/-! sum -/
theorem ed_sum {f e : PySem.Expr} {pos : Pos} {ns : List Int} (hh : A.handled = none) (hf : Ev w A env s f (fun _ v => v = .builtin "sum")) (he : Ed w A env s e (.list (ns.map .int)))
    (hc : eval (.Call f [e] [] pos) env = (do callWith pos (← eval f env) [] (backTo pos (starEach [e] env)) (backToKw pos (keywordEach [] env))) := by rfl)
    (hs : starEach [e] env = (false, eval e env) :: starEach [] env := by rfl) : Ed w A env s (.Call f [e] [] pos) (.int ns.sum) :=
  ev_call1 hf he (fun u s' Q E ru q => by
    obtain ⟨a, vs, rfl, hl, r⟩ := ru.list
    have hi := ints_items r
    obtain ⟨xs, e⟩ := AllInts.items (vs := vs) (by have := hi.allInts; simpa using this)
    rw [e] at hl
    refine sum_intListG hh hl fun h' tk t' hk => ?_
    rw [preSum_eq, List.take_of_length_le (by simp)]
    have e2 := hi.numsOf
    rw [e, nums_intItems] at e2
    rw [e2]
    exact q _ _ ⟨h', tk, rfl, hk⟩ (rv_int _ _ _)) hc hs

/-! join -/
theorem strs_items {h : Heap} : ∀ {vs : List Value} {ws : List (List Nat)}, Rvs h vs (ws.map St') → StrsAre vs (ws.map tx)
  | [], [], _ => .nil
  | [], _ :: _, ⟨⟨_, q⟩, _⟩ => nomatch q
  | _ :: _, [], ⟨⟨_, q⟩, _⟩ => nomatch q
  | v :: vs, n :: ns, r => by obtain ⟨t, rfl⟩ := Rv.str r.uncons.1; exact .cons _ _ (strs_items r.uncons.2)
theorem join_flat (ws : List (List Nat)) : Txt.join (tx []) (ws.map tx) = tx ws.flatten := by
  show glued (tx []) (ws.map tx) = _
  unfold glued
  have gen : ∀ (l : List (List Nat)) (acc : Array Nat), (l.map tx).foldl (fun acc p => acc ++ (tx []).cps ++ p.cps) acc = acc ++ l.flatten.toArray := by
    intro l
    induction l with
    | nil => intro acc; simp
    | cons x l ih => intro acc; rw [List.map_cons, List.foldl_cons, ih]; simp
  cases ws with
  | nil => rfl
  | cons x l =>
    rw [List.map_cons, List.drop_one, List.tail_cons, gen]
    simp
theorem ed_join {e : PySem.Expr} {k : Nat} {p ap pos : Pos} {ws : List (List Nat)} (he : Ed w A env s e (.list (ws.map St'))) (hz : (ws.map List.length).sum + ws.length ≤ 1048576)
    (hb : attributeBase (.Constant (.str (tx [])) k p) "join" env (eval (.Constant (.str (tx [])) k p) env) = eval (.Constant (.str (tx [])) k p) env := by rfl) (hline : (ap.endLine == pos.line) = true := by rfl)
    (ht : backTo pos (starEach [e] env) = [(false, eval e env)] := by rfl) : Ed w A env s (.Call (.Attribute (.Constant (.str (tx [])) k p) "join" ap) [e] [] pos) (St' ws.flatten) :=
  fun s' Q E kk q => wpAny_Call_method1_late hb hline ht (ed_str s' _ _ kk fun u s₁ k₁ ru => by
    obtain ⟨t, rfl⟩ := Rv.str ru
    refine ⟨"str", "str.join", PySem.F.plainAttrs_str, PySem.F.slot_str_join, PySem.F.type_str_join, typeIs_str _ _ _, nofun, ?_⟩
    refine Calls.callWith_builtin rfl (Calls.evalArgs_plain (Calls.spliced_cons (he s₁ _ _ (hk kk k₁) fun v s₂ k₂ rv => Calls.spliced_nil ?_)))
    obtain ⟨l, vs, rfl, hl, rr⟩ := rv.list
    refine join_listW hl (strs_items rr) (by show (tx []).length ≤ 16; rw [tx_len]; simp) ?_ fun t' tk => ?_
    · rw [List.length_map, List.map_map]
      have : ((fun x => Str.length x) ∘ tx) = List.length := by funext x; exact tx_len x
      rw [this]; exact hz
    · rw [join_flat]
      exact q _ _ (kp_trans k₁ (kp_trans k₂ (kp_tok _))) (rv_str _ _ _))
end
end
end Mine
end
noncomputable section
open PySem PySem.W PyProof.Rows PySem.Calls PySem.Builtin.Str
set_option Elab.async false
set_option maxRecDepth 100000
set_option linter.unusedVariables false
namespace Mine
noncomputable section
section
variable {w : World} {A : Around} {env : Env} {s s₀ : Shared}
variable {elt iter : PySem.Expr} {x : Str} {px : Pos} {ifs : List PySem.Expr} {scope : Scope} {cl : List (Str × Addr)} {pos : Pos}

/-- a display that keeps nothing -/
theorem ed_none {fr : Bool} {ds : List PyData} (hit : Itr fr w A env s iter ds) (hz : ds.length ≤ sizeLine) (sc : Sc env scope x cl)
    (tests : ∀ env' v d s₃, Inner env scope cl env' → HK s s₃ → Bd env' s₃.heap x v → Rv s₃.heap v d → d ∈ ds → TL w A env' s₃ ifs false)
    (hs : ∀ x, foldedSetIterable iter env x = pure x := by intro _; rfl) : Ed w A env s (.ListComp elt [⟨.Name x px, iter, ifs, 0⟩] scope pos) (.list []) :=
  fun s' Q E k q => ev_core (Fin := fun s' D h => ∃ ys, h.IsList D ys ∧ Paired (fun (d : PyData) (y : Value) => True) (ds.filter fun _ => false) ys.toList) sc
    (core_flat (fun _ => false) (fun _ d y => True) hit hz sc (fun C v d s₃ k3 b r hd => tests _ v d s₃ ⟨C, rfl⟩ k3 b r hd) (fun C v d s' s₃ k' k3 b r hd hp => by cases hp)) s' Q E k (fun D s'' k'' _ ⟨ys, hl, hp⟩ => by
      refine q _ _ k'' (rv_list hl ?_)
      have e : ds.filter (fun _ => false) = [] := List.filter_eq_nil_iff.mpr fun _ _ => by simp
      rw [e] at hp
      generalize ys.toList = us at hp ⊢
      cases hp
      exact rvs_nil _) hs

theorem c_notin {p : Nat × Nat × Nat} {l : List (Nat × Nat × Nat)} (hu : A.units + 64 < cLine) : ∀ u v (s' : Shared) (Q : Value → Shared → Prop) (E : Value → Shared → Prop), Rv s'.heap u (tupD p) → Rv s'.heap v (.list (l.map tupD)) → (∀ s'', Keeps s' s'' → Q (.bool (!decide (p ∈ l))) s'') → wpAny (model pw w) A (compareOp .NotIn u v) Q E s' := by
  rintro u v s' Q E ⟨⟨_, ru⟩, _⟩ ⟨⟨_, rv⟩, _⟩ q
  have h1 : iqs (l.map tupD) = true := iqs_map _ (fun _ => rfl) _
  have h2 : iq (tupD p) = true := rfl
  refine PySem.SeqAt.notIn_list_reads rv ru (iqs_lay h1) (iq_lay h2) ?_ ?_
  · have h3 : PyData.depthAll (l.map tupD) ≤ 60 := depthAll_le (dep_map _ (fun a => by show (1 : Nat) ≤ 60; omega) _)
    have h4 : min (PyData.depthAll (l.map tupD)) (tupD p).depth ≤ PyData.depthAll (l.map tupD) := Nat.min_le_left _ _
    omega
  · have e : ((l.map tupD).any fun y => PyData.eqv y (tupD p)) = decide (p ∈ l) := by
      rw [Bool.eq_iff_iff, List.any_eq_true, decide_eq_true_eq]
      constructor
      · rintro ⟨y, hy, he⟩
        obtain ⟨a, ha, rfl⟩ := List.mem_map.mp hy
        rw [← tupD_inj _ _ ((iq_eqv rfl h2).mp he)]; exact ha
      · intro hd
        exact ⟨tupD p, List.mem_map.mpr ⟨p, hd, rfl⟩, (iq_eqv h2 h2).mpr rfl⟩
    rw [e]
    exact q _ (kp_refl _)

theorem ts_is_bool {a : PySem.Expr} {b c : Bool} {k : Nat} {p pos : Pos} (ha : Ev w A env s a (fun _ v => v = .bool b)) (hm : behindInMarks .Is (.Constant (.bool c) k p) = false := by rfl) : Ts w A env s (.Compare a [.Is] [.Constant (.bool c) k p] pos) (b == c) :=
  fun s' Q E kk q => wpAny_isTrue_Compare1 (ha s' _ _ kk fun u s₁ k₁ e => by
    subst e
    refine wpAny_Constant_bool ?_
    refine wpAny_is_plain (by cases b <;> cases c <;> rfl) ?_
    have : (Value.bool b == Value.bool c) = (b == c) := by cases b <;> cases c <;> rfl
    rw [this]
    exact wpAny_truthy_bool (q _ k₁)) hm

/-- over a list of triples that a name holds, taken apart -/
theorem for_triples (J : Nat → Shared → Prop) {n n1 n2 n3 : Str} {p p1 p2 p3 p4 pos : Pos} {kx : Nat} {v : Value} {l : List (Nat × Nat × Nat)} {body : List Stmt} {Q : Flow → Shared → Prop} {E : Value → Shared → Prop}
    (hh : A.handled = none) (hk : env.scope.kind = .function) (b : Bd env s.heap n v) (r : Rv s.heap v (.list (l.map tupD))) (hd : (n == ("__debug__" : Str)) = false)
    (hJ0 : ∀ s', Keeps s s' → J 0 s')
    (hJn : ∀ i s₁ s₂, Ef [] s s₁ → J i s₁ → Nx s₁ s₂ → (∀ b o, s.heap.get? b = some o → s₁.heap.get? b = some o → s₂.heap.get? b = some o) → J i s₂)
    (hJf : ∀ i s₁, J i s₁ → Fm s₀ env s₁)
    (hn1 : env.kindOf n1 = some .local ∨ (env.kindOf n1 = some .cell ∧ (env.cells.lookup n1).isSome = true)) (hn2 : env.kindOf n2 = some .local ∨ (env.kindOf n2 = some .cell ∧ (env.cells.lookup n2).isSome = true)) (hn3 : env.kindOf n3 = some .local ∨ (env.kindOf n3 = some .cell ∧ (env.cells.lookup n3).isSome = true))
    (turn : ∀ (i lo hi st : Nat) t1 t2 t3 s₁ s₂ s₃ s₄ s₅ (E : Value → Shared → Prop), l[i]? = some (lo, hi, st) → J i s₁ → Keeps s₁ s₂ → Sto env n1 (.int (lo : Int) t1) s₂ s₃ → Sto env n2 (.int (hi : Int) t2) s₃ s₄ → Sto env n3 (.int (st : Int) t3) s₄ s₅ → Fm s₀ env s₅ →
      wpAny (model pw w) A (execs body env) (fun f s₆ => match f with
        | .next => Ef [] s₅ s₆ ∧ J (i + 1) s₆
        | .cont => Ef [] s₅ s₆ ∧ J (i + 1) s₆
        | .brk => Q .next s₆
        | .ret u => Q (.ret u) s₆) E s₅)
    (done : ∀ s', J l.length s' → Q .next s') :
    wpAny (model pw w) A (exec (.For (.Tuple [.Name n1 p1, .Name n2 p2, .Name n3 p3] kx p4) (.Name n p) body [] pos) env) Q E s := by
  refine wpAny_For (ev_name hk b hd s _ _ (hk_refl _) fun v' s₁ k₁ e => ?_) (by intro _; rfl)
  subst e
  obtain ⟨a, vs, rfl, hl', rr⟩ := r.list
  have hl := hl'.at fun o e => kp_heap k₁ _ o e
  have hn : vs.size = l.length := by rw [← Array.length_toList, rr.length, List.length_map]
  have hne : a ≠ s₁.heap.objs.size := by obtain ⟨o, ho, _⟩ := hl; exact Nat.ne_of_lt (Heap.lt_size ho)
  have hf' : s.heap.get? s₁.heap.objs.size = none := fresh_hk (kp_heap k₁) (none_of_ge (Nat.le_refl _))
  have W := wk_list (w := w) hh _ a hne vs
  refine wpAny_pyIter_list hl ?_
  have k2 : Keeps s { s₁ with heap := s₁.heap.push { cls := .type "list_iterator", data := .fields #[.ref a, .int 0 0] } } := kp_trans k₁ ⟨_, _, rfl, fun _ _ e => Heap.get?_push_of_some _ e⟩
  refine codeAny_forLoop_any (fun k s₂ => ∃ i, k = vs.size - i ∧ i ≤ vs.size ∧ (s₂.heap.IsListIter s₁.heap.objs.size a i ∧ s₂.heap.IsList a vs) ∧ Ef [] s s₂ ∧ J i s₂) (fun k s₂ hI => ?_) vs.size
    ⟨0, by simp, Nat.zero_le _, ⟨⟨_, Heap.get?_push_size _ rfl, rfl, rfl⟩, hl.push _⟩, Ef.of k2, hJ0 _ k2⟩
  obtain ⟨i, rfl, hi, hst, hef, hJ⟩ := hI
  have nxof : ∀ h' tk, (∀ b o, b ∉ [s₁.heap.objs.size] → s₂.heap.get? b = some o → h'.get? b = some o) → Nx s₂ { s₂ with heap := h', toks := tk } ∧ Ef [] s { s₂ with heap := h', toks := tk } ∧
      (∀ b o, s.heap.get? b = some o → s₂.heap.get? b = some o → h'.get? b = some o) := by
    intro h' tk hkk
    refine ⟨⟨⟨_, _, rfl⟩, fun b o e hn => hkk b o (fun hb => ?_) e⟩, ⟨?_, fun b o e q n => hkk b o (fun hb => ?_) (hef.keep b o e q n)⟩, fun b o e e' => hkk b o (fun hb => ?_) e'⟩
    · obtain ⟨o', ho', fs, hfs⟩ := W.flds i _ hst b hb
      rw [e] at ho'; cases ho'
      exact hn fs hfs
    · obtain ⟨h, t, e⟩ := hef.same
      subst e
      exact ⟨_, _, rfl⟩
    · simp at hb; subst hb; rw [hf'] at e; cases e
    · simp at hb; subst hb; rw [hf'] at e; cases e
  rcases Nat.lt_or_ge i vs.size with hlt | hge
  · refine W.W.item i s₂ _ _ hlt hst fun v' h' tk hPv hst' hkk => ?_
    obtain ⟨nx, ef', kk⟩ := nxof h' tk hkk
    have hJ' := hJn i s₂ _ hef hJ nx kk
    have hli : i < l.length := by omega
    obtain ⟨u, hu, ru⟩ := rr.get (i := i) (d := tupD l[i]) (by rw [List.getElem?_map, List.getElem?_eq_getElem hli]; rfl)
    have : u = v' := by
      have h2 : vs.toList[i]? = some v' := by simpa using hPv
      rw [h2] at hu; exact (Option.some.inj hu).symm
    subst this
    have ru' := rv_tk ru (tk_ef ef')
    obtain ⟨T, oT, its, nT, rfl, hoT, hcT, hdT, rT⟩ := ru'.tuple
    refine wpAny_letOwnedTupleGo_listiter hst'.1 ?_
    have hits : ∃ t1 t2 t3, its = #[.int (l[i].1 : Int) t1, .int (l[i].2.1 : Int) t2, .int (l[i].2.2 : Int) t3] := by
      obtain ⟨its⟩ := its
      simp only at rT
      match its, rT with
      | [a, b, c], rT =>
        obtain ⟨t1, rfl⟩ := Rv.int rT.uncons.1
        obtain ⟨t2, rfl⟩ := Rv.int rT.uncons.2.uncons.1
        obtain ⟨t3, rfl⟩ := Rv.int rT.uncons.2.uncons.2.uncons.1
        exact ⟨t1, t2, t3, rfl⟩
      | [], rT => have := rT.length; simp at this
      | [_], rT => have := rT.length; simp at this
      | [_, _], rT => have := rT.length; simp at this
      | _ :: _ :: _ :: _ :: _, rT => have := rT.length; simp at this
    obtain ⟨t1, t2, t3, rfl⟩ := hits
    refine assign_Tuple_tuple hh ⟨oT, hoT, hcT, nT, hdT⟩ rfl rfl fun h3 he3 => ?_
    have k3 : Keeps { s₂ with heap := h', toks := tk } { s₂ with heap := h3, toks := tk } := ⟨h3, _, rfl, fun b o e => he3 b o (Nat.ne_of_lt (Heap.lt_size e)) e⟩
    have X3 := (hJf i _ hJ').kp k3
    show wpAny _ A (assignInOrder [assign (.Name n1 p1) env, assign (.Name n2 p2) env, assign (.Name n3 p3) env] [.int (l[i].1 : Int) t1, .int (l[i].2.1 : Int) t2, .int (l[i].2.2 : Int) t3]) _ _ _
    refine wpAny_bind (wpAny_holding (wpAny_assign_Name (st_name hk X3 hn1 fun s₄ X₄ st4 _ => ?_)))
    refine wpAny_bind (wpAny_holding (wpAny_assign_Name (st_name hk X₄ hn2 fun s₅ X₅ st5 _ => ?_)))
    refine wpAny_bind (wpAny_holding (wpAny_assign_Name (st_name hk X₅ hn3 fun s₆ X₆ st6 _ => wpAny_pure ?_)))
    refine wpAny_mono (turn i l[i].1 l[i].2.1 l[i].2.2 t1 t2 t3 _ _ s₄ s₅ s₆ _ (List.getElem?_eq_getElem hli) hJ' k3 st4 st5 st6 X₆) (fun f s₇ h₇ => ?_) fun _ _ e => e
    have back : (Ef [] s₆ s₇ ∧ J (i + 1) s₇) → ∃ m, m < vs.size - i ∧ ∃ i, m = vs.size - i ∧ i ≤ vs.size ∧ (s₇.heap.IsListIter s₁.heap.objs.size a i ∧ s₇.heap.IsList a vs) ∧ Ef [] s s₇ ∧ J i s₇ := by
      rintro ⟨e7, j7⟩
      have eff : Ef [] { s₂ with heap := h', toks := tk } s₇ := ((((Ef.of k3).trans st4.ef).trans st5.ef).trans st6.ef).trans e7
      refine ⟨vs.size - (i + 1), by omega, i + 1, rfl, hlt, W.W.frame _ _ _ hst' fun b hb o e => ?_, ef'.trans eff, j7⟩
      obtain ⟨o', ho', q⟩ := W.soft _ _ hst' b hb
      rw [e] at ho'; cases ho'
      exact eff.keep b o e q (by simp)
    cases f with
    | next => exact back h₇
    | cont => exact back h₇
    | brk => exact h₇
    | ret u => exact h₇
  · have hin : i = vs.size := by omega
    subst hin
    refine W.W.done s₂ _ _ hst fun h' tk hkk => ?_
    obtain ⟨nx, ef', kk⟩ := nxof h' tk hkk
    exact wpAny_execs_nil (done _ (hn ▸ hJn _ s₂ _ hef hJ nx kk))
end
end
end Mine
end
noncomputable section
open PySem PySem.W PyProof.Rows PySem.Calls PySem.Builtin.Str
set_option Elab.async false
set_option maxRecDepth 100000
set_option linter.unusedVariables false
namespace Mine
noncomputable section
/-- the names and what they read as -/
noncomputable def Vs (env : Env) (h : Heap) : List (Str × PyData) → Prop
  | [] => True
  | p :: r => (∃ v, Bd env h p.1 v ∧ Rv h v p.2) ∧ Vs env h r
theorem vs_kp {env : Env} {s s' : Shared} (k : HK s s') : ∀ {l : List (Str × PyData)}, Vs env s.heap l → Vs env s'.heap l
  | [], _ => trivial
  | _ :: _, ⟨⟨v, b, r⟩, t⟩ => ⟨⟨v, b.hk k, r.keep k⟩, vs_kp k t⟩
theorem vs_nx {env : Env} {s s' : Shared} (k : Nx s s') : ∀ {l : List (Str × PyData)}, Vs env s.heap l → Vs env s'.heap l
  | [], _ => trivial
  | _ :: _, ⟨⟨v, b, r⟩, t⟩ => ⟨⟨v, b.nx k, by
      obtain ⟨⟨as, q⟩, n⟩ := r
      exact ⟨⟨as, reads_seq (fun b o e ⟨vs, m, hd⟩ => k.keep b o e fun fs h => by rw [hd] at h; cases h) n q⟩, n⟩⟩, vs_nx k t⟩
where
  reads_seq {h h' : Heap} (hk : ∀ b o, h.get? b = some o → (∃ vs n, o.data = .seq vs n) → h'.get? b = some o) : ∀ {v : Value} {d : PyData} {as : List Addr}, nd d = true → Reads h v d as → Reads h' v d as
    | _, _, _, _, .none => .none
    | _, _, _, _, .bool b => .bool b
    | _, _, _, _, .int i t => .int i t
    | _, _, _, _, .str x t => .str x t
    | _, _, _, n, .list h1 h2 h3 h4 => .list (hk _ _ h1 ⟨_, _, h3⟩) h2 h3 (reads_seqs hk (by rw [nd] at n; exact n) h4)
    | _, _, _, n, .tuple h1 h2 h3 h4 => .tuple (hk _ _ h1 ⟨_, _, h3⟩) h2 h3 (reads_seqs hk (by rw [nd] at n; exact n) h4)
    | _, _, _, n, .dict h1 h2 h3 h4 h5 => by rw [nd] at n; exact absurd n (by decide)
  reads_seqs {h h' : Heap} (hk : ∀ b o, h.get? b = some o → (∃ vs n, o.data = .seq vs n) → h'.get? b = some o) : ∀ {vs : List Value} {ds : List PyData} {as : List Addr}, nds ds = true → ReadsAll h vs ds as → ReadsAll h' vs ds as
    | _, _, _, _, .nil => .nil
    | _, _, _, n, .cons h1 h2 => .cons (reads_seq hk (nds_cons.mp n).1 h1) (reads_seqs hk (nds_cons.mp n).2 h2)
theorem vs_sto {env : Env} {s s' : Shared} {n : Str} {v : Value} (st : Sto env n v s s') : ∀ {l : List (Str × PyData)}, Vs env s.heap l → (l.all fun p => !(p.1 == n)) = true → Vs env s'.heap l
  | [], _, _ => trivial
  | p :: _, ⟨⟨v, b, r⟩, t⟩, h => by
    rw [List.all_cons, Bool.and_eq_true_iff] at h
    exact ⟨⟨v, st.old _ _ (fun e => by rw [e] at h; simp at h) b, r.ef st.ef⟩, vs_sto st t h.2⟩
theorem vs_new {env : Env} {s s₁ s₂ : Shared} {n : Str} {v : Value} {d : PyData} {l : List (Str × PyData)} (V : Vs env s.heap l) (k : Keeps s s₁) (r : Rv s₁.heap v d) (st : Sto env n v s₁ s₂) (h : (l.all fun p => !(p.1 == n)) = true) : Vs env s₂.heap ((n, d) :: l) :=
  ⟨⟨v, st.new, r.ef st.ef⟩, vs_sto st (vs_kp (kp_heap k) V) h⟩
theorem ed_vs {w : World} {A : Around} {env : Env} {s : Shared} {n : Str} {d : PyData} {pos : Pos} (hk : env.scope.kind = .function) (V : ∃ v, Bd env s.heap n v ∧ Rv s.heap v d) (hd : (n == ("__debug__" : Str)) = false) : Ed w A env s (.Name n pos) d := by
  obtain ⟨v, b, r⟩ := V
  exact ed_name hk b r hd

/-! the plain side of law -/
def numN (ns : List Int) : List Int := (ns ++ [3, 30, 10, 0, 33, 4]).take 12
def codesL : List Nat := [173, 847, 6150] ++ List.range' 6155 3 ++ List.range' 8203 3 ++ [8288] ++ List.range' 65024 16 ++ [65279]
def aOf (x : Int) : Nat := (x.fmod 3).toNat
def bOf (x : Int) : Nat := ((x.fdiv 3).fmod 28).toNat
def oOf (t : Int) : Nat := (t.fmod 24).toNat
def gOf (t : Int) : Nat := ((t.fdiv 24).fmod 8).toNat
def fn (t : Int) (a : Nat) : Nat := fontsL.getD (2 + gOf t - a) 0 + oOf t + a
def gn (t : Int) (a : Nat) : Nat := 97 + oOf t + a
def cs (x : Int) : List Nat := (codesL.drop (bOf x)).take 1
def textW (t : Int) (l : List Int) : List Nat := l.flatMap fun x => fn t (aOf x) :: cs x
def meantW (t : Int) (l : List Int) : List Nat := l.map fun x => gn t (aOf x)
def unseenW (l : List Int) : List Nat := l.flatMap cs
theorem aOf_lt (x : Int) : aOf x < 3 ∧ ((aOf x : Nat) : Int) = x.fmod 3 := by
  have h1 : Int.fmod x 3 = x % 3 := Int.fmod_eq_emod_of_nonneg _ (by omega)
  unfold aOf; rw [h1]; omega
theorem bOf_lt (x : Int) : bOf x < 28 ∧ ((bOf x : Nat) : Int) = (x.fdiv 3).fmod 28 := by
  have h1 : Int.fmod (x.fdiv 3) 28 = (x.fdiv 3) % 28 := Int.fmod_eq_emod_of_nonneg _ (by omega)
  unfold bOf; rw [h1]; omega
theorem oOf_lt (x : Int) : oOf x < 24 ∧ ((oOf x : Nat) : Int) = x.fmod 24 := by
  have h1 : Int.fmod x 24 = x % 24 := Int.fmod_eq_emod_of_nonneg _ (by omega)
  unfold oOf; rw [h1]; omega
theorem gOf_lt (x : Int) : gOf x < 8 ∧ ((gOf x : Nat) : Int) = (x.fdiv 24).fmod 8 := by
  have h1 : Int.fmod (x.fdiv 24) 8 = (x.fdiv 24) % 8 := Int.fmod_eq_emod_of_nonneg _ (by omega)
  unfold gOf; rw [h1]; omega
theorem font_in {i : Nat} (h : i < 10) : fontsL[i]? = some (fontsL.getD i 0) ∧ fontsL.getD i 0 ∈ fontsL ∧ 119808 ≤ fontsL.getD i 0 ∧ fontsL.getD i 0 ≤ 120432 := by
  have : ∀ i, i < 10 → fontsL[i]? = some (fontsL.getD i 0) ∧ fontsL.getD i 0 ∈ fontsL ∧ 119808 ≤ fontsL.getD i 0 ∧ fontsL.getD i 0 ≤ 120432 := by decide
  exact this i h
theorem faces (t : Int) {l : List Nat} (hl : ∀ a ∈ l, a < 3) : Faces l (gn t) (fn t) 1114111 := by
  have hg := gOf_lt t
  have ho := oOf_lt t
  have key : ∀ g, g < 8 → ∀ a, a < 3 → ∀ b, b < 3 → a < b → fontsL.getD (2 + g - b) 0 + b < fontsL.getD (2 + g - a) 0 + a := by decide
  refine ⟨fun a ha b hb h => by unfold gn; omega, fun a ha b hb h => ?_, fun a ha => ?_⟩
  · have := key (gOf t) hg.1 a (hl a ha) b (hl b hb) h
    unfold fn; omega
  · have := (font_in (i := 2 + gOf t - a) (by omega)).2.2.2
    have := hl a ha
    unfold fn; omega
end
end Mine
end
noncomputable section
open PySem PySem.W PyProof.Rows PySem.Calls PySem.Builtin.Str
set_option Elab.async false
set_option maxRecDepth 100000
set_option linter.unusedVariables false
namespace Mine
noncomputable section
theorem gm_sum (P : Params) : (H_11 P).nsMap mainGlobals (Str.ofString "sum") = none := by kernel_rfl
theorem gb_sum (P : Params) : (H_11 P).nsMap builtinsNs (Str.ofString "sum") = some (.builtin "sum") := by kernel_rfl
theorem gm_chr (P : Params) : (H_11 P).nsMap mainGlobals (Str.ofString "chr") = none := by kernel_rfl
theorem gb_chr (P : Params) : (H_11 P).nsMap builtinsNs (Str.ofString "chr") = some (.builtin "chr") := by kernel_rfl
theorem g_b1 (P : Params) : (H_11 P).nsMap mainGlobals (Str.ofString "in_table_b1") = some (.ref 39) := by kernel_rfl
theorem g_b3 (P : Params) : (H_11 P).nsMap mainGlobals (Str.ofString "map_table_b3") = some (.ref 85) := by kernel_rfl
theorem g_told (P : Params) : (H_11 P).nsMap mainGlobals (Str.ofString "_law_told") = some (.ref 90) := by kernel_rfl
theorem g_found (P : Params) : (H_11 P).nsMap mainGlobals (Str.ofString "_law_found") = some (.ref 95) := by kernel_rfl
theorem g_first (P : Params) : (H_11 P).nsMap mainGlobals (Str.ofString "_law_first") = some (.ref 100) := by kernel_rfl
def fd11 : FuncData := { name := Str.ofString "law", qualname := Str.ofString "law", params := fnArgs 11, body := .stmts (fnBody 11), scope := fnScope 11, globals := 3, closure := [], defaults := Value.none, kwdefaults := Value.none, doc := Value.none, pyModule := Value.str (Str.ofString "law_rl0074_01") 2227, annotations := none, code := Value.ref 104, closureTuple := Value.none, builtins := 0 }
/-- law's frame -/
def lEnv (L : Addr) : Env := callEnvC fd11 L 105
/-- law's statements -/
def lSt (i : Nat) : Stmt := ((fnBody 11)[i]?).getD (.Pass default)
def lSts : List Stmt := [lSt 0, lSt 1, lSt 2, lSt 3, lSt 4, lSt 5, lSt 6, lSt 7, lSt 8, lSt 9, lSt 10, lSt 11, lSt 12, lSt 13]
theorem l_body : fnBody 11 = lSts := by kernel_rfl
theorem lG (L : Addr) : Gl (lEnv L) := ⟨by kernel_rfl, by kernel_rfl, by kernel_rfl⟩

def cI : PySem.Expr → Int
  | .Constant (.int n) _ _ => n
  | _ => 0
def isI : PySem.Expr → Bool
  | .Constant (.int _) _ _ => true
  | _ => false
theorem isI_shape {e : PySem.Expr} (h : isI e = true) : ∃ n k p, e = .Constant (.int n) k p := by
  unfold isI at h
  split at h
  · exact ⟨_, _, _, rfl⟩
  · cases h
section
variable {w : World} {A : Around} {env : Env} {s s₀ : Shared}
theorem eds_ints : ∀ {es : List PySem.Expr}, es.all isI = true → Eds w A env s es (es.map fun e => .int (cI e))
  | [], _ => .nil
  | e :: r, h => by
    rw [List.all_cons, Bool.and_eq_true_iff] at h
    obtain ⟨n, k, p, rfl⟩ := isI_shape h.1
    exact .cons ed_int rfl (eds_ints h.2)
/-- a display of whole numbers -/
theorem ed_ints {es : List PySem.Expr} {pos : Pos} (ds : List Int) (h : es.all isI = true) (hd : (es.map cI) = ds) (hz : ds.length ≤ 1000) : Ed w A env s (.List es pos) (.list (ds.map .int)) := by
  subst hd
  have := ed_list (pos := pos) (eds_ints (w := w) (A := A) (env := env) (s := s) h) (by rw [List.length_map]; rw [List.length_map] at hz; rw [sizeLine_eq]; omega)
  rw [List.map_map]
  exact this
theorem ed_ns {es : List PySem.Expr} {pos : Pos} (ds : List Nat) (h : es.all isI = true) (hd : (es.map cI) = ds.map Int.ofNat) (hz : ds.length ≤ 1000) : Ed w A env s (.List es pos) (.list (ds.map iD)) := by
  have := ed_ints (w := w) (A := A) (env := env) (s := s) (pos := pos) (ds.map Int.ofNat) h hd (by rw [List.length_map]; exact hz)
  rw [List.map_map] at this
  exact this
theorem ed_catn {a b : PySem.Expr} {x y : List Nat} {pos : Pos} (ha : Ed w A env s a (.list (x.map iD))) (hb : Ed w A env s b (.list (y.map iD))) (hx : x.length + y.length ≤ 1000) : Ed w A env s (.BinOp a .Add b pos) (.list ((x ++ y).map iD)) := by
  rw [List.map_append]
  exact ed_cat ha hb (by rw [List.length_map, List.length_map, sizeLine_eq]; omega)

/-- a name bound anew -/
theorem as_vs {n : Str} {e : PySem.Expr} {px pos : Pos} {d : PyData} {l : List (Str × PyData)} {Q : Flow → Shared → Prop} {E : Value → Shared → Prop} (hk : env.scope.kind = .function) (X : Fm s₀ env s) (V : Vs env s.heap l)
    (he : Ed w A env s e d) (hn : env.kindOf n = some .local ∨ (env.kindOf n = some .cell ∧ (env.cells.lookup n).isSome = true)) (hl : (l.all fun p => !(p.1 == n)) = true)
    (q : ∀ s', Fm s₀ env s' → Vs env s'.heap ((n, d) :: l) → Ef [] s s' → Q .next s')
    (hs : swapsWith e (some (.Name n px)) pos.line env = pure false) : wpAny (model pw w) A (exec (.Assign [.Name n px] e pos) env) Q E s :=
  as_name hk X he hn (fun v s₁ s₂ k r X₂ st => q s₂ X₂ (vs_new V k r st hl) ((Ef.of k).trans st.ef)) hs
theorem ex_eq {st st' : Stmt} {Q : Flow → Shared → Prop} {E : Value → Shared → Prop} (h : st = st') (hw : wpAny (model pw w) A (exec st' env) Q E s) : wpAny (model pw w) A (exec st env) Q E s := h ▸ hw
theorem as_vsE {st : Stmt} {n : Str} {e : PySem.Expr} {px pos : Pos} (d : PyData) {l : List (Str × PyData)} {Q : Flow → Shared → Prop} {E : Value → Shared → Prop} (hst : st = .Assign [.Name n px] e pos) (hk : env.scope.kind = .function) (X : Fm s₀ env s) (V : Vs env s.heap l)
    (he : Ed w A env s e d) (hn : env.kindOf n = some .local ∨ (env.kindOf n = some .cell ∧ (env.cells.lookup n).isSome = true)) (hl : (l.all fun p => !(p.1 == n)) = true)
    (hs : swapsWith e (some (.Name n px)) pos.line env = pure false)
    (q : ∀ s', Fm s₀ env s' → Vs env s'.heap ((n, d) :: l) → Ef [] s s' → Q .next s') : wpAny (model pw w) A (exec st env) Q E s :=
  ex_eq hst (as_vs hk X V he hn hl q hs)
/-- a built-in's name -/
theorem ev_b {n : Str} {u : Value} {pos : Pos} (B : Base w s₀) (X : Fm s₀ env s) (G : Gl env) (h1 : env.kindOf n = some .globalImplicit) (h2 : (H_11 w.params).nsMap mainGlobals n = none) (h3 : (H_11 w.params).nsMap builtinsNs n = some u) (h4 : (n == ("__debug__" : Str)) = false) : Ev w A env s (.Name n pos) (fun _ v => v = u) := ev_bl (B.hk X.base) G h1 h2 h3 h4
theorem ev_g {n : Str} {u : Value} {pos : Pos} (B : Base w s₀) (X : Fm s₀ env s) (G : Gl env) (h1 : env.kindOf n = some .globalImplicit) (h3 : (H_11 w.params).nsMap mainGlobals n = some u) (h4 : (n == ("__debug__" : Str)) = false) : Ev w A env s (.Name n pos) (fun _ v => v = u) := ev_gl (B.hk X.base) G h1 h3 h4
end
end
end Mine
end
noncomputable section
open PySem PySem.W PyProof.Rows PySem.Calls PySem.Builtin.Str
set_option Elab.async false
set_option maxRecDepth 100000
set_option linter.unusedVariables false
namespace Mine
noncomputable section
section
variable {w : World} {A : Around} {s s₀ : Shared} {L : Addr} {Q : Flow → Shared → Prop} {E : Value → Shared → Prop}
theorem l0 {v : Value} {ns : List Int} (X : Fm s₀ (lEnv L) s) (b : Bd (lEnv L) s.heap (Str.ofString "script") v) (r : Rv s.heap v (.list (ns.map .int))) (hns : ns.length ≤ 100)
    (q : ∀ s', Fm s₀ (lEnv L) s' → Vs (lEnv L) s'.heap [(Str.ofString "numbers", .list ((numN ns).map .int))] → Q .next s') : wpAny (model pw w) A (exec (lSt 0) (lEnv L)) Q E s := by
  have G := lG L
  with_unfolding_all have hst : lSt 0 = .Assign [.Name _ _] _ _ := rfl
  refine as_vsE (.list ((numN ns).map .int)) (l := []) hst G.kind X trivial ?_ (.inl (by kernel_rfl)) rfl (by kernel_rfl) (fun s' x v _ => q s' x v)
  refine Ed.eq (ed_slice (ds := ns.map PyData.int ++ [3, 30, 10, 0, 33, 4].map PyData.int) (a := none) (b := some ((12 : Nat) : Int)) (ed_cat (ed_name G.kind b r (by kernel_rfl)) (ed_ints [3, 30, 10, 0, 33, 4] (by kernel_rfl) (by kernel_rfl) (by simp)) (by rw [List.length_map, sizeLine_eq]; simp; omega)) .none (.some ed_int) (by rw [List.length_append, List.length_map, sizeLine_eq]; simp; omega)) ?_
  refine congrArg PyData.list ((sl_upto _ 12).trans ?_)
  unfold numN
  rw [List.map_take, List.map_append]
theorem l1 {N : List Int} (B : Base w s₀) (hh : A.handled = none) (X : Fm s₀ (lEnv L) s) (V : Vs (lEnv L) s.heap [(Str.ofString "numbers", .list (N.map .int))])
    (q : ∀ s', Fm s₀ (lEnv L) s' → Vs (lEnv L) s'.heap [(Str.ofString "total", .int N.sum), (Str.ofString "numbers", .list (N.map .int))] → Q .next s') : wpAny (model pw w) A (exec (lSt 1) (lEnv L)) Q E s := by
  have G := lG L
  with_unfolding_all have hst : lSt 1 = .Assign [.Name _ _] _ _ := rfl
  refine as_vsE (.int N.sum) hst G.kind X V ?_ ?_ ?_ ?_ ?_
  rotate_left
  · exact .inl (by kernel_rfl)
  · kernel_rfl
  · kernel_rfl
  · exact fun s' x v _ => q s' x v
  exact ed_sum hh (ev_b B X G (by kernel_rfl) (gm_sum _) (gb_sum _) (by kernel_rfl)) (ed_vs G.kind V.1 (by kernel_rfl)) rfl rfl
theorem ed_lr {f g e₁ e₂ : PySem.Expr} {env : Env} {p pos : Pos} (a b : Nat) (hh : A.handled = none) (hf : Ev w A env s f (fun _ v => v = .type "list")) (hg : Ev w A env s g (fun _ v => v = .type "range")) (h1 : Ed w A env s e₁ (iD a)) (h2 : Ed w A env s e₂ (iD b)) (ha : a < 2 ^ 20) (hb : b < 2 ^ 20)
    (hc : eval (.Call f [.Call g [e₁, e₂] [] p] [] pos) env = (do callWith pos (← eval f env) [] (backTo pos (starEach [.Call g [e₁, e₂] [] p] env)) (backToKw pos (keywordEach [] env))) := by rfl)
    (hs : starEach [.Call g [e₁, e₂] [] p] env = (false, eval (.Call g [e₁, e₂] [] p) env) :: starEach [] env := by rfl)
    (hc' : eval (.Call g [e₁, e₂] [] p) env = (do callWith p (← eval g env) [] (backTo p (starEach [e₁, e₂] env)) (backToKw p (keywordEach [] env))) := by rfl)
    (hs' : starEach [e₁, e₂] env = (false, eval e₁ env) :: starEach [e₂] env := by rfl) (hs2 : starEach [e₂] env = (false, eval e₂ env) :: starEach [] env := by rfl) : Ed w A env s (.Call f [.Call g [e₁, e₂] [] p] [] pos) (.list ((List.range' a (b - a)).map iD)) :=
  ed_list_range2 hh hf hg h1 h2 ha hb hc hs hc' hs' hs2
abbrev vN (N : List Int) : Str × PyData := (Str.ofString "numbers", .list (N.map .int))
abbrev vT (t : Int) : Str × PyData := (Str.ofString "total", .int t)
abbrev vC : Str × PyData := (Str.ofString "codes", .list (codesL.map iD))
abbrev vF : Str × PyData := (Str.ofString "fonts", .list (fontsL.map iD))
abbrev vX (x : List Nat) : Str × PyData := (Str.ofString "text", St' x)
abbrev vM (x : List Nat) : Str × PyData := (Str.ofString "meant", St' x)
abbrev vU (x : List Nat) : Str × PyData := (Str.ofString "unseen", .list (x.map iD))
theorem l2 {N : List Int} {t : Int} (B : Base w s₀) (hh : A.handled = none) (X : Fm s₀ (lEnv L) s) (V : Vs (lEnv L) s.heap [vT t, vN N])
    (q : ∀ s', Fm s₀ (lEnv L) s' → Vs (lEnv L) s'.heap [vC, vT t, vN N] → Q .next s') : wpAny (model pw w) A (exec (lSt 2) (lEnv L)) Q E s := by
  have G := lG L
  have eL : ∀ {pos : Pos}, Ev w A (lEnv L) s (.Name (Str.ofString "list") pos) (fun _ v => v = .type "list") := ev_b B X G (by kernel_rfl) (gm_list _) (gb_list _) (by kernel_rfl)
  have eR : ∀ {pos : Pos}, Ev w A (lEnv L) s (.Name (Str.ofString "range") pos) (fun _ v => v = .type "range") := ev_b B X G (by kernel_rfl) (gm_range _) (gb_range _) (by kernel_rfl)
  have hC : [173, 847, 6150] ++ List.range' 6155 (6158 - 6155) ++ List.range' 8203 (8206 - 8203) ++ [8288] ++ List.range' 65024 (65040 - 65024) ++ [65279] = codesL := rfl
  with_unfolding_all have hst : lSt 2 = .Assign [.Name _ _] _ _ := rfl
  refine as_vsE (.list (([173, 847, 6150] ++ List.range' 6155 (6158 - 6155) ++ List.range' 8203 (8206 - 8203) ++ [8288] ++ List.range' 65024 (65040 - 65024) ++ [65279]).map iD)) hst G.kind X V ?_ ?_ ?_ ?_ ?_
  rotate_left
  · exact .inl (by kernel_rfl)
  · kernel_rfl
  · kernel_rfl
  · intro s' x v _
    rw [hC] at v
    exact q s' x v
  refine ed_catn (ed_catn (ed_catn (ed_catn (ed_catn (ed_ns _ (by kernel_rfl) (by kernel_rfl) (by simp)) (ed_lr 6155 6158 hh eL eR ed_int ed_int (by omega) (by omega) rfl rfl rfl rfl rfl) ?_) (ed_lr 8203 8206 hh eL eR ed_int ed_int (by omega) (by omega) rfl rfl rfl rfl rfl) ?_) (ed_ns [8288] (by kernel_rfl) (by kernel_rfl) (by simp)) ?_) (ed_lr 65024 65040 hh eL eR ed_int ed_int (by omega) (by omega) rfl rfl rfl rfl rfl) ?_) (ed_ns [65279] (by kernel_rfl) (by kernel_rfl) (by simp)) ?_ <;> simp only [List.length_append, List.length_range', List.length_cons, List.length_nil] <;> omega
theorem l3 {N : List Int} {t : Int} (X : Fm s₀ (lEnv L) s) (V : Vs (lEnv L) s.heap [vC, vT t, vN N])
    (q : ∀ s', Fm s₀ (lEnv L) s' → Vs (lEnv L) s'.heap [vF, vC, vT t, vN N] → Q .next s') : wpAny (model pw w) A (exec (lSt 3) (lEnv L)) Q E s := by
  have G := lG L
  with_unfolding_all have hst : lSt 3 = .Assign [.Name _ _] (.List _ _) _ := rfl
  refine as_vsE (.list (fontsL.map iD)) hst G.kind X V ?_ ?_ ?_ ?_ ?_
  rotate_left
  · exact .inl (by kernel_rfl)
  · kernel_rfl
  · kernel_rfl
  · exact fun s' x v _ => q s' x v
  exact ed_ns _ (by kernel_rfl) (by kernel_rfl) (by unfold fontsL; simp)
theorem l4 {N : List Int} {t : Int} (hh : A.handled = none) (X : Fm s₀ (lEnv L) s) (V : Vs (lEnv L) s.heap [vF, vC, vT t, vN N])
    (q : ∀ s', Fm s₀ (lEnv L) s' → Vs (lEnv L) s'.heap [vX [], vM [], vU [], vF, vC, vT t, vN N] → Q .next s') : wpAny (model pw w) A (exec (lSt 4) (lEnv L)) Q E s := by
  have G := lG L
  have e0 : PyData.str (Str.ofString "") = St' [] := by kernel_rfl
  with_unfolding_all have hst : lSt 4 = .Assign _ _ _ := rfl
  rw [hst]
  clear hst
  refine as_swap3 (n1 := Str.ofString "text") (n2 := Str.ofString "meant") (n3 := Str.ofString "unseen") hh G.kind X (da := St' []) (db := St' []) (dc := .list (([] : List Nat).map iD)) ?_ ?_ ?_ (.inl (by kernel_rfl)) (.inl (by kernel_rfl)) (.inl (by kernel_rfl)) ?_ (by kernel_rfl)
  · exact Ed.eq ed_str e0
  · exact Ed.eq ed_str e0
  · exact ed_list0
  intro u1 u2 u3 s₁₀ s₁₁ s₁₂ s₁₃ k₁₀ r1 r2 r3 st11 st12 X₁₃ st13
  have V11 := vs_new V k₁₀ r3 st11 (by kernel_rfl)
  have V12 := vs_new V11 (kp_refl _) (r2.flat rfl) st12 (by kernel_rfl)
  have V13 := vs_new V12 (kp_refl _) (r1.flat rfl) st13 (by kernel_rfl)
  exact q _ X₁₃ V13
end
end
end Mine
end
noncomputable section
open PySem PySem.W PyProof.Rows PySem.Calls PySem.Builtin.Str
set_option Elab.async false
set_option maxRecDepth 100000
set_option linter.unusedVariables false
namespace Mine
noncomputable section
theorem cs_le (x : Int) : (cs x).length ≤ 1 := by unfold cs; rw [List.length_take]; omega
theorem cs_mem {x : Int} {c : Nat} (h : c ∈ cs x) : c ∈ codesL := List.mem_of_mem_drop (List.mem_of_mem_take h)
theorem codes_top : ∀ c ∈ codesL, c ≤ 65279 := by
  have h : (codesL.all fun c => decide (c ≤ 65279)) = true := by kernel_rfl
  intro c hc
  exact of_decide_eq_true (List.all_eq_true.mp h c hc)
theorem textW_len (t : Int) : ∀ (l : List Int), (textW t l).length ≤ 2 * l.length
  | [] => Nat.zero_le _
  | x :: l => by
    have h := textW_len t l
    have h1 := cs_le x
    unfold textW at h ⊢
    rw [List.flatMap_cons, List.length_append, List.length_cons, List.length_cons]
    omega
theorem unseenW_len : ∀ (l : List Int), (unseenW l).length ≤ l.length
  | [] => Nat.zero_le _
  | x :: l => by
    have h := unseenW_len l
    have h1 := cs_le x
    unfold unseenW at h ⊢
    rw [List.flatMap_cons, List.length_append, List.length_cons]
    omega
theorem sl_one {α : Type} (x : List α) (a : Nat) : (x.drop (at_ x.length 0 (some (a : Int)))).take (at_ x.length x.length (some ((a : Int) + 1)) - at_ x.length 0 (some (a : Int))) = (x.drop a).take 1 := by
  have e : (a : Int) + 1 = ((a + 1 : Nat) : Int) := by omega
  rw [e]
  show (x.drop (clipAt x.length a)).take (clipAt x.length (a + 1 : Nat) - clipAt x.length a) = _
  rw [clipAt_nat, clipAt_nat]
  rcases Nat.lt_or_ge a x.length with h | h
  · rw [Nat.min_eq_left (by omega : a ≤ x.length), Nat.min_eq_left (by omega : a + 1 ≤ x.length)]
    congr 1
    omega
  · rw [Nat.min_eq_right h, Nat.min_eq_right (by omega : x.length ≤ a + 1), List.drop_eq_nil_of_le (Nat.le_refl _), List.drop_eq_nil_of_le h]
    simp
theorem text_next (t : Int) (l : List Int) (x : Int) : (textW t l ++ [fn t (aOf x)]) ++ cs x = textW t (l ++ [x]) := by
  unfold textW
  rw [List.flatMap_append]
  simp
theorem meant_next (t : Int) (l : List Int) (x : Int) : meantW t l ++ [gn t (aOf x)] = meantW t (l ++ [x]) := by
  unfold meantW
  rw [List.map_append]
  rfl
theorem unseen_next (l : List Int) (x : Int) : unseenW l ++ cs x = unseenW (l ++ [x]) := by
  unfold unseenW
  rw [List.flatMap_append]
  simp
section
variable {w : World} {A : Around} {env : Env} {s s₀ : Shared}
theorem ed_a {x : Int} {e : PySem.Expr} {k : Nat} {p pos : Pos} (h : Ed w A env s e (.int x)) : Ed w A env s (.BinOp e .Mod (.Constant (.int 3) k p) pos) (iD (aOf x)) := (ed_mod h ed_int (by decide)).eq (congrArg PyData.int (aOf_lt x).2.symm)
theorem ed_o {x : Int} {e : PySem.Expr} {k : Nat} {p pos : Pos} (h : Ed w A env s e (.int x)) : Ed w A env s (.BinOp e .Mod (.Constant (.int 24) k p) pos) (iD (oOf x)) := (ed_mod h ed_int (by decide)).eq (congrArg PyData.int (oOf_lt x).2.symm)
theorem ed_g {x : Int} {e : PySem.Expr} {k k' : Nat} {p pos p' pos' : Pos} (h : Ed w A env s e (.int x)) : Ed w A env s (.BinOp (.BinOp e .FloorDiv (.Constant (.int 24) k p) pos) .Mod (.Constant (.int 8) k' p') pos') (iD (gOf x)) := (ed_mod (ed_div h ed_int (by decide) (by decide)) ed_int (by decide)).eq (congrArg PyData.int (gOf_lt x).2.symm)
theorem ed_b {x : Int} {e : PySem.Expr} {k k' : Nat} {p pos p' pos' : Pos} (h : Ed w A env s e (.int x)) : Ed w A env s (.BinOp (.BinOp e .FloorDiv (.Constant (.int 3) k p) pos) .Mod (.Constant (.int 28) k' p') pos') (iD (bOf x)) := (ed_mod (ed_div h ed_int (by decide) (by decide)) ed_int (by decide)).eq (congrArg PyData.int (bOf_lt x).2.symm)
/-- one of the codes, or none -/
theorem ed_cs {x : Int} {e e' ec : PySem.Expr} {k1 k2 k3 k4 k5 : Nat} {p1 p2 p3 p4 p5 p6 p7 p8 p9 p10 p11 p12 : Pos} (hc : Ed w A env s ec (.list (codesL.map iD))) (h : Ed w A env s e (.int x)) (h' : Ed w A env s e' (.int x)) :
    Ed w A env s (.Subscript ec (.Slice (some (.BinOp (.BinOp e .FloorDiv (.Constant (.int 3) k1 p1) p2) .Mod (.Constant (.int 28) k2 p3) p4)) (some (.BinOp (.BinOp (.BinOp e' .FloorDiv (.Constant (.int 3) k3 p5) p6) .Mod (.Constant (.int 28) k4 p7) p8) .Add (.Constant (.int 1) k5 p9) p10)) none p11) p12) (.list ((cs x).map iD)) := by
  have hl : (codesL.map iD).length = 27 := by kernel_rfl
  refine (ed_slice (a := some ((bOf x : Nat) : Int)) (b := some (((bOf x : Nat) : Int) + 1)) hc (.some (ed_b h)) (.some (ed_add (ed_b h') ed_int)) (by rw [hl, sizeLine_eq]; omega)).eq ?_
  rw [sl_one, ← List.map_drop, ← List.map_take]
  rfl
/-- the letter's sign -/
theorem ed_fn {t x : Int} {ef et et' ex ex' : PySem.Expr} {k1 k2 k3 k4 k5 k6 : Nat} {p1 p2 p3 p4 p5 p6 p7 p8 p9 p10 p11 p12 p13 p14 p15 p16 : Pos} (hf : Ed w A env s ef (.list (fontsL.map iD))) (ht : Ed w A env s et (.int t)) (ht' : Ed w A env s et' (.int t)) (hx : Ed w A env s ex (.int x)) (hx' : Ed w A env s ex' (.int x))
    (hg : ∀ o r, letTemporaryGo ef o r = pure ()) :
    Ed w A env s (.BinOp (.BinOp (.Subscript ef (.BinOp (.BinOp (.Constant (.int 2) k1 p1) .Add (.BinOp (.BinOp et .FloorDiv (.Constant (.int 24) k2 p2) p3) .Mod (.Constant (.int 8) k3 p4) p5) p6) .Sub (.BinOp ex .Mod (.Constant (.int 3) k4 p7) p8) p9) p10) .Add (.BinOp et' .Mod (.Constant (.int 24) k5 p11) p12) p13) .Add (.BinOp ex' .Mod (.Constant (.int 3) k6 p14) p15) p16) (iD (fn t (aOf x))) := by
  have h1 := aOf_lt x
  have h2 := gOf_lt t
  refine (ed_add (ed_add (ed_item (d := iD (fontsL.getD (2 + gOf t - aOf x) 0)) hf (ed_sub (ed_add ed_int (ed_g ht)) (ed_a hx)) (by omega) (by omega) ?_ (by intro _ _; rfl) hg) (ed_o ht')) (ed_a hx')).eq ?_
  · have e : ((2 : Int) + (gOf t : Int) - (aOf x : Int)).toNat = 2 + gOf t - aOf x := by omega
    rw [e, List.getElem?_map, (font_in (by omega)).1]
    rfl
  · unfold fn
    refine congrArg PyData.int ?_
    omega
theorem ed_gn {t x : Int} {et ex : PySem.Expr} {k1 k2 k3 : Nat} {p1 p2 p3 p4 p5 p6 p7 : Pos} (ht : Ed w A env s et (.int t)) (hx : Ed w A env s ex (.int x)) :
    Ed w A env s (.BinOp (.BinOp (.Constant (.int 97) k1 p1) .Add (.BinOp et .Mod (.Constant (.int 24) k2 p2) p3) p4) .Add (.BinOp ex .Mod (.Constant (.int 3) k3 p5) p6) p7) (iD (gn t (aOf x))) := by
  refine (ed_add (ed_add ed_int (ed_o ht)) (ed_a hx)).eq ?_
  unfold gn
  refine congrArg PyData.int ?_
  omega
end
end
end Mine
end
noncomputable section
open PySem PySem.W PyProof.Rows PySem.Calls PySem.Builtin.Str
set_option Elab.async false
set_option maxRecDepth 100000
set_option linter.unusedVariables false
namespace Mine
noncomputable section
section
variable {w : World} {A : Around} {s s₀ : Shared} {L : Addr} {Q : Flow → Shared → Prop} {E : Value → Shared → Prop}
theorem map_sing (l : List Nat) : (l.map fun c => [c]).flatten = l := by
  induction l with
  | nil => rfl
  | cons a l ih => rw [List.map_cons, List.flatten_cons, ih]; rfl
theorem ed_join0 {A : Around} {env : Env} {e : PySem.Expr} {z : Str} {k : Nat} {p ap pos : Pos} {ws : List (List Nat)} (hz0 : z = tx []) (he : Ed w A env s e (.list (ws.map St'))) (hz : (ws.map List.length).sum + ws.length ≤ 1048576)
    (hb : attributeBase (.Constant (.str z) k p) "join" env (eval (.Constant (.str z) k p) env) = eval (.Constant (.str z) k p) env) (hline : (ap.endLine == pos.line) = true)
    (ht : backTo pos (starEach [e] env) = [(false, eval e env)]) : Ed w A env s (.Call (.Attribute (.Constant (.str z) k p) "join" ap) [e] [] pos) (St' ws.flatten) := by
  subst hz0
  exact ed_join he hz hb hline ht
theorem sum_len : ∀ (l : List Nat), ((l.map fun c => [c]).map List.length).sum = l.length
  | [] => rfl
  | a :: l => by rw [List.map_cons, List.map_cons, List.sum_cons, sum_len l, List.length_cons, List.length_cons, List.length_nil]; omega
/-- join of a display of signs -/
theorem ed_joinc {A : Around} {env : Env} {e : PySem.Expr} {z : Str} {k : Nat} {p ap pos : Pos} {l : List Nat} (hz0 : z = tx []) (he : Ed w A env s e (.list (l.map fun c => St' [c]))) (hz : l.length ≤ 1000)
    (hb : attributeBase (.Constant (.str z) k p) "join" env (eval (.Constant (.str z) k p) env) = eval (.Constant (.str z) k p) env) (hline : (ap.endLine == pos.line) = true)
    (ht : backTo pos (starEach [e] env) = [(false, eval e env)]) : Ed w A env s (.Call (.Attribute (.Constant (.str z) k p) "join" ap) [e] [] pos) (St' l) := by
  have h := ed_join0 (ws := l.map fun c => [c]) hz0 (he.eq (by rw [List.map_map]; rfl)) (by rw [sum_len, List.length_map]; omega) hb hline ht
  rw [map_sing] at h
  exact h
set_option maxHeartbeats 1000000 in
theorem l5 {N : List Int} {t : Int} (B : Base w s₀) (hh : A.handled = none) (X : Fm s₀ (lEnv L) s) (V : Vs (lEnv L) s.heap [vX [], vM [], vU [], vF, vC, vT t, vN N]) (hN : N.length ≤ 12)
    (q : ∀ s', Fm s₀ (lEnv L) s' → Vs (lEnv L) s'.heap [vX (textW t N), vM (meantW t N), vU (unseenW N), vF, vC, vT t, vN N] → Q .next s') : wpAny (model pw w) A (exec (lSt 5) (lEnv L)) Q E s := by
  have G := lG L
  with_unfolding_all have hst : lSt 5 = .For _ _ _ [] _ := rfl
  rw [hst]
  clear hst
  have hV := V
  obtain ⟨vn, bN, rN⟩ := hV.2.2.2.2.2.2.1
  refine for_rule false [] (fun i s' => Fm s₀ (lEnv L) s' ∧ Vs (lEnv L) s'.heap [vX (textW t (N.take i)), vM (meantW t (N.take i)), vU (unseenW (N.take i)), vF, vC, vT t, vN N])
    (itr_var hh G.kind bN rN (by kernel_rfl)) (.inl rfl) (fun s' k' => ⟨X.kp k', vs_kp (kp_heap k') V⟩) ?_ ?_ ?_
  · rintro i s₁ s₂ hi ef ⟨X₁, V₁⟩ nx hold
    exact ⟨X₁.nx nx fun b o e => hold b o (X.base b o e) (X₁.base b o e), vs_nx nx V₁⟩
  · rintro i d v s₁ E' hd ef rv ⟨X₁, V₁⟩
    have hi : i < N.length := by
      rcases Nat.lt_or_ge i N.length with h | h
      · exact h
      · rw [List.getElem?_eq_none (by rw [List.length_map]; exact h)] at hd; cases hd
    obtain ⟨x, hx⟩ : ∃ x, N[i]? = some x := ⟨_, List.getElem?_eq_getElem hi⟩
    have hd' : d = .int x := by rw [List.getElem?_map, hx] at hd; cases hd; rfl
    subst hd'
    have htk : N.take (i + 1) = N.take i ++ [x] := by rw [List.take_add_one, hx]; rfl
    have hln : (N.take i).length ≤ 12 := by rw [List.length_take]; omega
    have hl1 := textW_len t (N.take i)
    have hl2 := unseenW_len (N.take i)
    have hl3 := cs_le x
    have hl4 : (meantW t (N.take i)).length = (N.take i).length := by unfold meantW; rw [List.length_map]
    rw [htk, ← text_next, ← meant_next, ← unseen_next]
    generalize N.take i = M at V₁ hln hl1 hl2 hl4 ⊢
    refine wpAny_assign_Name (st_name G.kind X₁ (.inl (by kernel_rfl)) fun s₂ X₂ st2 _ => ?_)
    have V₂ : Vs (lEnv L) s₂.heap [(Str.ofString "x", .int x), vX (textW t M), vM (meantW t M), vU (unseenW M), vF, vC, vT t, vN N] := ⟨⟨v, st2.new, rv.flat rfl⟩, vs_sto st2 V₁ (by kernel_rfl)⟩
    -- the letter's sign
    refine wpAny_execs_cons (as_vsE (St' (textW t M ++ [fn t (aOf x)])) (l := [(Str.ofString "x", .int x), vM (meantW t M), vU (unseenW M), vF, vC, vT t, vN N]) rfl G.kind X₂ ⟨V₂.1, V₂.2.2⟩ ?_ (.inl (by kernel_rfl)) (by kernel_rfl) (by kernel_rfl) ?_)
    · exact ed_catw (ed_vs G.kind V₂.2.1 (by kernel_rfl)) (ed_chr (ev_b B X₂ G (by kernel_rfl) (gm_chr _) (gb_chr _) (by kernel_rfl)) (ed_fn (ed_vs G.kind V₂.2.2.2.2.1 (by kernel_rfl)) (ed_vs G.kind V₂.2.2.2.2.2.2.1 (by kernel_rfl)) (ed_vs G.kind V₂.2.2.2.2.2.2.1 (by kernel_rfl)) (ed_vs G.kind V₂.1 (by kernel_rfl)) (ed_vs G.kind V₂.1 (by kernel_rfl)) (by intro _ _; rfl)) (by
        have h1 := aOf_lt x; have h2 := gOf_lt t; have h3 := oOf_lt t
        have h4 := font_in (i := 2 + gOf t - aOf x) (by omega)
        unfold fn; omega) rfl rfl) (by rw [List.length_singleton]; omega)
    intro s₃ X₃ V₃ ef3
    dsimp only
    -- the code behind
    refine wpAny_execs_cons (as_vsE (St' (textW t M ++ [fn t (aOf x)] ++ cs x)) (l := [(Str.ofString "x", .int x), vM (meantW t M), vU (unseenW M), vF, vC, vT t, vN N]) rfl G.kind X₃ V₃.2 ?_ (.inl (by kernel_rfl)) (by kernel_rfl) (by kernel_rfl) ?_)
    · refine ed_catw (y := cs x) (ed_vs G.kind V₃.1 (by kernel_rfl)) ?_ (by rw [List.length_append, List.length_singleton]; omega)
      refine ed_joinc (by kernel_rfl) (Ed.eq (ed_comp (g := iD) (as := cs x) (cl := []) (fun _ => true) (fun c => St' [c]) iD_inj (fun _ => rfl)
        (itr_list hh (ed_cs (ed_vs G.kind V₃.2.2.2.2.2.1 (by kernel_rfl)) (ed_vs G.kind V₃.2.1 (by kernel_rfl)) (ed_vs G.kind V₃.2.1 (by kernel_rfl))) (flat_ints _)) (by rw [sizeLine_eq]; omega)
        ⟨by kernel_rfl, by decide +kernel, by kernel_rfl, by decide +kernel, by kernel_rfl⟩ (fun env' v' a s₃ I k3 b r3 ha => tl_nil) (fun env' v' a s₃' I k3 b r3 ha _ => ?_)) (by rw [filter_true])) (by omega) rfl (by rfl) rfl
      have Gi := I.gl G
      have := codes_top a (cs_mem ha)
      exact ed_chr (ev_bl (B.hk (hk2 X₃.base k3)) Gi (I.kd (by kernel_rfl)) (gm_chr _) (gb_chr _) (by kernel_rfl)) (ed_name Gi.kind b r3 (by kernel_rfl)) (by omega) rfl rfl
    intro s₄ X₄ V₄ ef4
    dsimp only
    refine wpAny_execs_cons (as_vsE (St' (meantW t M ++ [gn t (aOf x)])) (l := [vX (textW t M ++ [fn t (aOf x)] ++ cs x), (Str.ofString "x", .int x), vU (unseenW M), vF, vC, vT t, vN N]) rfl G.kind X₄ ⟨V₄.1, V₄.2.1, V₄.2.2.2⟩ ?_ (.inl (by kernel_rfl)) (by kernel_rfl) (by kernel_rfl) ?_)
    · exact ed_catw (ed_vs G.kind V₄.2.2.1 (by kernel_rfl)) (ed_chr (ev_b B X₄ G (by kernel_rfl) (gm_chr _) (gb_chr _) (by kernel_rfl)) (ed_gn (ed_vs G.kind V₄.2.2.2.2.2.2.1 (by kernel_rfl)) (ed_vs G.kind V₄.2.1 (by kernel_rfl))) (by
        have h1 := aOf_lt x; have h3 := oOf_lt t
        unfold gn; omega) rfl rfl) (by rw [List.length_singleton]; omega)
    intro s₅ X₅ V₅ ef5
    dsimp only
    refine wpAny_execs_cons (as_vsE (.list ((unseenW M ++ cs x).map iD)) (l := [vM (meantW t M ++ [gn t (aOf x)]), vX (textW t M ++ [fn t (aOf x)] ++ cs x), (Str.ofString "x", .int x), vF, vC, vT t, vN N]) rfl G.kind X₅ ⟨V₅.1, V₅.2.1, V₅.2.2.1, V₅.2.2.2.2⟩ ?_ (.inl (by kernel_rfl)) (by kernel_rfl) (by kernel_rfl) ?_)
    · exact ed_catn (ed_vs G.kind V₅.2.2.2.1 (by kernel_rfl)) (ed_cs (ed_vs G.kind V₅.2.2.2.2.2.1 (by kernel_rfl)) (ed_vs G.kind V₅.2.2.1 (by kernel_rfl)) (ed_vs G.kind V₅.2.2.1 (by kernel_rfl))) (by omega)
    intro s₆ X₆ V₆ ef6
    refine wpAny_execs_nil ?_
    exact ⟨(((st2.ef.trans ef3).trans ef4).trans ef5).trans ef6, X₆, V₆.2.2.1, V₆.2.1, V₆.1, V₆.2.2.2.2⟩
  · rintro s' ef ⟨X', V'⟩
    have e : N.take (N.map PyData.int).length = N := by rw [List.length_map, List.take_length]
    rw [e] at V'
    exact q s' X' V'
end
end
end Mine
end
noncomputable section
open PySem PySem.W PyProof.Rows PySem.Calls PySem.Builtin.Str
set_option Elab.async false
set_option maxRecDepth 100000
set_option linter.unusedVariables false
namespace Mine
noncomputable section
/-- the letters of the numbers -/
def letW (N : List Int) : List Nat := N.map aOf
theorem letW_lt {N : List Int} : ∀ a ∈ letW N, a < 3 := by
  intro a ha
  obtain ⟨x, _, rfl⟩ := List.mem_map.mp ha
  exact (aOf_lt x).1
theorem letW_len (N : List Int) : (letW N).length = N.length := by unfold letW; rw [List.length_map]
theorem b1_codes (P : Params) : (codesL.all fun (c : Nat) => b1S P (c : Int)) = true := by kernel_rfl
theorem b1_code {P : Params} {c : Nat} (h : c ∈ codesL) : b1S P c = true := List.all_eq_true.mp (b1_codes P) c h
theorem fn_bd {t : Int} {a : Nat} (h : a < 3) : 119808 ≤ fn t a ∧ fn t a ≤ 120460 := by
  have h2 := gOf_lt t; have h3 := oOf_lt t
  have h4 := font_in (i := 2 + gOf t - a) (by omega)
  unfold fn; omega
theorem b1_fn {P : Params} {t : Int} {a : Nat} (h : a < 3) : b1S P (fn t a) = false := b1_big (by have := (fn_bd (t := t) h).1; omega)
theorem typed_eq (P : Params) (t : Int) : ∀ N : List Int, (textW t N).filter (fun (c : Nat) => b1S P (c : Int) == false) = (letW N).map (fn t)
  | [] => rfl
  | x :: N => by
    have ih := typed_eq P t N
    unfold textW letW at ih ⊢
    rw [List.flatMap_cons, List.filter_append, ih, List.filter_cons, b1_fn (aOf_lt x).1, List.map_cons, List.map_cons]
    have : (cs x).filter (fun (c : Nat) => b1S P (c : Int) == false) = [] := List.filter_eq_nil_iff.mpr fun c hc => by rw [b1_code (cs_mem hc)]; simp
    rw [this]
    rfl
theorem unseen_eq (P : Params) (t : Int) : ∀ N : List Int, (textW t N).filter (fun (c : Nat) => b1S P (c : Int) == true) = unseenW N
  | [] => rfl
  | x :: N => by
    have ih := unseen_eq P t N
    unfold textW unseenW at ih ⊢
    rw [List.flatMap_cons, List.filter_append, ih, List.filter_cons, b1_fn (aOf_lt x).1, List.flatMap_cons]
    have : (cs x).filter (fun (c : Nat) => b1S P (c : Int) == true) = cs x := List.filter_eq_self.mpr fun c hc => by rw [b1_code (cs_mem hc)]; simp
    rw [this]
    rfl
def foldN (c : Nat) : Nat := match b3F (c : Int) with | some (.str x _) => x.cps.toList.headD 0 | _ => 0
theorem fold_at {t : Int} {a : Nat} (h : a < 3) : foldN (fn t a) = gn t a ∧ ∃ k, b3F ((fn t a : Nat) : Int) = some (.str (tx [gn t a]) k) := by
  have h2 := gOf_lt t; have h3 := oOf_lt t
  have h4 := font_in (i := 2 + gOf t - a) (by omega)
  obtain ⟨k, hk⟩ := b3_at h4.2.1 (j := oOf t + a) (by omega)
  have e1 : fontsL.getD (2 + gOf t - a) 0 + (oOf t + a) = fn t a := by unfold fn; omega
  have e2 : 97 + (oOf t + a) = gn t a := by unfold gn; omega
  rw [e1, e2] at hk
  refine ⟨?_, k, hk⟩
  unfold foldN
  rw [hk]
  rfl
theorem folded_eq (t : Int) (N : List Int) : ((letW N).map (fn t)).map foldN = meantW t N := by
  unfold meantW letW
  rw [List.map_map, List.map_map]
  exact List.map_congr_left fun x _ => (fold_at (aOf_lt x).1).1
section
variable {w : World} {A : Around} {s s₀ : Shared} {L : Addr} {Q : Flow → Shared → Prop} {E : Value → Shared → Prop}
abbrev vY (x : List Nat) : Str × PyData := (Str.ofString "typed", St' x)
abbrev vD (x : List Nat) : Str × PyData := (Str.ofString "folded", St' x)
theorem sg_inj (a b : Nat) (h : St' [a] = St' [b]) : a = b := by
  injection h with h; injection h with h
  simpa using h
theorem ev_b1 {env : Env} {k : Nat} {e f : PySem.Expr} {pos : Pos} {c : Nat} (B : Base w s) (ok : Ok k A) (hk19 : k ≤ 19) (hf : Ev w A env s f (fun _ v => v = .ref 39)) (he : Ed w A env s e (St' [c]))
    (hc : eval (.Call f [e] [] pos) env = (do callWith pos (← eval f env) [] (backTo pos (starEach [e] env)) (backToKw pos (keywordEach [] env))) := by rfl)
    (hs : starEach [e] env = (false, eval e env) :: starEach [] env := by rfl) : Ev w A env s (.Call f [e] [] pos) (fun _ v => v = .bool (b1S w.params c)) :=
  fun s' Q E kk q => ev_def1 B (o := o39_4 w.params) (fd := fd4) (by kernel_rfl) (by rfl) hf he s' Q E kk (fun u s'' k'' ru => b1_ok (B.hk (hk kk k'')) ok hk19 ru fun s₃ k₃ => q _ _ (kp_trans k'' k₃) rfl) hc hs
theorem l6 {N : List Int} {t : Int} {k : Nat} (B : Base w s₀) (ok : Ok k A) (hk19 : k ≤ 19) (X : Fm s₀ (lEnv L) s) (V : Vs (lEnv L) s.heap [vX (textW t N), vM (meantW t N), vU (unseenW N)]) (hN : N.length ≤ 12)
    (q : ∀ s', Fm s₀ (lEnv L) s' → Vs (lEnv L) s'.heap [vY ((letW N).map (fn t)), vX (textW t N), vM (meantW t N), vU (unseenW N)] → Q .next s') : wpAny (model pw w) A (exec (lSt 6) (lEnv L)) Q E s := by
  have G := lG L
  have hh := ok.handled
  have hl := textW_len t N
  with_unfolding_all have hst : lSt 6 = .Assign [.Name _ _] _ _ := rfl
  refine as_vsE (St' ((letW N).map (fn t))) hst G.kind X V ?_ (.inl (by kernel_rfl)) (by kernel_rfl) (by kernel_rfl) (fun s' x v _ => q s' x v)
  refine ed_joinc (by kernel_rfl) (Ed.eq (ed_comp (g := fun c => St' [c]) (as := textW t N) (cl := []) (fun (c : Nat) => b1S w.params (c : Int) == false) (fun c => St' [c]) sg_inj (fun _ => rfl)
    (itr_str hh (ed_vs G.kind V.1 (by kernel_rfl))) (by rw [sizeLine_eq]; omega)
    ⟨by kernel_rfl, by decide +kernel, by kernel_rfl, by decide +kernel, by kernel_rfl⟩ (fun env' v' a s₃ I k3 b r3 ha => ?_) (fun env' v' a s₃ I k3 b r3 ha _ => ?_)) (by rw [typed_eq])) (by rw [List.length_map, letW_len]; omega) rfl (by rfl) rfl
  · have Gi := I.gl G
    exact tl_one (ts_is_bool (ev_b1 (B.hk (hk2 X.base k3)) ok hk19 (ev_gl (B.hk (hk2 X.base k3)) Gi (I.kd (by kernel_rfl)) (g_b1 _) (by kernel_rfl)) (ed_name Gi.kind b r3 (by kernel_rfl)) rfl rfl))
  · exact ed_name (I.gl G).kind b r3 (by kernel_rfl)
theorem l7 {N : List Int} {t : Int} {k : Nat} (B : Base w s₀) (ok : Ok k A) (hk19 : k ≤ 19) (X : Fm s₀ (lEnv L) s) (V : Vs (lEnv L) s.heap [vY ((letW N).map (fn t)), vX (textW t N), vM (meantW t N), vU (unseenW N)]) (hN : N.length ≤ 12)
    (q : ∀ s', Fm s₀ (lEnv L) s' → Vs (lEnv L) s'.heap [vD (meantW t N), vY ((letW N).map (fn t)), vX (textW t N), vM (meantW t N), vU (unseenW N)] → Q .next s') : wpAny (model pw w) A (exec (lSt 7) (lEnv L)) Q E s := by
  have G := lG L
  have hh := ok.handled
  with_unfolding_all have hst : lSt 7 = .Assign [.Name _ _] _ _ := rfl
  refine as_vsE (St' (meantW t N)) hst G.kind X V ?_ (.inl (by kernel_rfl)) (by kernel_rfl) (by kernel_rfl) (fun s' x v _ => q s' x v)
  refine ed_joinc (by kernel_rfl) (Ed.eq (ed_comp (g := fun c => St' [c]) (as := (letW N).map (fn t)) (cl := []) (fun c => true) (fun c => St' [foldN c]) sg_inj (fun _ => rfl)
    (itr_str hh (ed_vs G.kind V.1 (by kernel_rfl))) (by rw [List.length_map, letW_len, sizeLine_eq]; omega)
    ⟨by kernel_rfl, by decide +kernel, by kernel_rfl, by decide +kernel, by kernel_rfl⟩ (fun env' v' a s₃ I k3 b r3 ha => tl_nil) (fun env' v' c s₃ I k3 b r3 hc _ => ?_)) (by rw [filter_true, ← folded_eq]; exact congrArg PyData.list (List.map_map (f := foldN) (g := fun c => St' [c])).symm)) (by unfold meantW; rw [List.length_map]; omega) rfl (by rfl) rfl
  have Gi := I.gl G
  obtain ⟨a, ha, rfl⟩ := List.mem_map.mp hc
  obtain ⟨e1, tk, e2⟩ := fold_at (t := t) (letW_lt a ha)
  rw [e1]
  have B3 := B.hk (hk2 X.base k3)
  exact fun s' Q E kk q => ev_def1 B3 (o := o85_6 w.params) (fd := fd6) (by kernel_rfl) (by rfl) (ev_gl B3 Gi (I.kd (by kernel_rfl)) (g_b3 _) (by kernel_rfl)) (ed_name Gi.kind b r3 (by kernel_rfl)) s' Q E kk (fun u s'' k'' ru => b3_ok (B3.hk (hk kk k'')) ok hk19 ru e2 fun s₃ k₃ => q _ _ (kp_trans k'' k₃) (rv_str _ _ _)) rfl rfl
theorem c_nes {x y : List Nat} : ∀ u v (s' : Shared) (Q : Value → Shared → Prop) (E : Value → Shared → Prop), Rv s'.heap u (St' x) → Rv s'.heap v (St' y) → (∀ s'', Keeps s' s'' → Q (.bool (!decide (x = y))) s'') → wpAny (model pw w) A (compareOp .NotEq u v) Q E s' :=
  fun u v s' Q E ru rv q => by
    obtain ⟨_, rfl⟩ := ru.str; obtain ⟨_, rfl⟩ := rv.str
    refine ne_str ?_
    have : ((⟨x.toArray⟩ : Str) != (⟨y.toArray⟩ : Str)) = !decide (x = y) := by
      rw [bne, Bool.eq_iff_iff]; simp
    rw [this]
    exact q _ (kp_refl _)
/-- the law's answer No is not reached -/
theorem if_no {env : Env} {st : Stmt} {test : PySem.Expr} {body : List Stmt} {pos : Pos} (hst : st = .If test body [] pos) (X : Fm s₀ env s) {l : List (Str × PyData)} (V : Vs env s.heap l) (ht : Ts w A env s test false) (q : ∀ s', Fm s₀ env s' → Vs env s'.heap l → Keeps s s' → Q .next s') : wpAny (model pw w) A (exec st env) Q E s :=
  ex_eq hst (if_rule ht (fun h => nomatch h) (fun _ s₁ k₁ => wpAny_execs_nil (q s₁ (X.kp k₁) (vs_kp (kp_heap k₁) V) k₁)))
theorem l8 {N : List Int} {t : Int} {k : Nat} (B : Base w s₀) (ok : Ok k A) (hk19 : k ≤ 19) (X : Fm s₀ (lEnv L) s) (V : Vs (lEnv L) s.heap [vD (meantW t N), vY ((letW N).map (fn t)), vX (textW t N), vM (meantW t N), vU (unseenW N)]) (hN : N.length ≤ 12)
    (q : ∀ s', Fm s₀ (lEnv L) s' → Vs (lEnv L) s'.heap [vD (meantW t N), vY ((letW N).map (fn t)), vX (textW t N), vM (meantW t N), vU (unseenW N)] → Q .next s') : wpAny (model pw w) A (exec (lSt 8) (lEnv L)) Q E s := by
  have G := lG L
  have hh := ok.handled
  have hl := textW_len t N
  with_unfolding_all have hst : lSt 8 = .If _ _ [] _ := rfl
  refine if_no hst X V ?_ (fun s' x v _ => q s' x v)
  refine (ts_or (x := false) (Ts.eq (ts_cmp (ed_vs G.kind V.1 (by kernel_rfl)) (ed_vs G.kind V.2.2.2.1 (by kernel_rfl)) c_nes rfl) (by simp)) (fun _ => Ts.eq (ts_cmp (ed_comp (g := fun c => St' [c]) (as := textW t N) (cl := []) (fun (c : Nat) => b1S w.params (c : Int) == true) iD sg_inj (fun _ => rfl)
    (itr_str hh (ed_vs G.kind V.2.2.1 (by kernel_rfl))) (by rw [sizeLine_eq]; omega)
    ⟨by kernel_rfl, by decide +kernel, by kernel_rfl, by decide +kernel, by kernel_rfl⟩ (fun env' v' a s₃ I k3 b r3 ha => ?_) (fun env' v' a s₃ I k3 b r3 ha _ => ?_)) (ed_vs G.kind V.2.2.2.2.1 (by kernel_rfl)) (c_ne (shp_map _ (fun _ => rfl) (fun _ => Nat.zero_le _) _) (shp_map _ (fun _ => rfl) (fun _ => Nat.zero_le _) _) (ok.line (by omega))) rfl) (b' := false) ?_)).eq rfl
  · have Gi := I.gl G
    exact tl_one (ts_is_bool (ev_b1 (B.hk (hk2 X.base k3)) ok hk19 (ev_gl (B.hk (hk2 X.base k3)) Gi (I.kd (by kernel_rfl)) (g_b1 _) (by kernel_rfl)) (ed_name Gi.kind b r3 (by kernel_rfl)) rfl rfl))
  · have Gi := I.gl G
    exact ed_ord (ev_bl (B.hk (hk2 X.base k3)) Gi (I.kd (by kernel_rfl)) (gm_ord _) (gb_ord _) (by kernel_rfl)) (ed_name Gi.kind b r3 (by kernel_rfl)) rfl rfl
  · rw [unseen_eq, eqv_map iD (fun _ => rfl) iD_inj]
    simp
end
end
end Mine
end
noncomputable section
open PySem PySem.W PyProof.Rows PySem.Calls PySem.Builtin.Str
set_option Elab.async false
set_option maxRecDepth 100000
set_option linter.unusedVariables false
namespace Mine
noncomputable section
theorem flat_len {α β : Type} {f : α → List β} : ∀ (l : List α), (∀ a ∈ l, (f a).length ≤ 1) → (l.flatMap f).length ≤ l.length
  | [], _ => Nat.zero_le _
  | a :: l, h => by
    rw [List.flatMap_cons, List.length_append, List.length_cons]
    have h1 := h a (by simp)
    have h2 := flat_len l fun b hb => h b (by simp [hb])
    omega
theorem found_len (x e : List Nat) : (found x e).length ≤ x.length := by
  unfold found
  refine Nat.le_trans (flat_len _ fun a _ => ?_) (by rw [List.length_range]; exact Nat.le_refl _)
  refine Nat.le_trans (flat_len _ fun b _ => ?_) (by rw [List.length_take]; omega)
  unfold foundAt
  split
  · exact Nat.le_refl _
  · exact Nat.zero_le _
section
variable {w : World} {A : Around} {s s₀ : Shared} {L : Addr} {Q : Flow → Shared → Prop} {E : Value → Shared → Prop}
abbrev vR (l : List (Nat × Nat × Nat)) : Str × PyData := (Str.ofString "runs", .list (l.map tupD))
abbrev vO (l : List (Nat × Nat × Nat)) : Str × PyData := (Str.ofString "found", .list (l.map tupD))
theorem ed_told {env : Env} {k : Nat} {kd : Bool} {e f : PySem.Expr} {pos : Pos} {x : List Nat} (B : Base w s) (ok : Ok k A) (hk18 : k ≤ 18) (hf : Ev w A env s f (fun _ v => v = .ref 90)) (he : Ed w A env s e (rowD kd x)) (hx : x.length ≤ 100)
    (hc : eval (.Call f [e] [] pos) env = (do callWith pos (← eval f env) [] (backTo pos (starEach [e] env)) (backToKw pos (keywordEach [] env))) := by rfl)
    (hs : starEach [e] env = (false, eval e env) :: starEach [] env := by rfl) : Ed w A env s (.Call f [e] [] pos) (.list ((told x).map tupD)) :=
  fun s' Q E kk q => ev_def1 B (o := o90_8 w.params) (fd := fd8) (by kernel_rfl) (by rfl) hf he s' Q E kk (fun u s'' k'' ru => told_ok (B.hk (hk kk k'')) ok hk18 ru hx fun v s₃ k₃ r => q v _ (kp_trans k'' k₃) r) hc hs
/-- a call of a def of ours, two things handed over -/
theorem ev_def2 {env : Env} {f e e' : PySem.Expr} {a : Addr} {o : Obj} {fd : FuncData} {pos : Pos} {d d' : PyData} (B : Base w s) (ho : (H_11 w.params).get? a = some o) (hdat : o.data = .func fd) (hf : Ev w A env s f (fun _ v => v = .ref a)) (he : Ed w A env s e d) (he' : Ed w A env s e' d')
    (s' : Shared) (Q : Value → Shared → Prop) (E : Value → Shared → Prop) (k : HK s s') (h : ∀ u v s'', Keeps s' s'' → Rv s''.heap u d → Rv s''.heap v d' → wpAny (model pw w) A (call (.ref a) [u, v]) Q E s'')
    (hc : eval (.Call f [e, e'] [] pos) env = (do callWith pos (← eval f env) [] (backTo pos (starEach [e, e'] env)) (backToKw pos (keywordEach [] env))) := by rfl)
    (hs : starEach [e, e'] env = (false, eval e env) :: starEach [e'] env := by rfl) (hs' : starEach [e'] env = (false, eval e' env) :: starEach [] env := by rfl) : wpAny (model pw w) A (eval (.Call f [e, e'] [] pos) env) Q E s' :=
  Call_ (hf s' _ _ k fun v s₁ k₁ hv => by
    subst hv
    refine callWith_def hdat (args_cons (he s₁ _ _ (hk k k₁) fun u s₂ k₂ ru => args_cons (he' s₂ _ _ (hk k (kp_trans k₁ k₂)) fun u' s₃ k₃ ru' => args_nil ⟨B.hk (hk k (kp_trans k₁ (kp_trans k₂ k₃))) a o ho, ?_⟩) hs') hs) hs
    exact h u u' s₃ (kp_trans k₁ (kp_trans k₂ k₃)) (ru.kp k₃) ru') hc
theorem ed_found {env : Env} {k : Nat} {e e' f : PySem.Expr} {pos : Pos} {x y : List Nat} (B : Base w s) (ok : Ok k A) (hk18 : k ≤ 18) (hf : Ev w A env s f (fun _ v => v = .ref 95)) (he : Ed w A env s e (St' x)) (he' : Ed w A env s e' (St' y)) (hx : x.length ≤ 100) (hy : y.length ≤ 100)
    (hc : eval (.Call f [e, e'] [] pos) env = (do callWith pos (← eval f env) [] (backTo pos (starEach [e, e'] env)) (backToKw pos (keywordEach [] env))) := by rfl)
    (hs : starEach [e, e'] env = (false, eval e env) :: starEach [e'] env := by rfl) (hs' : starEach [e'] env = (false, eval e' env) :: starEach [] env := by rfl) : Ed w A env s (.Call f [e, e'] [] pos) (.list ((found x y).map tupD)) :=
  fun s' Q E kk q => ev_def2 B (o := o95_9 w.params) (fd := fd9) (by kernel_rfl) (by rfl) hf he he' s' Q E kk (fun u v s'' k'' ru rv => found_ok (B.hk (hk kk k'')) ok hk18 ru rv hx hy fun v s₃ k₃ r => q v _ (kp_trans k'' k₃) r) hc hs hs'
theorem l9 {x y : List Nat} {k : Nat} (B : Base w s₀) (ok : Ok k A) (hk18 : k ≤ 18) (X : Fm s₀ (lEnv L) s) (V : Vs (lEnv L) s.heap [vD x, vY y]) (hx : x.length ≤ 100)
    (q : ∀ s', Fm s₀ (lEnv L) s' → Vs (lEnv L) s'.heap [vR (told x), vD x, vY y] → Q .next s') : wpAny (model pw w) A (exec (lSt 9) (lEnv L)) Q E s := by
  have G := lG L
  with_unfolding_all have hst : lSt 9 = .Assign [.Name _ _] _ _ := rfl
  refine as_vsE (.list ((told x).map tupD)) hst G.kind X V ?_ (.inr ⟨by kernel_rfl, by kernel_rfl⟩) (by kernel_rfl) (by kernel_rfl) (fun s' x v _ => q s' x v)
  exact ed_told (kd := true) (B.hk X.base) ok hk18 (ev_g B X G (by kernel_rfl) (g_told _) (by kernel_rfl)) (ed_vs G.kind V.1 (by kernel_rfl)) hx rfl rfl
theorem l10 {x y : List Nat} {R : List (Nat × Nat × Nat)} {k : Nat} (B : Base w s₀) (ok : Ok k A) (hk18 : k ≤ 18) (X : Fm s₀ (lEnv L) s) (V : Vs (lEnv L) s.heap [vR R, vD x, vY y]) (hx : x.length ≤ 100) (hy : y.length ≤ 100)
    (q : ∀ s', Fm s₀ (lEnv L) s' → Vs (lEnv L) s'.heap [vO (found x [] ++ found y [1114111]), vR R, vD x, vY y] → Q .next s') : wpAny (model pw w) A (exec (lSt 10) (lEnv L)) Q E s := by
  have G := lG L
  have e0 : PyData.str (Str.ofString "") = St' [] := by kernel_rfl
  have h1 := found_len x []
  have h2 := found_len y [1114111]
  with_unfolding_all have hst : lSt 10 = .Assign [.Name _ _] _ _ := rfl
  refine as_vsE (.list ((found x [] ++ found y [1114111]).map tupD)) hst G.kind X V ?_ (.inl (by kernel_rfl)) (by kernel_rfl) (by kernel_rfl) (fun s' x v _ => q s' x v)
  rw [List.map_append]
  refine ed_cat ?_ ?_ (by rw [List.length_map, List.length_map, sizeLine_eq]; omega)
  · exact ed_found (B.hk X.base) ok hk18 (ev_g B X G (by kernel_rfl) (g_found _) (by kernel_rfl)) (ed_vs G.kind V.2.1 (by kernel_rfl)) (Ed.eq ed_str e0) hx (by simp) rfl rfl rfl
  · exact ed_found (B.hk X.base) ok hk18 (ev_g B X G (by kernel_rfl) (g_found _) (by kernel_rfl)) (ed_vs G.kind V.2.2.1 (by kernel_rfl)) (ed_chr (ev_b B X G (by kernel_rfl) (gm_chr _) (gb_chr _) (by kernel_rfl)) ed_int (by omega) rfl rfl) hy (by simp) rfl rfl rfl
theorem l11 {x y : List Nat} {O : List (Nat × Nat × Nat)} {k : Nat} (B : Base w s₀) (ok : Ok k A) (hk18 : k ≤ 18) (X : Fm s₀ (lEnv L) s) (V : Vs (lEnv L) s.heap [vO O, vR (told x), vD x, vY y]) (hy : y.length ≤ 100) (hO : O.length ≤ 200)
    (he : told y = told x) (hin : ∀ r ∈ O, r ∈ told x)
    (q : ∀ s', Fm s₀ (lEnv L) s' → Vs (lEnv L) s'.heap [vO O, vR (told x), vD x, vY y] → Q .next s') : wpAny (model pw w) A (exec (lSt 11) (lEnv L)) Q E s := by
  have G := lG L
  have hh := ok.handled
  have hLine := ok.line (by omega)
  with_unfolding_all have hst : lSt 11 = .If _ _ [] _ := rfl
  refine if_no hst X V ?_ (fun s' x v _ => q s' x v)
  have V' := V
  obtain ⟨⟨vo, bo, ro⟩, ⟨vr, br, rr⟩, -⟩ := V'
  refine (ts_or (x := false) (Ts.eq (ts_cmp (ed_told (kd := false) (x := y) (B.hk X.base) ok hk18 (ev_g B X G (by kernel_rfl) (g_told _) (by kernel_rfl)) (Ed.eq (ed_comp (g := fun c => St' [c]) (as := y) (cl := []) (fun (c : Nat) => true) iD sg_inj (fun _ => rfl)
    (itr_str hh (ed_vs G.kind V.2.2.2.1 (by kernel_rfl))) (by rw [sizeLine_eq]; omega)
    ⟨by kernel_rfl, by decide +kernel, by kernel_rfl, by decide +kernel, by kernel_rfl⟩ (fun env' v' a s₃ I k3 b r3 ha => tl_nil) (fun env' v' a s₃ I k3 b r3 ha _ => ?_)) (by rw [filter_true]; rfl)) hy rfl rfl) (ed_vs G.kind V.2.1 (by kernel_rfl)) (c_ne (shp_map _ (fun _ => rfl) (fun _ => Nat.le_of_ble_eq_true rfl) _) (shp_map _ (fun _ => rfl) (fun _ => Nat.le_of_ble_eq_true rfl) _) hLine) rfl) ?_)
    (fun _ => Ts.eq (ts_cmp (ed_none (cl := [(Str.ofString "runs", L + 1)]) (itr_var hh G.kind bo ro (by kernel_rfl)) (by rw [List.length_map, sizeLine_eq]; omega)
      ⟨by kernel_rfl, by decide +kernel, by kernel_rfl, by decide +kernel, by kernel_rfl⟩ (fun env' v' d s₃ I k3 b r3 hd => ?_)) ed_list0 (c_ne shp_nil shp_nil hLine) rfl) (b' := false) rfl)).eq rfl
  · have Gi := I.gl G
    exact ed_ord (ev_bl (B.hk (hk2 X.base k3)) Gi (I.kd (by kernel_rfl)) (gm_ord _) (gb_ord _) (by kernel_rfl)) (ed_name Gi.kind b r3 (by kernel_rfl)) rfl rfl
  · rw [he, eqv_map tupD (fun _ => rfl) tupD_inj]
    simp
  · have Gi := I.gl G
    obtain ⟨p, hp, rfl⟩ := List.mem_map.mp hd
    refine tl_one (Ts.eq (ts_cmp (ed_name Gi.kind b r3 (by kernel_rfl)) (ed_name Gi.kind (I.bd (c := L + 1) (br.hk k3) (by kernel_rfl) (by kernel_rfl)) (rr.keep k3) (by kernel_rfl)) (c_notin hLine) rfl) ?_)
    rw [decide_eq_true (hin p hp)]
    rfl
end
end
end Mine
end
noncomputable section
open PySem PySem.W PyProof.Rows PySem.Calls PySem.Builtin.Str
set_option Elab.async false
set_option maxRecDepth 100000
set_option linter.unusedVariables false
namespace Mine
noncomputable section
section
variable {w : World} {A : Around} {env : Env} {s s₀ : Shared}
variable {elt iter : PySem.Expr} {x : Str} {px : Pos} {ifs : List PySem.Expr} {scope : Scope} {cl : List (Str × Addr)} {pos : Pos}
/-- a display of flat things, given a name -/
theorem as_comp {α : Type} {fr : Bool} {g : α → PyData} {as : List α} {st : Stmt} {y : Str} {py spos : Pos} {l : List (Str × PyData)} {Q : Flow → Shared → Prop} {E : Value → Shared → Prop} (p : α → Bool) (f : α → PyData)
    (hst : st = .Assign [.Name y py] (.ListComp elt [⟨.Name x px, iter, ifs, 0⟩] scope pos) spos) (hg : ∀ a b, g a = g b → a = b) (hf : ∀ a, flat (f a) = true)
    (hit : Itr fr w A env s iter (as.map g)) (hz : as.length ≤ sizeLine) (sc : Sc env scope x cl)
    (tests : ∀ env' v a s₃, Inner env scope cl env' → HK s s₃ → Bd env' s₃.heap x v → Rv s₃.heap v (g a) → a ∈ as → TL w A env' s₃ ifs (p a))
    (helt : ∀ env' v a s₃, Inner env scope cl env' → HK s s₃ → Bd env' s₃.heap x v → Rv s₃.heap v (g a) → a ∈ as → p a = true → Ed w A env' s₃ elt (f a))
    (hk : env.scope.kind = .function) (X : Fm s₀ env s) (V : Vs env s.heap l) (hy : env.kindOf y = some .local) (hl : (l.all fun p => !(p.1 == y)) = true)
    (hsw : swapsWith (.ListComp elt [⟨.Name x px, iter, ifs, 0⟩] scope pos) (some (.Name y py)) spos.line env = pure true)
    (hs : ∀ x, foldedSetIterable iter env x = pure x)
    (q : ∀ s', Fm s₀ env s' → Vs env s'.heap ((y, .list ((as.filter p).map f)) :: l) → Ef [] s s' → Q .next s') : wpAny (model pw w) A (exec st env) Q E s :=
  ex_eq hst (as_core (Fin := fun _ D h => ∃ ys, h.IsList D ys ∧ ∀ h, Rvs h ys.toList ((as.filter p).map f)) sc (fun s' k => core_map p f hg hf hit hz sc tests helt s' k) hk X hy
    (fun D s₁ s₂ k₁ hD ⟨ys, h1, h2⟩ X₂ st2 => q s₂ X₂ (vs_new V k₁ (rv_list h1 (h2 _)) st2 hl) ((Ef.of k₁).trans st2.ef)) hsw hs)
/-- the rows as data -/
abbrev rowsD (as : List Nat) (F : Nat → List Nat) : PyData := .list (as.map fun k => .list ((F k).map iD))
theorem rows_rvs {h : Heap} {F : Nat → List Nat} : ∀ {as : List Nat} {ys : List Value}, Paired (fun d y => ∃ T its, y = Value.ref T ∧ h.IsList T its ∧ ∃ k, d = iD k ∧ ∀ h, Rvs h its.toList ((F k).map iD)) (as.map iD) ys → Rvs h ys (as.map fun k => .list ((F k).map iD))
  | [], _, p => by cases p; exact rvs_nil _
  | k :: as, _, p => by
    cases p with
    | cons a b =>
      obtain ⟨T, its, rfl, hl, k', hk, hr⟩ := a
      have := iD_inj _ _ hk
      subst this
      exact rvs_cons (rv_list hl (hr _)) (rows_rvs b)
theorem core_rows {fr : Bool} {as : List Nat} (F : Nat → List Nat) (hit : Itr fr w A env s iter (as.map iD)) (hz : as.length ≤ 1000) (sc : Sc env scope x cl)
    (helt : ∀ env' v k s₃ (Q : Value → Shared → Prop) (E : Value → Shared → Prop), Inner env scope cl env' → HK s s₃ → Bd env' s₃.heap x v → Rv s₃.heap v (iD k) → k ∈ as →
      (∀ T its s₄, Keeps s₃ s₄ → s₃.heap.get? T = none → s₄.heap.IsList T its → (∀ h, Rvs h its.toList ((F k).map iD)) → Q (.ref T) s₄) → wpAny (model pw w) A (eval elt env') Q E s₃)
    (s' : Shared) (k : HK s s') : Core w A env elt iter x px [] scope cl pos s' (fun D h => Rv h (.ref D) (rowsD as F)) := by
  have c := core_lists (px := px) (pos := pos) (elt := elt) (ifs := []) (fun _ => true) (fun d its => ∃ k, d = iD k ∧ ∀ h, Rvs h its.toList ((F k).map iD)) hit (by rw [List.length_map, sizeLine_eq]; omega) sc (fun _ _ _ _ _ _ _ _ => tl_nil)
    (fun C v d s₃ Q E k3 b r hd _ q => by
      obtain ⟨a, ha, rfl⟩ := List.mem_map.mp hd
      exact helt _ v a s₃ Q E ⟨C, rfl⟩ k3 b r ha fun T its s₄ k4 hT hl hr => q T its s₄ k4 hT hl ⟨a, rfl, hr⟩) s' k
  have up : ∀ (h : Heap) (D : Addr), (∃ ys : Array Value, h.IsList D ys ∧ Paired (fun d y => ∃ T its, y = Value.ref T ∧ h.IsList T its ∧ ∃ k, d = iD k ∧ ∀ h, Rvs h its.toList ((F k).map iD)) ((as.map iD).filter fun _ => true) ys.toList) → Rv h (.ref D) (rowsD as F) := by
    rintro h D ⟨ys, hl, hp⟩
    rw [filter_true] at hp
    exact rv_list hl (rows_rvs hp)
  exact fun RR E q => c RR E fun D C h' tk m' hD hC hDC hn h1 h2 hk' => q D C h' tk m' hD hC hDC hn (fun h'' hs => up _ _ (h1 h'' hs)) (up _ _ h2) hk'
theorem as_rows {fr : Bool} {as : List Nat} {st : Stmt} {y : Str} {py spos : Pos} {l : List (Str × PyData)} {Q : Flow → Shared → Prop} {E : Value → Shared → Prop} (F : Nat → List Nat)
    (hst : st = .Assign [.Name y py] (.ListComp elt [⟨.Name x px, iter, [], 0⟩] scope pos) spos)
    (hit : Itr fr w A env s iter (as.map iD)) (hz : as.length ≤ 1000) (sc : Sc env scope x cl)
    (helt : ∀ env' v k s₃ (Q : Value → Shared → Prop) (E : Value → Shared → Prop), Inner env scope cl env' → HK s s₃ → Bd env' s₃.heap x v → Rv s₃.heap v (iD k) → k ∈ as →
      (∀ T its s₄, Keeps s₃ s₄ → s₃.heap.get? T = none → s₄.heap.IsList T its → (∀ h, Rvs h its.toList ((F k).map iD)) → Q (.ref T) s₄) → wpAny (model pw w) A (eval elt env') Q E s₃)
    (hk : env.scope.kind = .function) (X : Fm s₀ env s) (V : Vs env s.heap l) (hy : env.kindOf y = some .local) (hl : (l.all fun p => !(p.1 == y)) = true)
    (hsw : swapsWith (.ListComp elt [⟨.Name x px, iter, [], 0⟩] scope pos) (some (.Name y py)) spos.line env = pure true)
    (hs : ∀ x, foldedSetIterable iter env x = pure x)
    (q : ∀ s', Fm s₀ env s' → Vs env s'.heap ((y, rowsD as F) :: l) → Ef [] s s' → Q .next s') : wpAny (model pw w) A (exec st env) Q E s :=
  ex_eq hst (as_core (Fin := fun _ D h => Rv h (.ref D) (rowsD as F)) sc (fun s' k => core_rows F hit hz sc helt s' k) hk X hy
    (fun D s₁ s₂ k₁ hD hr X₂ st2 => q s₂ X₂ (vs_new V k₁ hr st2 hl) ((Ef.of k₁).trans st2.ef)) hsw hs)
theorem ed_rows {fr : Bool} {as : List Nat} (F : Nat → List Nat) (hit : Itr fr w A env s iter (as.map iD)) (hz : as.length ≤ 1000) (sc : Sc env scope x cl)
    (helt : ∀ env' v k s₃ (Q : Value → Shared → Prop) (E : Value → Shared → Prop), Inner env scope cl env' → HK s s₃ → Bd env' s₃.heap x v → Rv s₃.heap v (iD k) → k ∈ as →
      (∀ T its s₄, Keeps s₃ s₄ → s₃.heap.get? T = none → s₄.heap.IsList T its → (∀ h, Rvs h its.toList ((F k).map iD)) → Q (.ref T) s₄) → wpAny (model pw w) A (eval elt env') Q E s₃)
    (hs : ∀ x, foldedSetIterable iter env x = pure x) : Ed w A env s (.ListComp elt [⟨.Name x px, iter, [], 0⟩] scope pos) (rowsD as F) :=
  fun s' Q E k q => ev_core (Fin := fun s' D h => Rv h (.ref D) (rowsD as F)) sc (core_rows F hit hz sc helt) s' Q E k (fun D s'' k'' _ hr => q _ _ k'' hr) hs
/-- a part of a list of whole numbers, new -/
theorem q_slice {e : PySem.Expr} {lo hi : Option PySem.Expr} {a b : Option Int} {p pos : Pos} {l : List Nat} (he : Ed w A env s e (.list (l.map iD))) (ha : Pt w A env s lo a) (hb : Pt w A env s hi b) (hz : l.length ≤ 1000)
    (s' : Shared) (Q : Value → Shared → Prop) (E : Value → Shared → Prop) (k : HK s s')
    (q : ∀ T its s'', Keeps s' s'' → s'.heap.get? T = none → s''.heap.IsList T its → (∀ h, Rvs h its.toList (((l.drop (at_ l.length 0 a)).take (at_ l.length l.length b - at_ l.length 0 a)).map iD)) → Q (.ref T) s'') :
    wpAny (model pw w) A (eval (.Subscript e (.Slice lo hi none p) pos) env) Q E s' :=
  sub_list_slice (he s' _ _ k fun o s₁ k₁ r => pt_ev ha s₁ _ _ (hk k k₁) fun pa hpa s₂ k₂ => pt_ev hb s₂ _ _ (hk k (kp_trans k₁ k₂)) fun pb hpb s₃ k₃ => by
    obtain ⟨a', vs, rfl, hl, rr⟩ := (r.kp (kp_trans k₂ k₃)).list
    have hn : vs.size = l.length := by rw [← Array.length_toList, rr.length, List.length_map]
    refine ⟨a', vs, a, b, rfl, hl, by rw [hn, sizeLine_eq]; omega, hpa ▸ isPart_of pa, hpb ▸ isPart_of pb, ?_⟩
    have kk := kp_trans k₁ (kp_trans k₂ k₃)
    have e1 : a.elim 0 (clipAt vs.size) = at_ l.length 0 a := by rw [hn]; cases a <;> rfl
    have e2 : b.elim vs.size (clipAt vs.size) = at_ l.length l.length b := by rw [hn]; cases b <;> rfl
    refine q (s₃.heap.objs.size + 1) (slicePick vs a b none) { s₃ with heap := (s₃.heap.push { cls := .type "slice", data := .fields #[partValue pa, partValue pb, .none] }).push { cls := .type "list", data := .seq (slicePick vs a b none) } }
      (kp_trans kk ⟨_, _, rfl, fun _ _ e => Heap.get?_push_of_some _ (Heap.get?_push_of_some _ e)⟩) (fresh_hk (kp_heap kk) (none_of_ge (Nat.le_succ _)))
      ⟨_, by have := Heap.get?_push_size (s₃.heap.push { cls := .type "slice", data := .fields #[partValue pa, partValue pb, .none] }) (o := { cls := .type "list", data := .seq (slicePick vs a b none) }) rfl; rw [Heap.size_push] at this; exact this, rfl, _, rfl⟩ fun h => ?_
    have h2 : Rvs h (slicePick vs a b none).toList (((l.drop (at_ l.length 0 a)).take (at_ l.length l.length b - at_ l.length 0 a)).map iD) := by
      rw [slicePick_plain, e1, e2, List.map_take, List.map_drop]
      have r0 : Rvs h vs.toList (l.map iD) := rr.flat (flat_ints _)
      exact (rvs_take_drop (rvs_take_drop r0 _).1 _).2
    exact h2)
theorem ed_first {k : Nat} {e f : PySem.Expr} {pos : Pos} {x : List Nat} (B : Base w s) (ok : Ok k A) (hk19 : k ≤ 19) (hf : Ev w A env s f (fun _ v => v = .ref 100)) (he : Ed w A env s e (St' x)) (hx : x.length ≤ 1000)
    (hc : eval (.Call f [e] [] pos) env = (do callWith pos (← eval f env) [] (backTo pos (starEach [e] env)) (backToKw pos (keywordEach [] env))) := by rfl)
    (hs : starEach [e] env = (false, eval e env) :: starEach [] env := by rfl) : Ed w A env s (.Call f [e] [] pos) (.bool (firstB x)) :=
  fun s' Q E kk q => ev_def1 B (o := o100_10 w.params) (fd := fd10) (by kernel_rfl) (by rfl) hf he s' Q E kk (fun u s'' k'' ru => first_ok (B.hk (hk kk k'')) ok hk19 ru hx fun s₃ k₃ => q _ _ (kp_trans k'' k₃) (rv_bool _ _)) hc hs
theorem ed_overlap {k : Nat} {e f : PySem.Expr} {pos : Pos} {x : List Nat} (B : Base w s) (ok : Ok k A) (hk19 : k ≤ 19) (hf : Ev w A env s f (fun _ v => v = .ref 21)) (he : Ed w A env s e (St' x)) (hx : x.length ≤ 1000)
    (hc : eval (.Call f [e] [] pos) env = (do callWith pos (← eval f env) [] (backTo pos (starEach [e] env)) (backToKw pos (keywordEach [] env))) := by rfl)
    (hs : starEach [e] env = (false, eval e env) :: starEach [] env := by rfl) : Ed w A env s (.Call f [e] [] pos) (.list ((tbl x).map iD)) :=
  fun s' Q E kk q => ev_def1 B (o := o21_1 w.params) (fd := fd1) (by kernel_rfl) (by rfl) hf he s' Q E kk (fun u s'' k'' ru => overlap_ok (kd := true) (B.hk (hk kk k'')) ok hk19 ru hx fun T vs s₃ k₃ _ hl r => q _ _ (kp_trans k'' k₃) (rv_list hl r)) hc hs
end
end
end Mine
end
noncomputable section
open PySem PySem.W PyProof.Rows PySem.Calls PySem.Builtin.Str
set_option Elab.async false
set_option maxRecDepth 100000
set_option linter.unusedVariables false
namespace Mine
noncomputable section
/-- the last loop's statements -/
def lBody : List Stmt := match lSt 12 with | .For _ _ b _ _ => b | _ => []
def lB (i : Nat) : Stmt := (lBody[i]?).getD (.Pass default)
theorem lBody_eq : lBody = [lB 0, lB 1, lB 2, lB 3] := by kernel_rfl
section
variable {w : World} {A : Around} {s s₀ : Shared} {L : Addr} {Q : Flow → Shared → Prop} {E : Value → Shared → Prop}
abbrev vI (n : Nat) : Str × PyData := (Str.ofString "low", iD n)
abbrev vJ (n : Nat) : Str × PyData := (Str.ofString "high", iD n)
abbrev vP (n : Nat) : Str × PyData := (Str.ofString "step", iD n)
abbrev vA (x : List Nat) : Str × PyData := (Str.ofString "face", St' x)
abbrev vK (l : List Nat) : Str × PyData := (Str.ofString "roots", .list (l.map iD))
abbrev vE (l : List Nat) (F : Nat → List Nat) : Str × PyData := (Str.ofString "rests", rowsD l F)
def faceB (x : List Nat) (j p : Nat) : Bool := decide (at' (x ++ [32]) j < at' x (j - p))
theorem sing_lt {a b : Nat} : decide ([a] < [b]) = decide (a < b) := by
  rw [Bool.eq_iff_iff, decide_eq_true_eq, decide_eq_true_eq, lt_cons]
  constructor
  · rintro (h | ⟨_, h⟩)
    · exact h
    · exact absurd h (lt_irr [])
  · exact .inl
theorem m0 {x y : List Nat} {O : List (Nat × Nat × Nat)} {i j p : Nat} (X : Fm s₀ (lEnv L) s) (V : Vs (lEnv L) s.heap [vP p, vJ j, vI i, vO O, vD x, vY y]) (hx : x.length ≤ 100) (hj : j ≤ x.length) (hp : 0 < p) (hpj : p ≤ j)
    (q : ∀ s', Fm s₀ (lEnv L) s' → Vs (lEnv L) s'.heap [vA (if faceB x j p = true then x else y), vP p, vJ j, vI i, vO O, vD x, vY y] → Ef [] s s' → Q .next s') : wpAny (model pw w) A (exec (lB 0) (lEnv L)) Q E s := by
  have G := lG L
  have e0 : PyData.str (Str.ofString " ") = St' [32] := by kernel_rfl
  with_unfolding_all have hst : lB 0 = .Assign [.Name _ _] _ _ := rfl
  refine as_vsE (St' (if faceB x j p = true then x else y)) hst G.kind X V ?_ (.inr ⟨by kernel_rfl, by kernel_rfl⟩) (by kernel_rfl) (by kernel_rfl) q
  refine ed_if (x := faceB x j p) (Ts.eq (ts_cmp (ed_sign (x := tx (x ++ [32])) (n := (j : Int)) (c := at' (x ++ [32]) j) (ed_catw (ed_vs G.kind V.2.2.2.2.1 (by kernel_rfl)) (Ed.eq ed_str e0) (by rw [List.length_singleton]; omega)) (ed_vs G.kind V.2.1 (by kernel_rfl)) (by omega) (by omega) ?_)
    (ed_sign (x := tx x) (n := (j : Int) - (p : Int)) (c := at' x (j - p)) (ed_vs G.kind V.2.2.2.2.1 (by kernel_rfl)) (ed_sub (ed_vs G.kind V.2.1 (by kernel_rfl)) (ed_vs G.kind V.1 (by kernel_rfl))) (by omega) (by omega) ?_) (c_ltw (x := [at' (x ++ [32]) j]) (y := [at' x (j - p)])) rfl) ?_) (fun h => ?_) (fun h => ?_)
  · have := at_get (x := x ++ [32]) (m := j) (by rw [List.length_append, List.length_singleton]; omega)
    simpa using this
  · have e : ((j : Int) - (p : Int)).toNat = j - p := by omega
    rw [e]
    have := at_get (x := x) (m := j - p) (by omega)
    simpa using this
  · exact sing_lt
  · rw [if_pos h]; exact ed_vs G.kind V.2.2.2.2.1 (by kernel_rfl)
  · rw [h]; exact ed_vs G.kind V.2.2.2.2.2.1 (by kernel_rfl)
/-- the roots -/
def rootsN (z : List Nat) (i j p : Nat) : List Nat := (List.range' (i + 1) (j - p + 1 - (i + 1))).filter fun k => firstB ((z.drop k).take p)
theorem roots_mem {z : List Nat} {i j p k : Nat} (h : k ∈ rootsN z i j p) (hpj : p ≤ j) : i + 1 ≤ k ∧ k + p ≤ j ∧ firstB ((z.drop k).take p) = true := by
  obtain ⟨h1, h2⟩ := List.mem_filter.mp h
  simp at h1
  exact ⟨by omega, by omega, h2⟩
theorem roots_len (z : List Nat) (i j p : Nat) : (rootsN z i j p).length ≤ j := by
  refine Nat.le_trans (List.length_filter_le _ _) ?_
  rw [List.length_range']
  omega
theorem m1 {x y z : List Nat} {O : List (Nat × Nat × Nat)} {i j p k : Nat} (B : Base w s₀) (ok : Ok k A) (hk18 : k ≤ 18) (X : Fm s₀ (lEnv L) s) (V : Vs (lEnv L) s.heap [vA z, vP p, vJ j, vI i, vO O, vD x, vY y]) (hz : z.length ≤ 100) (hj : j ≤ z.length) (hp : 0 < p) (hpj : p ≤ j)
    (q : ∀ s', Fm s₀ (lEnv L) s' → Vs (lEnv L) s'.heap [vK (rootsN z i j p), vA z, vP p, vJ j, vI i, vO O, vD x, vY y] → Ef [] s s' → Q .next s') (hi : i ≤ 100) : wpAny (model pw w) A (exec (lB 1) (lEnv L)) Q E s := by
  have G := lG L
  have hh := ok.handled
  have V' := V
  obtain ⟨⟨vz, bz, rz⟩, ⟨vp, bp, rp⟩, -⟩ := V'
  with_unfolding_all have hst : lB 1 = .Assign [.Name _ _] (.ListComp _ [⟨.Name _ _, _, _, 0⟩] _ _) _ := rfl
  refine as_comp (g := iD) (cl := [(Str.ofString "step", L + 3), (Str.ofString "face", L + 4)]) (fun k => firstB ((z.drop k).take p)) iD hst iD_inj (fun _ => rfl)
    (itr_range2 (a := i + 1) (b := j - p + 1) hh (ev_b B X G (by kernel_rfl) (gm_range _) (gb_range _) (by kernel_rfl)) ((ed_add (ed_vs G.kind V.2.2.2.1 (by kernel_rfl)) ed_int).eq (by push_cast; rfl)) ((ed_add (ed_sub (ed_vs G.kind V.2.2.1 (by kernel_rfl)) (ed_vs G.kind V.2.1 (by kernel_rfl))) ed_int).eq (congrArg PyData.int (by omega))) (by omega) (by omega) rfl rfl rfl)
    (by rw [List.length_range', sizeLine_eq]; omega)
    ⟨by kernel_rfl, by decide +kernel, by kernel_rfl, by decide +kernel, by kernel_rfl⟩ (fun env' v' a s₃ I k3 b r3 ha => ?_) (fun env' v' a s₃ I k3 b r3 ha _ => ?_) G.kind X V (by kernel_rfl) (by kernel_rfl) (by kernel_rfl) (by intro _; rfl) q
  · have Gi := I.gl G
    have B3 := B.hk (hk2 X.base k3)
    have ha' : a + p ≤ z.length ∧ i + 1 ≤ a := by simp at ha; omega
    have nK : ∀ {pos : Pos}, Ed w A env' s₃ (.Name (Str.ofString "k") pos) (iD a) := ed_name Gi.kind b r3 (by kernel_rfl)
    have nP : ∀ {pos : Pos}, Ed w A env' s₃ (.Name (Str.ofString "step") pos) (iD p) := ed_name Gi.kind (I.bd (c := L + 3) (bp.hk k3) (by kernel_rfl) (by kernel_rfl)) (rp.keep k3) (by kernel_rfl)
    refine tl_one (ts_plain (ed_first B3 ok (by omega) (ev_gl B3 Gi (I.kd (by kernel_rfl)) (g_first _) (by kernel_rfl)) (Ed.eq (ed_slices (x := z) (a := some (a : Int)) (b := some ((a + p : Nat) : Int)) (ed_name Gi.kind (I.bd (c := L + 4) (bz.hk k3) (by kernel_rfl) (by kernel_rfl)) (rz.keep k3) (by kernel_rfl)) (.some nK) (.some ((ed_add nK nP).eq (congrArg PyData.int (by omega)))) (by rw [sizeLine_eq]; omega) (by intro _ _; rfl)) ?_) (by rw [List.length_take]; omega) rfl rfl) rfl)
    rw [sl_run z a (a + p) (by omega) (by omega)]
    congr 4
    omega
  · exact ed_name (I.gl G).kind b r3 (by kernel_rfl)
/-- what the rests have to be -/
def restN (j p k : Nat) : List Nat := List.range (j - k - p + 1)
theorem m2 {x y z : List Nat} {O : List (Nat × Nat × Nat)} {i j p k : Nat} (B : Base w s₀) (ok : Ok k A) (hk18 : k ≤ 18) (X : Fm s₀ (lEnv L) s) (V : Vs (lEnv L) s.heap [vK (rootsN z i j p), vA z, vP p, vJ j, vI i, vO O, vD x, vY y]) (hz : z.length ≤ 100) (hj : j ≤ z.length) (hp : 0 < p) (hpj : p ≤ j)
    (hR : ∀ k ∈ rootsN z i j p, (tbl ((z.drop k).take (j - k))).drop (p - 1) = restN j p k)
    (q : ∀ s', Fm s₀ (lEnv L) s' → Vs (lEnv L) s'.heap [vE (rootsN z i j p) (restN j p), vK (rootsN z i j p), vA z, vP p, vJ j, vI i, vO O, vD x, vY y] → Ef [] s s' → Q .next s') : wpAny (model pw w) A (exec (lB 2) (lEnv L)) Q E s := by
  have G := lG L
  have hh := ok.handled
  have hl := roots_len z i j p
  have V' := V
  obtain ⟨⟨vk, bk, rk⟩, ⟨vz, bz, rz⟩, ⟨vp, bp, rp⟩, ⟨vj, bj, rj⟩, -⟩ := V'
  with_unfolding_all have hst : lB 2 = .Assign [.Name _ _] (.ListComp _ [⟨.Name _ _, _, _, 0⟩] _ _) _ := rfl
  refine as_rows (cl := [(Str.ofString "step", L + 3), (Str.ofString "high", L + 2), (Str.ofString "face", L + 4)]) (restN j p) hst (itr_var hh G.kind bk rk (by kernel_rfl)) (by omega)
    ⟨by kernel_rfl, by decide +kernel, by kernel_rfl, by decide +kernel, by kernel_rfl⟩ (fun env' v' a s₃ Q' E' I k3 b r3 ha qq => ?_) G.kind X V (by kernel_rfl) (by kernel_rfl) (by kernel_rfl) (by intro _; rfl) q
  have Gi := I.gl G
  have B3 := B.hk (hk2 X.base k3)
  obtain ⟨h1, h2, h3⟩ := roots_mem ha hpj
  have nK : ∀ {pos : Pos}, Ed w A env' s₃ (.Name (Str.ofString "k") pos) (iD a) := ed_name Gi.kind b r3 (by kernel_rfl)
  have nP : ∀ {pos : Pos}, Ed w A env' s₃ (.Name (Str.ofString "step") pos) (iD p) := ed_name Gi.kind (I.bd (c := L + 3) (bp.hk k3) (by kernel_rfl) (by kernel_rfl)) (rp.keep k3) (by kernel_rfl)
  have nJ : ∀ {pos : Pos}, Ed w A env' s₃ (.Name (Str.ofString "high") pos) (iD j) := ed_name Gi.kind (I.bd (c := L + 2) (bj.hk k3) (by kernel_rfl) (by kernel_rfl)) (rj.keep k3) (by kernel_rfl)
  have hlen : ((z.drop a).take (j - a)).length = j - a := by rw [List.length_take, List.length_drop]; omega
  refine q_slice (l := tbl ((z.drop a).take (j - a))) (a := some ((p - 1 : Nat) : Int)) (b := none)
    (ed_overlap B3 ok (by omega) (ev_gl B3 Gi (I.kd (by kernel_rfl)) (g_overlap _) (by kernel_rfl)) (Ed.eq (ed_slices (x := z) (a := some (a : Int)) (b := some (j : Int)) (ed_name Gi.kind (I.bd (c := L + 4) (bz.hk k3) (by kernel_rfl) (by kernel_rfl)) (rz.keep k3) (by kernel_rfl)) (.some nK) (.some nJ) (by rw [sizeLine_eq]; omega) (by intro _ _; rfl)) (by rw [sl_run z a j hj (by omega)])) (by rw [hlen]; omega) rfl rfl)
    (.some ((ed_sub nP ed_int).eq (congrArg PyData.int (by omega)))) .none (by rw [tbl_length, hlen]; omega) s₃ _ _ (hk_refl _) fun T its s'' k'' hT hl' hr => qq T its s'' k'' hT hl' fun h => ?_
  have := hr h
  rw [sl_from, hR a ha] at this
  exact this
theorem rows_iq (l : List Nat) (F : Nat → List Nat) : iqs (l.map fun k => PyData.list ((F k).map iD)) = true := iqs_map _ (fun k => by rw [iq]; exact iqs_map _ (fun _ => rfl) _) l
theorem rows_shp (l : List Nat) (F : Nat → List Nat) : SeqAt.shaped (rowsD l F) = true := shp (rows_iq l F) (dep_map _ (fun k => by
  rw [PyData.depth]
  have := depthAll_le (k := 0) (l := (F k).map iD) (fun d hd => by obtain ⟨n, _, rfl⟩ := List.mem_map.mp hd; exact Nat.le_refl _)
  omega) l)
theorem m3 {x y z : List Nat} {O : List (Nat × Nat × Nat)} {i j p k : Nat} (B : Base w s₀) (ok : Ok k A) (hk18 : k ≤ 18) (X : Fm s₀ (lEnv L) s) (V : Vs (lEnv L) s.heap [vE (rootsN z i j p) (restN j p), vK (rootsN z i j p), vA z, vP p, vJ j, vI i, vO O, vD x, vY y]) (hj : j ≤ 100) (hp : 0 < p) (hpj : p ≤ j)
    (hO : (i, j, p) ∈ O)
    (q : ∀ s', Fm s₀ (lEnv L) s' → Vs (lEnv L) s'.heap [vE (rootsN z i j p) (restN j p), vK (rootsN z i j p), vA z, vP p, vJ j, vI i, vO O, vD x, vY y] → Keeps s s' → Q .next s') : wpAny (model pw w) A (exec (lB 3) (lEnv L)) Q E s := by
  have G := lG L
  have hh := ok.handled
  have hLine := ok.line (by omega)
  have hl := roots_len z i j p
  have V' := V
  obtain ⟨-, ⟨vk, bk, rk⟩, -, ⟨vp, bp, rp⟩, ⟨vj, bj, rj⟩, -⟩ := V'
  with_unfolding_all have hst : lB 3 = .If _ _ [] _ := rfl
  refine if_no hst X V ?_ q
  refine (ts_or (x := false) (Ts.eq (ts_cmp (ed_tuple3 (ed_vs G.kind V.2.2.2.2.2.1 (by kernel_rfl)) (ed_vs G.kind V.2.2.2.2.1 (by kernel_rfl)) (ed_vs G.kind V.2.2.2.1 (by kernel_rfl)) rfl rfl rfl) (ed_vs G.kind V.2.2.2.2.2.2.1 (by kernel_rfl)) (c_notin (p := (i, j, p)) hLine) rfl) (by rw [decide_eq_true hO]; rfl))
    (fun _ => Ts.eq (ts_cmp (ed_vs G.kind V.1 (by kernel_rfl)) (ed_rows (cl := [(Str.ofString "step", L + 3), (Str.ofString "high", L + 2)]) (restN j p) (itr_var hh G.kind bk rk (by kernel_rfl)) (by omega)
      ⟨by kernel_rfl, by decide +kernel, by kernel_rfl, by decide +kernel, by kernel_rfl⟩ (fun env' v' a s₃ Q' E' I k3 b r3 ha qq => ?_) (by intro _; rfl)) (c_ne (rows_shp _ _) (rows_shp _ _) hLine) rfl) (b' := false) ?_)).eq rfl
  · have Gi := I.gl G
    have B3 := B.hk (hk2 X.base k3)
    obtain ⟨h1, h2, h3⟩ := roots_mem ha hpj
    have nK : ∀ {pos : Pos}, Ed w A env' s₃ (.Name (Str.ofString "k") pos) (iD a) := ed_name Gi.kind b r3 (by kernel_rfl)
    have nP : ∀ {pos : Pos}, Ed w A env' s₃ (.Name (Str.ofString "step") pos) (iD p) := ed_name Gi.kind (I.bd (c := L + 3) (bp.hk k3) (by kernel_rfl) (by kernel_rfl)) (rp.keep k3) (by kernel_rfl)
    have nJ : ∀ {pos : Pos}, Ed w A env' s₃ (.Name (Str.ofString "high") pos) (iD j) := ed_name Gi.kind (I.bd (c := L + 2) (bj.hk k3) (by kernel_rfl) (by kernel_rfl)) (rj.keep k3) (by kernel_rfl)
    refine q_list_range1 (b := j - a - p + 1) hh (ev_bl B3 Gi (I.kd (by kernel_rfl)) (gm_list _) (gb_list _) (by kernel_rfl)) (ev_bl B3 Gi (I.kd (by kernel_rfl)) (gm_range _) (gb_range _) (by kernel_rfl)) ((ed_add (ed_sub (ed_sub nJ nK) nP) ed_int).eq (congrArg PyData.int (by omega))) (by omega) s₃ _ _ (hk_refl _) (fun T vs s₂ k2 hT hl' hr => qq T vs s₂ k2 hT hl' fun h => ?_) rfl rfl rfl rfl
    have := hr h
    unfold restN
    rw [List.range_eq_range']
    exact this
  · have e : PyData.eqv (rowsD (rootsN z i j p) (restN j p)) (rowsD (rootsN z i j p) (restN j p)) = true := (iq_eqv (by rw [iq]; exact rows_iq _ _) (by rw [iq]; exact rows_iq _ _)).mpr rfl
    rw [e]
    rfl
end
end
end Mine
end
noncomputable section
open PySem PySem.W PyProof.Rows
set_option Elab.async false
set_option maxRecDepth 100000
namespace Mine

theorem upd_at {h : Heap} {a : Addr} {o : Obj} (f : Obj → Obj) (ho : h.get? a = some o) : h.update a f = h.update a (fun _ => f o) := by
  obtain ⟨objs, l⟩ := h
  have e : objs[a]? = some o := by
    simp only [Heap.get?] at ho
    split at ho
    · cases ho
    · exact ho
  simp only [Heap.update, Heap.mk.injEq, and_true]
  apply Array.ext_getElem?
  intro i
  rw [Array.getElem?_modify, Array.getElem?_modify]
  by_cases hi : a = i
  · subst hi; simp [e]
  · simp [hi]
theorem upd_upd (h : Heap) (a : Addr) (f g : Obj → Obj) : (h.update a f).update a g = h.update a (fun o => g (f o)) := by
  obtain ⟨objs, l⟩ := h
  simp only [Heap.update, Heap.mk.injEq, and_true]
  apply Array.ext_getElem?
  intro i
  rw [Array.getElem?_modify, Array.getElem?_modify, Array.getElem?_modify]
  by_cases hi : a = i
  · subst hi; cases objs[a]? <;> simp
  · simp [hi]
theorem push_upd (h : Heap) (o o' : Obj) : (h.push o).update h.objs.size (fun _ => o') = h.push o' := by
  obtain ⟨objs, l⟩ := h
  simp only [Heap.update, Heap.push, Heap.mk.injEq, and_true]
  apply Array.ext_getElem?
  intro i
  rw [Array.getElem?_modify, Array.getElem?_push, Array.getElem?_push]
  by_cases hi : objs.size = i
  · subst hi; simp
  · have hi' : ¬ i = objs.size := fun e => hi e.symm
    simp [hi, hi']

theorem get_upd {h : Heap} {a : Addr} {o o' : Obj} (ho : h.get? a = some o) (hf : o'.isFreed = false) : (h.update a fun _ => o').get? a = some o' := Heap.get?_update_self _ ho hf

section
variable {prog : Program} {w : World} {A : Around} {E : Value → Shared → Prop} {s : Shared}

def NoKey (k : Int) (es : List DictEntry) : Prop := ∀ e ∈ es, Value.isInt k e.key = false
theorem NoKey.find {k : Int} {es : List DictEntry} (h : NoKey k es) : (es.toArray.findIdx? fun e => Value.isInt k e.key) = none := by
  rw [Array.findIdx?_eq_none_iff]
  intro e he
  exact h e (by simpa using he)

theorem dict_grown (es : List DictEntry) (e : DictEntry) : (dictO es).mapDictKeys (·.push e) = dictO (es ++ [e]) := by
  simp [dictO, Obj.mapDictKeys]

theorem dset {d : Addr} {es : List DictEntry} {k : Int} {t : Tok} {v : Value} {Q : Unit → Shared → Prop} (hd : s.heap.get? d = some (dictO es)) (hk : PySem.IntKeys es.toArray) (hn : NoKey k es) (hz : es.length ≤ sizeLine)
    (h : Q () { s with heap := s.heap.update d (fun _ => dictO (es ++ [⟨hashInt k, .int k t, v⟩])), toks := s.toks + 1 }) : wpAny (model prog w) A (dictSet d (.int k t) v) Q E s := by
  unfold dictSet
  refine wpAny_holding (wpAny_bind (wpAny_pyHash_int ?_))
  unfold dictSetHashed
  refine wpAny_holding (wpAny_bind (wpAny_dictFind_int hd rfl hk ?_))
  rw [hn.find]
  refine wpAny_bind (wpAny_rule (wpAny_updateDictKeysTo hd rfl ?_ (by simp; omega)))
  have e := upd_at (Obj.mapDictKeys (·.push ⟨hashInt k, .int k t, v⟩)) hd
  rw [dict_grown] at e
  dsimp only at e ⊢
  rw [e]
  exact h

theorem dput {d : Addr} {es : List DictEntry} {k : Int} {t : Tok} {v : Value} {Q : Unit → Shared → Prop} (hd : s.heap.get? d = some (dictO es)) (hk : PySem.IntKeys es.toArray) (hn : NoKey k es) (hz : es.length ≤ sizeLine)
    (h : Q () { s with heap := s.heap.update d (fun _ => dictO (es ++ [⟨hashInt k, .int k t, v⟩])) }) : wpAny (model prog w) A (dictPut d (hashInt k) (.int k t) v) Q E s := by
  unfold dictPut
  refine wpAny_bind (wpAny_dictFind_int hd rfl hk ?_)
  rw [hn.find]
  refine wpAny_updateDictKeysTo hd rfl ?_ (by simp; omega)
  have e := upd_at (Obj.mapDictKeys (·.push ⟨hashInt k, .int k t, v⟩)) hd
  rw [dict_grown] at e
  rw [e]
  exact h

abbrev pairT (pos : Pos) (p : Int × Str) : Sem Value × Sem Value := (mkInt p.1, do let x ← mkText p.2; standAt pos; pure x)
noncomputable def Fresh : List (Int × Str) → Prop
  | [] => True
  | p :: r => (∀ q ∈ r, q.1 ≠ p.1) ∧ Fresh r

theorem intKeys_snoc {es : List DictEntry} {k : Int} {t : Tok} {v : Value} (hk : PySem.IntKeys es.toArray) : PySem.IntKeys (es ++ [(⟨hashInt k, .int k t, v⟩ : DictEntry)]).toArray := by
  intro e he
  have he : e ∈ es ++ [⟨hashInt k, .int k t, v⟩] := by simpa using he
  rcases List.mem_append.mp he with he | he
  · exact hk e (by simpa using he)
  · rw [List.mem_singleton.mp he]; exact ⟨k, t, rfl, rfl⟩
theorem noKey_snoc {es : List DictEntry} {k k' : Int} {t : Tok} {v : Value} (hn : NoKey k es) (hk : k' ≠ k) : NoKey k (es ++ [⟨hashInt k', .int k' t, v⟩]) := by
  intro e he
  rcases List.mem_append.mp he with he | he
  · exact hn e he
  · rw [List.mem_singleton.mp he]; show (k' == k) = false; simpa using hk

theorem intKeys_ents (d : Nat) : ∀ (l : List (Int × Str)) (t : Nat), PySem.IntKeys (entsOf d t l).toArray
  | [], _ => fun e he => by simp [entsOf] at he
  | (k, v) :: r, t => fun e he => by
    have he : e ∈ entsOf d t ((k, v) :: r) := by simpa using he
    rcases List.mem_cons.mp he with rfl | he
    · exact ⟨k, t, rfl, rfl⟩
    · exact intKeys_ents d r (t + d) e (by simpa using he)
theorem ents_length (d : Nat) : ∀ (l : List (Int × Str)) (t : Nat), (entsOf d t l).length = l.length
  | [], _ => rfl
  | (k, v) :: r, t => by simp [entsOf, ents_length d r]
theorem noKey_ents {d : Nat} {k : Int} : ∀ (l : List (Int × Str)) (t : Nat), (∀ q ∈ l, q.1 ≠ k) → NoKey k (entsOf d t l)
  | [], _, _ => fun e he => by simp [entsOf] at he
  | (k', v) :: r, t, h => fun e he => by
    rcases List.mem_cons.mp he with rfl | he
    · have := h (k', v) List.mem_cons_self; show (k' == k) = false; simpa using this
    · exact noKey_ents r (t + d) (fun q hq => h q (List.mem_cons_of_mem _ hq)) e he

/-- the long sub-dict's loop -/
theorem long_loop {d : Addr} {pos : Pos} (f : Sem Value × Sem Value → PUnit → Sem (ForInStep PUnit))
    (hf : ∀ p u, f p u = (do let kv ← p.1; let vv ← holding [kv] p.2; holding [kv, vv] (dictSet d kv vv); pure (ForInStep.yield PUnit.unit))) :
    ∀ (l : List (Int × Str)) (es : List DictEntry) (s : Shared) (Q : PUnit → Shared → Prop), s.heap.get? d = some (dictO es) → PySem.IntKeys es.toArray → (∀ p ∈ l, NoKey p.1 es) → Fresh l → es.length + l.length ≤ sizeLine →
      Q PUnit.unit { s with heap := s.heap.update d (fun _ => dictO (es ++ entsOf 3 s.toks l)), toks := s.toks + 3 * l.length } →
      wpAny (model prog w) A (forIn (l.map (pairT pos)) PUnit.unit f) Q E s
  | [], es, s, Q, hd, _, _, _, _, h => by
    rw [List.map_nil, List.forIn_nil]
    refine wpAny_pure ?_
    have e : s.heap.update d (fun _ => dictO (es ++ entsOf 3 s.toks [])) = s.heap := by
      have := upd_at (fun o => o) hd
      simp only [entsOf, List.append_nil]
      rw [← this]
      obtain ⟨⟨objs, l⟩, _, _, _, _⟩ := s
      simp only [Heap.update, Heap.mk.injEq, and_true]
      apply Array.ext_getElem?
      intro i
      rw [Array.getElem?_modify]
      split
      · cases objs[i]? <;> rfl
      · rfl
    rw [e] at h
    exact h
  | (k, v) :: r, es, s, Q, hd, hk, hn, hf', hz, h => by
    rw [List.map_cons, List.forIn_cons, hf]
    rw [List.length_cons] at hz
    refine wpAny_bind (wpAny_bind (wpAny_mkInt (wpAny_bind (wpAny_holding (wpAny_bind (wpAny_mkText (wpAny_bind (wpAny_standAt (wpAny_pure ?_)))))))))
    refine wpAny_bind (wpAny_holding (dset (es := es) hd hk (hn _ List.mem_cons_self) (by omega) (wpAny_pure ?_)))
    refine long_loop f hf r (es ++ [⟨hashInt k, .int k s.toks, .str v (s.toks + 1)⟩]) _ Q (get_upd hd rfl) (intKeys_snoc hk) (fun p hp => noKey_snoc (hn p (List.mem_cons_of_mem _ hp)) (hf'.1 p hp).symm) hf'.2 (by simp; omega) ?_
    dsimp only
    rw [upd_upd, List.append_assoc, show s.toks + 1 + 1 + 1 = s.toks + 3 by omega, show s.toks + 3 + 3 * r.length = s.toks + 3 * (r.length + 1) by omega]
    exact h

theorem long_sub {pos : Pos} {l : List (Int × Str)} {Q : Addr → Shared → Prop} (hl : ¬ l.length ≤ 15) (hf : Fresh l) (hz : l.length ≤ sizeLine)
    (h : Q s.heap.objs.size { s with heap := s.heap.push (dictO (entsOf 3 s.toks l)), toks := s.toks + 3 * l.length }) : wpAny (model prog w) A (subDict (l.map (pairT pos))) Q E s := by
  unfold subDict
  refine wpAny_bind (wpAny_alloc ?_)
  refine wpAny_bind (wpAny_holding ?_)
  rw [List.length_map, if_neg hl]
  refine wpAny_bind (wpAny_rule ?_)
  have hg : (s.heap.push { cls := .type "dict", data := .dict #[] }).get? s.heap.objs.size = some (dictO []) := Heap.get?_push_size _ rfl
  refine wpAny_bind (long_loop (d := s.heap.objs.size) (pos := pos) _ (fun p u => rfl) l [] { s with heap := s.heap.push { cls := .type "dict", data := .dict #[] } } _ hg (fun e he => by simp at he) (fun p hp e he => by simp at he) hf (by simpa using hz) ?_)
  refine wpAny_pure (wpAny_pure ?_)
  dsimp only
  rw [push_upd, List.nil_append]
  exact h

/-- the short one: all pairs first, then the stores -/
theorem short_pairs {pos : Pos} : ∀ (l : List (Int × Str)) (s : Shared) (Q : List (Value × Value) → Shared → Prop),
    Q ((entsOf 2 s.toks l).map fun e => (e.key, e.val)) { s with toks := s.toks + 2 * l.length } → wpAny (model prog w) A (evalPairs (l.map (pairT pos))) Q E s
  | [], s, Q, h => evalPairs_nil h
  | (k, v) :: r, s, Q, h => by
    rw [List.map_cons]
    refine evalPairs_cons (wpAny_mkInt (wpAny_bind (wpAny_mkText (wpAny_bind (wpAny_standAt (wpAny_pure ?_))))))
    refine short_pairs r _ _ ?_
    dsimp only
    rw [show s.toks + 1 + 1 = s.toks + 2 by omega, show s.toks + 2 + 2 * r.length = s.toks + 2 * (r.length + 1) by omega]
    exact h
theorem short_loop {d : Addr} (f : Value × Value → PUnit → Sem (ForInStep PUnit)) (hf : ∀ p u, f p u = (do dictSet d p.1 p.2; pure (ForInStep.yield PUnit.unit))) :
    ∀ (l : List (Int × Str)) (tk : Nat) (es : List DictEntry) (s : Shared) (Q : PUnit → Shared → Prop), s.heap.get? d = some (dictO es) → PySem.IntKeys es.toArray → (∀ p ∈ l, NoKey p.1 es) → Fresh l → es.length + l.length ≤ sizeLine →
      Q PUnit.unit { s with heap := s.heap.update d (fun _ => dictO (es ++ entsOf 2 tk l)), toks := s.toks + l.length } →
      wpAny (model prog w) A (forIn ((entsOf 2 tk l).map fun e => (e.key, e.val)) PUnit.unit f) Q E s
  | [], tk, es, s, Q, hd, _, _, _, _, h => by
    rw [entsOf, List.map_nil, List.forIn_nil]
    refine wpAny_pure ?_
    have e : s.heap.update d (fun _ => dictO (es ++ entsOf 2 tk [])) = s.heap := by
      have := upd_at (fun o => o) hd
      simp only [entsOf, List.append_nil]
      rw [← this]
      obtain ⟨⟨objs, l⟩, _, _, _, _⟩ := s
      simp only [Heap.update, Heap.mk.injEq, and_true]
      apply Array.ext_getElem?
      intro i
      rw [Array.getElem?_modify]
      split
      · cases objs[i]? <;> rfl
      · rfl
    rw [e] at h
    exact h
  | (k, v) :: r, tk, es, s, Q, hd, hk, hn, hf', hz, h => by
    rw [entsOf, List.map_cons, List.forIn_cons, hf]
    rw [List.length_cons] at hz
    refine wpAny_bind (wpAny_bind (dset (es := es) hd hk (hn _ List.mem_cons_self) (by omega) (wpAny_pure ?_)))
    refine short_loop f hf r (tk + 2) (es ++ [⟨hashInt k, .int k tk, .str v (tk + 1)⟩]) _ Q (get_upd hd rfl) (intKeys_snoc hk) (fun p hp => noKey_snoc (hn p (List.mem_cons_of_mem _ hp)) (hf'.1 p hp).symm) hf'.2 (by simp; omega) ?_
    dsimp only
    rw [upd_upd, List.append_assoc, show s.toks + 1 + r.length = s.toks + (r.length + 1) by omega]
    exact h
theorem short_sub {pos : Pos} {l : List (Int × Str)} {Q : Addr → Shared → Prop} (hl : l.length ≤ 15) (hf : Fresh l)
    (h : Q s.heap.objs.size { s with heap := s.heap.push (dictO (entsOf 2 s.toks l)), toks := s.toks + 3 * l.length }) : wpAny (model prog w) A (subDict (l.map (pairT pos))) Q E s := by
  unfold subDict
  refine wpAny_bind (wpAny_alloc ?_)
  refine wpAny_bind (wpAny_holding ?_)
  rw [List.length_map, if_pos hl]
  refine wpAny_bind (short_pairs (pos := pos) l _ _ ?_)
  have hg : (s.heap.push { cls := .type "dict", data := .dict #[] }).get? s.heap.objs.size = some (dictO []) := Heap.get?_push_size _ rfl
  refine wpAny_holding ?_
  refine wpAny_bind (short_loop (d := s.heap.objs.size) _ (fun p u => rfl) l s.toks [] { s with heap := s.heap.push { cls := .type "dict", data := .dict #[] }, toks := s.toks + 2 * l.length } _ hg (fun e he => by simp at he) (fun p hp e he => by simp at he) hf
    (by rw [sizeLine_eq]; simp; omega) ?_)
  refine wpAny_pure (wpAny_pure ?_)
  dsimp only
  rw [push_upd, List.nil_append, show s.toks + 2 * l.length + l.length = s.toks + 3 * l.length by omega]
  exact h

theorem dict_is_dict : isSubtype (.type "dict") (.type "dict") = pure true := by rw [isSubtype_type]; kernel_rfl
theorem dict_iter_slot : typeLookup (.type "dict") "__iter__" = pure (some (.builtin "dict.__iter__")) := by rw [typeLookup_type, builtinLookup_eq_fast]; kernel_rfl

def IntEnt (e : DictEntry) : Prop := ∃ k t v, e = ⟨hashInt k, .int k t, v⟩
theorem intEnt_ents (d : Nat) : ∀ (l : List (Int × Str)) (t : Nat), ∀ e ∈ entsOf d t l, IntEnt e
  | [], _, e, he => by simp [entsOf] at he
  | (k, v) :: r, t, e, he => by
    rcases List.mem_cons.mp he with rfl | he
    · exact ⟨k, t, _, rfl⟩
    · exact intEnt_ents d r (t + d) e he
/-- no two of the same key, and none of them in es -/
noncomputable def Apart (es : List DictEntry) : List DictEntry → Prop
  | [] => True
  | e :: r => (∀ k t v, e = ⟨hashInt k, .int k t, v⟩ → NoKey k es) ∧ Apart (es ++ [e]) r
theorem apart_ents {d : Nat} : ∀ (l : List (Int × Str)) (t : Nat) (es : List DictEntry), Fresh l → (∀ p ∈ l, NoKey p.1 es) → Apart es (entsOf d t l)
  | [], _, _, _, _ => trivial
  | (k, v) :: r, t, es, hf, hn => ⟨fun k' t' v' e => by
      have : k' = k := by
        have := congrArg DictEntry.key e
        injection this with h1
        exact h1.symm
      subst this
      exact hn _ List.mem_cons_self, apart_ents r (t + d) _ hf.2 fun p hp => noKey_snoc (hn p (List.mem_cons_of_mem _ hp)) (hf.1 p hp).symm⟩

theorem merge_loop {d sub : Addr} (f : Nat → PUnit → Sem (ForInStep PUnit)) {cs : List DictEntry}
    (hf : ∀ i u e (s : Shared) (R : ForInStep PUnit → Shared → Prop), s.heap.get? sub = some (dictO cs) → cs[i]? = some e →
      wpAny (model prog w) A (dictPut d e.hash e.key e.val) (fun _ s₂ => s₂.heap.get? sub = some (dictO cs) ∧ R (.yield PUnit.unit) s₂) E s → wpAny (model prog w) A (f i u) R E s)
    (hne : sub ≠ d) (hc : ∀ e ∈ cs, IntEnt e) (Q : PUnit → Shared → Prop) :
    ∀ (n i : Nat) (es : List DictEntry) (s : Shared), i + n = cs.length → s.heap.get? d = some (dictO es) → s.heap.get? sub = some (dictO cs) → PySem.IntKeys es.toArray → Apart es (cs.drop i) → es.length + n ≤ sizeLine →
      Q PUnit.unit { s with heap := s.heap.update d (fun _ => dictO (es ++ cs.drop i)) } →
      wpAny (model prog w) A (forIn (List.range' i n) PUnit.unit f) Q E s
  | 0, i, es, s, hi, hd, hs, hk, ha, hz, h => by
    rw [List.range'_zero, List.forIn_nil]
    refine wpAny_pure ?_
    have e : s.heap.update d (fun _ => dictO (es ++ cs.drop i)) = s.heap := by
      have := upd_at (fun o => o) hd
      rw [List.drop_of_length_le (by omega), List.append_nil, ← this]
      obtain ⟨⟨objs, l⟩, _, _, _, _⟩ := s
      simp only [Heap.update, Heap.mk.injEq, and_true]
      apply Array.ext_getElem?
      intro i
      rw [Array.getElem?_modify]
      split
      · cases objs[i]? <;> rfl
      · rfl
    rw [e] at h
    exact h
  | n + 1, i, es, s, hi, hd, hs, hk, ha, hz, h => by
    rw [List.range'_succ, List.forIn_cons]
    have hlt : i < cs.length := by omega
    obtain ⟨k, t, v, hx⟩ := hc cs[i] (List.getElem_mem hlt)
    have hdrop : cs.drop i = ⟨hashInt k, .int k t, v⟩ :: cs.drop (i + 1) := by rw [← hx]; exact List.drop_eq_getElem_cons hlt
    rw [hdrop] at ha h
    have hget : cs[i]? = some ⟨hashInt k, .int k t, v⟩ := by rw [← hx]; simp [hlt]
    have hs' : (s.heap.update d fun _ => dictO (es ++ [⟨hashInt k, .int k t, v⟩])).get? sub = some (dictO cs) := (Heap.get?_update_ne _ _ _ _ hne).trans hs
    refine wpAny_bind (hf i _ _ s _ hs hget (dput hd hk (ha.1 k t v rfl) (by omega) ⟨hs', ?_⟩))
    dsimp only
    refine merge_loop f hf hne hc Q n (i + 1) (es ++ [⟨hashInt k, .int k t, v⟩]) _ (by omega) (get_upd hd rfl) hs' (intKeys_snoc hk) ha.2 (by simp; omega) ?_
    dsimp only
    rw [upd_upd, List.append_assoc]
    exact h

theorem merge {d sub : Addr} {es cs : List DictEntry} {Q : Unit → Shared → Prop} (hd : s.heap.get? d = some (dictO es)) (hs : s.heap.get? sub = some (dictO cs)) (hne : sub ≠ d) (hsys : (sub == sysModules) = false) (h0 : es ≠ [])
    (hk : PySem.IntKeys es.toArray) (hc : ∀ e ∈ cs, IntEnt e) (ha : Apart es cs) (hz : es.length + cs.length ≤ sizeLine)
    (h : Q () { s with heap := s.heap.update d (fun _ => dictO (es ++ cs)) }) : wpAny (model prog w) A (mergeMapping d (.ref sub) false) Q E s := by
  have hT : s.TypeIs (.ref sub) "dict" := ⟨_, hs, rfl⟩
  unfold mergeMapping
  refine wpAny_bind (wpAny_isInstance hT dict_is_dict ?_)
  rw [if_pos rfl]
  refine wpAny_bind (wpAny_specialOf hT dict_iter_slot (wpAny_bind (wpAny_pure ?_)))
  rw [show (some (Value.builtin "dict.__iter__") == some (Value.builtin "dict.__iter__")) = true from beq_self_eq_true _]
  dsimp only
  rw [if_neg (by rw [hsys]; exact Bool.false_ne_true)]
  refine wpAny_bind (wpAny_dictEntries hd rfl ?_)
  rw [if_neg (by simp [h0])]
  refine wpAny_bind (wpAny_dictEntries hs rfl ?_)
  refine wpAny_bind (wpAny_dictEpoch hs rfl ?_)
  rw [show cs.toArray.size = cs.length from List.size_toArray, List.range_eq_range']
  refine wpAny_bind (merge_loop (d := d) (sub := sub) (cs := cs) _ (fun i u e s' R hs' hi hp => ?_) hne hc _ cs.length 0 es s (by omega) hd hs hk (by simpa using ha) hz (wpAny_pure ?_))
  · refine wpAny_bind (wpAny_dictEntries hs' rfl ?_)
    rw [show (cs.toArray)[i]? = some e by simpa using hi]
    dsimp only
    rw [if_neg (by simp)]
    refine wpAny_bind (wpAny_holding (wpAny_mono hp (fun _ s₂ h₂ => ?_) fun _ _ e => e))
    refine wpAny_bind (wpAny_dictEpoch h₂.1 rfl ?_)
    rw [if_neg (by simp)]
    exact wpAny_pure h₂.2
  · rw [List.drop_zero]
    exact h

/-- gathering up to the seventeenth pair -/
theorem gather {pos : Pos} {σ : Type} (mk : Option Addr → List (Sem Value × Sem Value) → σ) (flush : List (Sem Value × Sem Value) → Option Addr → Sem (Option Addr))
    (f : (Option (Sem Value) × Sem Value) → σ → Sem (ForInStep σ))
    (h1 : ∀ (p : Sem Value × Sem Value) m run, run.length + 1 < 17 → f (some p.1, p.2) (mk m run) = pure (.yield (mk m (run ++ [p]))))
    (h2 : ∀ (p : Sem Value × Sem Value) m run, run.length + 1 = 17 → f (some p.1, p.2) (mk m run) = (do let m' ← flush (run ++ [p]) m; pure (.yield (mk m' [])))) (rest : List (Option (Sem Value) × Sem Value)) (m : Option Addr) :
    ∀ (l : List (Int × Str)) (run : List (Sem Value × Sem Value)), l ≠ [] → run.length + l.length = 17 →
      forIn (l.map (fun p => (some (pairT pos p).1, (pairT pos p).2)) ++ rest) (mk m run) f = (do let m' ← flush (run ++ l.map (pairT pos)) m; forIn rest (mk m' []) f)
  | [], _, h, _ => absurd rfl h
  | [p], run, _, hl => by
    rw [List.map_cons, List.map_nil, List.singleton_append, List.forIn_cons, h2 (pairT pos p) m run (by simpa using hl), bind_assoc]
    simp
  | p :: q :: r, run, _, hl => by
    rw [List.map_cons, List.cons_append, List.forIn_cons, h1 (pairT pos p) m run (by simp at hl; omega), pure_bind]
    dsimp only
    rw [gather mk flush f h1 h2 rest m (q :: r) (run ++ [pairT pos p]) (by simp) (by simp at hl ⊢; omega)]
    simp
theorem gather_rest {pos : Pos} {σ : Type} (mk : Option Addr → List (Sem Value × Sem Value) → σ)
    (f : (Option (Sem Value) × Sem Value) → σ → Sem (ForInStep σ))
    (h1 : ∀ (p : Sem Value × Sem Value) m run, run.length + 1 < 17 → f (some p.1, p.2) (mk m run) = pure (.yield (mk m (run ++ [p])))) (m : Option Addr) :
    ∀ (l : List (Int × Str)) (run : List (Sem Value × Sem Value)), run.length + l.length < 17 →
      forIn (l.map (fun p => (some (pairT pos p).1, (pairT pos p).2))) (mk m run) f = pure (mk m (run ++ l.map (pairT pos)))
  | [], run, _ => by simp
  | p :: r, run, hl => by
    rw [List.map_cons, List.forIn_cons, h1 (pairT pos p) m run (by simp at hl; omega), pure_bind]
    dsimp only
    rw [gather_rest mk f h1 m r (run ++ [pairT pos p]) (by simp at hl ⊢; omega)]
    simp

def flushT (run : List (Sem Value × Sem Value)) (main : Option Addr) : Sem (Option Addr) :=
  if run.isEmpty = true then pure main else match main with
    | none => do let d ← subDict run; pure (some d)
    | some d => do
      let sub ← holding [Value.ref d] (subDict run)
      (holding [Value.ref d, Value.ref sub] (mergeMapping d (Value.ref sub) false)).onRaise fun x => do
        let _ ← holding [Value.ref d, x] (runValue (Code.builtin "proto.let_go" { }))
        pure ()
      pure (some d)

theorem fresh_app : ∀ {a b : List (Int × Str)}, Fresh (a ++ b) → Fresh a ∧ Fresh b ∧ ∀ p ∈ a, ∀ q ∈ b, q.1 ≠ p.1
  | [], _, h => ⟨trivial, h, fun _ hp => nomatch hp⟩
  | p :: r, b, h => by
    obtain ⟨h1, h2⟩ := h
    obtain ⟨a1, a2, a3⟩ := fresh_app h2
    refine ⟨⟨fun q hq => h1 q (List.mem_append_left _ hq), a1⟩, a2, fun p' hp q hq => ?_⟩
    rcases List.mem_cons.mp hp with rfl | hp
    · exact h1 q (List.mem_append_right _ hq)
    · exact a3 p' hp q hq

theorem flush_first {pos : Pos} {c : List (Int × Str)} {Q : Option Addr → Shared → Prop} (hl : c.length = 17) (hf : Fresh c)
    (h : Q (some s.heap.objs.size) { s with heap := s.heap.push (dictO (entsOf 3 s.toks c)), toks := s.toks + 3 * c.length }) : wpAny (model prog w) A (flushT (c.map (pairT pos)) none) Q E s := by
  unfold flushT
  rw [if_neg (by cases c <;> simp at hl ⊢)]
  exact wpAny_bind (long_sub (by omega) hf (by rw [sizeLine_eq]; omega) (wpAny_pure h))

theorem flush_next {pos : Pos} {c : List (Int × Str)} {d : Addr} {es new : List DictEntry} {Q : Option Addr → Shared → Prop} (h0 : c ≠ [])
    (hnew : (c.length = 17 ∧ new = entsOf 3 s.toks c) ∨ (c.length ≤ 15 ∧ new = entsOf 2 s.toks c)) (hf : Fresh c) (hd : s.heap.get? d = some (dictO es)) (hes : es ≠ []) (hsz : (s.heap.objs.size == sysModules) = false)
    (hk : PySem.IntKeys es.toArray) (hn : ∀ p ∈ c, NoKey p.1 es) (hz : es.length + c.length ≤ sizeLine)
    (h : Q (some d) { s with heap := (s.heap.push (dictO new)).update d (fun _ => dictO (es ++ new)), toks := s.toks + 3 * c.length }) : wpAny (model prog w) A (flushT (c.map (pairT pos)) (some d)) Q E s := by
  have hlt : d < s.heap.objs.size := Heap.lt_size hd
  unfold flushT
  rw [if_neg (by cases c <;> simp at h0 ⊢)]
  have hd' : (s.heap.push (dictO new)).get? d = some (dictO es) := Heap.get?_push_of_some _ hd
  have hs' : (s.heap.push (dictO new)).get? s.heap.objs.size = some (dictO new) := Heap.get?_push_size _ rfl
  have hne : s.heap.objs.size ≠ d := Nat.ne_of_gt hlt
  have key : wpAny (model prog w) A (subDict (c.map (pairT pos))) (fun sub s₁ => sub = s.heap.objs.size ∧ s₁ = { s with heap := s.heap.push (dictO new), toks := s.toks + 3 * c.length }) E s := by
    rcases hnew with ⟨hl, rfl⟩ | ⟨hl, rfl⟩
    · exact long_sub (by omega) hf (by rw [sizeLine_eq]; omega) ⟨rfl, rfl⟩
    · exact short_sub hl hf ⟨rfl, rfl⟩
  have hin : ∀ e ∈ new, IntEnt e := by
    rcases hnew with ⟨_, rfl⟩ | ⟨_, rfl⟩ <;> exact intEnt_ents _ _ _
  have hap : Apart es new := by
    rcases hnew with ⟨_, rfl⟩ | ⟨_, rfl⟩ <;> exact apart_ents _ _ _ hf hn
  have hln : new.length = c.length := by
    rcases hnew with ⟨_, rfl⟩ | ⟨_, rfl⟩ <;> exact ents_length _ _ _
  refine wpAny_bind (wpAny_holding (wpAny_mono key (fun sub s₁ h₁ => ?_) fun _ _ e => e))
  obtain ⟨rfl, rfl⟩ := h₁
  refine wpAny_bind (wpAny_onRaise (wpAny_holding (merge hd' hs' hne hsz hes hk hin hap (by rw [hln]; exact hz) (wpAny_pure h))))

/-- what the display leaves behind the first seventeen -/
noncomputable def dispEnd (d : Addr) : Heap → Nat → List DictEntry → List (List (Int × Str)) → List (Int × Str) → Heap × Nat
  | h, t, es, [], last => ((h.push (dictO (entsOf 2 t last))).update d (fun _ => dictO (es ++ entsOf 2 t last)), t + 3 * last.length)
  | h, t, es, c :: cs, last => dispEnd d ((h.push (dictO (entsOf 3 t c))).update d (fun _ => dictO (es ++ entsOf 3 t c))) (t + 3 * c.length) (es ++ entsOf 3 t c) cs last

theorem intKeys_app {es : List DictEntry} (d t : Nat) (l : List (Int × Str)) (hk : PySem.IntKeys es.toArray) : PySem.IntKeys (es ++ entsOf d t l).toArray := by
  intro e he
  have he : e ∈ es ++ entsOf d t l := by simpa using he
  rcases List.mem_append.mp he with he | he
  · exact hk e (by simpa using he)
  · exact intKeys_ents d l t e (by simpa using he)
theorem noKey_app {es : List DictEntry} {k : Int} (d t : Nat) (l : List (Int × Str)) (hn : NoKey k es) (hl : ∀ q ∈ l, q.1 ≠ k) : NoKey k (es ++ entsOf d t l) := by
  intro e he
  rcases List.mem_append.mp he with he | he
  · exact hn e he
  · exact noKey_ents l t hl e he

theorem size_upd (h : Heap) (a : Addr) (f : Obj → Obj) : (h.update a f).objs.size = h.objs.size := by
  obtain ⟨objs, l⟩ := h
  simp [Heap.update]

theorem disp_rest {pos : Pos} {last : List (Int × Str)} {d : Addr} {Q : Value → Shared → Prop} (h0 : last ≠ []) (h15 : last.length ≤ 15)
    (f : (Option (Sem Value) × Sem Value) → (Option Addr × List (Sem Value × Sem Value)) → Sem (ForInStep (Option Addr × List (Sem Value × Sem Value))))
    (h1 : ∀ (p : Sem Value × Sem Value) m run, run.length + 1 < 17 → f (some p.1, p.2) (m, run) = pure (.yield (m, (run ++ [p]))))
    (h2 : ∀ (p : Sem Value × Sem Value) m run, run.length + 1 = 17 → f (some p.1, p.2) (m, run) = (do let m' ← flushT (run ++ [p]) m; pure (.yield (m', [])))) :
    ∀ (cs : List (List (Int × Str))) (es : List DictEntry) (s : Shared), (∀ c ∈ cs, c.length = 17) → Fresh (cs.flatten ++ last) → (∀ p ∈ cs.flatten ++ last, NoKey p.1 es) → PySem.IntKeys es.toArray → es ≠ [] →
      s.heap.get? d = some (dictO es) → sysModules < s.heap.objs.size → es.length + (cs.flatten ++ last).length ≤ sizeLine →
      Q (.ref d) { s with heap := (dispEnd d s.heap s.toks es cs last).1, toks := (dispEnd d s.heap s.toks es cs last).2 } →
      wpAny (model prog w) A (do
        let r ← forIn ((cs.flatten ++ last).map (fun p => (some (pairT pos p).1, (pairT pos p).2))) (some d, ([] : List (Sem Value × Sem Value))) f
        match ← flushT r.2 r.1 with
        | some d => pure (.ref d)
        | none => newDict) Q E s
  | [], es, s, _, hf, hn, hk, hes, hd, hsz, hz, h => by
    rw [List.flatten_nil, List.nil_append] at hf hn hz ⊢
    rw [gather_rest (mk := fun m r => (m, r)) f h1 (some d) last [] (by simp; omega), pure_bind, List.nil_append]
    refine wpAny_bind (flush_next h0 (.inr ⟨h15, rfl⟩) hf hd hes (by simpa using Nat.ne_of_gt hsz) hk hn hz (wpAny_pure ?_))
    exact h
  | c :: cs, es, s, hc, hf, hn, hk, hes, hd, hsz, hz, h => by
    have hc17 := hc c List.mem_cons_self
    have hc0 : c ≠ [] := by rintro rfl; simp at hc17
    rw [List.flatten_cons, List.append_assoc] at hf hn hz ⊢
    obtain ⟨f1, f2, f3⟩ := fresh_app hf
    rw [List.map_append, gather (mk := fun m r => (m, r)) flushT f h1 h2 _ (some d) c [] hc0 (by simpa using hc17), bind_assoc, List.nil_append]
    refine wpAny_bind (flush_next (d := d) (es := es) hc0 (.inl ⟨hc17, rfl⟩) f1 hd hes (by simpa using Nat.ne_of_gt hsz) hk (fun p hp => hn p (List.mem_append_left _ hp)) (by rw [List.length_append] at hz; omega) ?_)
    refine disp_rest h0 h15 f h1 h2 cs (es ++ entsOf 3 s.toks c) _ (fun c' hc' => hc c' (List.mem_cons_of_mem _ hc')) f2 (fun p hp => noKey_app _ _ _ (hn p (List.mem_append_right _ hp)) fun q hq => (f3 q hq p hp).symm) (intKeys_app _ _ _ hk)
      (by cases es <;> simp at hes ⊢) (get_upd (Heap.get?_push_of_some _ hd) rfl) ?_ ?_ h
    · dsimp only; rw [size_upd, Heap.size_push]; exact Nat.lt_succ_of_lt hsz
    · rw [List.length_append, ents_length]; rw [List.length_append] at hz; omega

theorem display {pos : Pos} {c : List (Int × Str)} {cs : List (List (Int × Str))} {last : List (Int × Str)} {Q : Value → Shared → Prop} (hc : c.length = 17) (hcs : ∀ c ∈ cs, c.length = 17) (h0 : last ≠ []) (h15 : last.length ≤ 15)
    (hf : Fresh (c ++ (cs.flatten ++ last))) (hsz : sysModules < s.heap.objs.size) (hz : (c ++ (cs.flatten ++ last)).length ≤ sizeLine)
    (h : Q (.ref s.heap.objs.size) { s with heap := (dispEnd s.heap.objs.size (s.heap.push (dictO (entsOf 3 s.toks c))) (s.toks + 3 * c.length) (entsOf 3 s.toks c) cs last).1, toks := (dispEnd s.heap.objs.size (s.heap.push (dictO (entsOf 3 s.toks c))) (s.toks + 3 * c.length) (entsOf 3 s.toks c) cs last).2 }) :
    wpAny (model prog w) A (dictDisplay ((c ++ (cs.flatten ++ last)).map (fun p => (some (pairT pos p).1, (pairT pos p).2)))) Q E s := by
  have hc0 : c ≠ [] := by rintro rfl; simp at hc
  obtain ⟨f1, f2, f3⟩ := fresh_app hf
  unfold dictDisplay
  dsimp only
  rw [List.map_append]
  have h1 : ∀ (f : (Option (Sem Value) × Sem Value) → (Option Addr × List (Sem Value × Sem Value)) → Sem (ForInStep (Option Addr × List (Sem Value × Sem Value))))
    (_ : ∀ (p : Sem Value × Sem Value) m run, run.length + 1 < 17 → f (some p.1, p.2) (m, run) = pure (.yield (m, (run ++ [p]))))
    (_ : ∀ (p : Sem Value × Sem Value) m run, run.length + 1 = 17 → f (some p.1, p.2) (m, run) = (do let m' ← flushT (run ++ [p]) m; pure (.yield (m', [])))),
    wpAny (model prog w) A (do
        let r ← forIn (c.map (fun p => (some (pairT pos p).1, (pairT pos p).2)) ++ (cs.flatten ++ last).map (fun p => (some (pairT pos p).1, (pairT pos p).2))) (none, ([] : List (Sem Value × Sem Value))) f
        match ← flushT r.2 r.1 with
        | some d => pure (.ref d)
        | none => newDict) Q E s := by
    intro f h1 h2
    rw [gather (mk := fun m r => (m, r)) flushT f h1 h2 _ none c [] hc0 (by simpa using hc), bind_assoc, List.nil_append]
    refine wpAny_bind (flush_first hc f1 ?_)
    refine disp_rest h0 h15 f h1 h2 cs (entsOf 3 s.toks c) _ hcs f2 (fun p hp => noKey_ents _ _ fun q hq => (f3 q hq p hp).symm) (intKeys_ents _ _ _) (by intro e; have := ents_length 3 c s.toks; rw [e, hc] at this; simp at this) (Heap.get?_push_size _ rfl)
      (by dsimp only; rw [Heap.size_push]; exact Nat.lt_succ_of_lt hsz) (by rw [ents_length]; rw [List.length_append] at hz; omega) h
  refine h1 _ (fun p m run hl => ?_) (fun p m run hl => ?_)
  · dsimp only
    rw [if_neg (by simp; omega)]
  · dsimp only
    rw [if_pos (by simp; omega)]
    rfl
end
end Mine
end
noncomputable section
open PySem PySem.W PyProof.Rows
set_option Elab.async false
set_option maxRecDepth 100000
namespace Mine
def Γ₀ : Ctx := Ctx.of (.builtin "claim.caller" {}) []
def Γ₁ : Ctx := Γ₀.enter (.body (behindTheImports pw) topEnv) none default
def posOf (i : Nat) : Pos := match i with
 | 0 => ⟨1, 0, 1, 8⟩ | 1 => ⟨2, 0, 13, 16⟩ | 2 => ⟨14, 0, 14, 8⟩ | 3 => ⟨15, 0, 15, 6⟩ | 4 => ⟨16, 0, 17, 30⟩ | 5 => ⟨18, 0, 18, 13⟩ | 6 => ⟨19, 0, 23, 23⟩ | 7 => ⟨24, 0, 24, 8⟩ | 8 => ⟨25, 0, 39, 15⟩
 | 9 => ⟨40, 0, 52, 15⟩ | 10 => ⟨53, 0, 54, 80⟩ | 11 => ⟨55, 0, 80, 15⟩ | _ => default
noncomputable abbrev exF := PySem.W.Fast.tw12563942051412417395
theorem exF_eq : @execs = exF := PySem.W.Fast.te12563942051412417395
noncomputable abbrev run (w : World) := evT pw w (evC denF pw w 400) Γ₁ (α := Flow)
abbrev W1 (w : World) (b : Bool) := w.withFollow "special-get-raises" b
theorem p02 (w : World) (os : OsState) : run w (exF [stN 0, stN 1, stN 2] topEnv) default (S_a w.params os) = some (.ok .next, posOf 2, S_2 w.params os) := by kernel_rfl
theorem p3f (w : World) (os : OsState) : run (W1 w false) (exF [stN 3] topEnv) (posOf 2) (S_2 (W1 w false).params os) = some (.ok .next, posOf 3, S_3 (W1 w false).params os) := by kernel_rfl
theorem p3t (w : World) (os : OsState) : run (W1 w true) (exF [stN 3] topEnv) (posOf 2) (S_2 (W1 w true).params os) = some (.ok .next, posOf 3, S_3 (W1 w true).params os) := by kernel_rfl
theorem p3 (w : World) (os : OsState) : run w (exF [stN 3] topEnv) (posOf 2) (S_2 w.params os) = some (.ok .next, posOf 3, S_3 w.params os) := by
  have e : W1 w (w.params.followText "special-get-raises") = w := World.withFollow_self w "special-get-raises"
  generalize w.params.followText "special-get-raises" = b at e
  cases b
  · have := p3f w os; rw [e] at this; exact this
  · have := p3t w os; rw [e] at this; exact this
theorem p4 (w : World) (os : OsState) : run w (exF [stN 4] topEnv) (posOf 3) (S_3 w.params os) = some (.ok .next, posOf 4, S_4 w.params os) := by kernel_rfl
end Mine
end
noncomputable section
open PySem PySem.W PyProof.Rows
set_option Elab.async false
set_option maxRecDepth 100000
namespace Mine
@[irreducible] def b3ks : List (Option PySem.Expr) := match stN 5 with | .Assign _ (.Dict ks _ _) _ => ks | _ => []
@[irreducible] def b3vs : List PySem.Expr := match stN 5 with | .Assign _ (.Dict _ vs _) _ => vs | _ => []
def b3pos : Pos := ⟨18, 16, 18, 10370⟩
@[irreducible] def b3tgt : List PySem.Expr := match stN 5 with | .Assign t _ _ => t | _ => []
@[irreducible] def b3val : PySem.Expr := match stN 5 with | .Assign _ v _ => v | _ => .Constant .none 0 default
@[irreducible] def b3spos : Pos := match stN 5 with | .Assign _ _ p => p | _ => default
@[irreducible] def b3dpos : Pos := match stN 5 with | .Assign _ (.Dict _ _ p) _ => p | _ => default
theorem st5_is : stN 5 = .Assign b3tgt (.Dict b3ks b3vs b3dpos) b3spos := by kernel_rfl
@[irreducible] def b3c : List (Int × Str) := b3.take 17
@[irreducible] def b3cs : List (List (Int × Str)) := (List.range 37).map fun i => (b3.drop (17 * (i + 1))).take 17
@[irreducible] def b3last : List (Int × Str) := b3.drop 646
theorem b3_split : b3 = b3c ++ (b3cs.flatten ++ b3last) := by kernel_rfl
theorem b3_items : (evalEachOpt b3ks topEnv).zip ((evalEach b3vs topEnv).map fun v => do let x ← v; standAt b3dpos; pure x) = b3.map (fun p => (some (pairT b3dpos p).1, (pairT b3dpos p).2)) := by kernel_rfl
noncomputable def risesB : List (Int × Str) → Bool
  | [] => true
  | [_] => true
  | p :: q :: r => decide (p.1 < q.1) && risesB (q :: r)
theorem rises_lt : ∀ (l : List (Int × Str)) (p : Int × Str), risesB (p :: l) = true → ∀ q ∈ l, p.1 < q.1
  | [], _, _, _, hq => nomatch hq
  | x :: r, p, h, q, hq => by
    simp only [risesB, Bool.and_eq_true, decide_eq_true_eq] at h
    rcases List.mem_cons.mp hq with rfl | hq
    · exact h.1
    · exact Int.lt_trans h.1 (rises_lt r x h.2 q hq)
theorem rises_fresh : ∀ (l : List (Int × Str)), risesB l = true → Fresh l
  | [], _ => trivial
  | p :: r, h => ⟨fun q hq e => absurd (rises_lt r p h q hq) (by rw [e]; exact Int.lt_irrefl _), rises_fresh r (by
      cases r with
      | nil => rfl
      | cons q r => simp only [risesB, Bool.and_eq_true] at h; exact h.2)⟩
theorem b3_rises : risesB b3 = true := by kernel_rfl
theorem b3_fresh : Fresh (b3c ++ (b3cs.flatten ++ b3last)) := b3_split ▸ rises_fresh b3 b3_rises
theorem b3_heap (P : Params) : (dispEnd 40 ((H_4 P).push (dictO (entsOf 3 268 b3c))) (268 + 3 * b3c.length) (entsOf 3 268 b3c) b3cs b3last) = (H_4d P, 2218) := by kernel_rfl
end Mine
end
noncomputable section
open PySem PySem.W PyProof.Rows
set_option Elab.async false
set_option maxRecDepth 100000
namespace Mine
theorem p6 (w : World) (os : OsState) : run w (exF [stN 6, stN 7, stN 8, stN 9, stN 10, stN 11] topEnv) (posOf 5) (S_5 w.params os) = some (.ok .next, posOf 11, S_11 w.params os) := by kernel_rfl

noncomputable abbrev MF (w : World) : Model := ⟨denF, pw, w⟩
theorem model_is (w : World) : model pw w = MF w := by unfold model MF; rw [denF_eq]

theorem runs_wp {w : World} {α : Type} {Γ : Ctx} {t : Sem α} {p p' : Pos} {s s' : Shared} {x : α} {Q : α → Pos → Shared → Prop} {E : Value → Pos → Shared → Prop} (h : evT pw w (evC denF pw w 400) Γ t p s = some (.ok x, p', s')) (hq : Q x p' s') :
    Sem.wp (MF w) Γ t Q E p s := evT_sound (evC_sound 400) t h hq

theorem wp_execs_app {M : Model} {Γ : Ctx} {env : Env} {Q : Flow → Pos → Shared → Prop} {E : Value → Pos → Shared → Prop} : ∀ (a b : List Stmt) (p : Pos) (s : Shared),
    Sem.wp M Γ (execs a env) (fun f p' s' => f = .next ∧ Sem.wp M Γ (execs b env) Q E p' s') E p s → Sem.wp M Γ (execs (a ++ b) env) Q E p s
  | [], b, p, s, h => h.2
  | x :: a, b, p, s, h => by
    show Sem.wp M Γ (do match ← exec x env with | .next => execs (a ++ b) env | f => pure f) Q E p s
    have h : Sem.wp M Γ (do match ← exec x env with | .next => execs a env | f => pure f) (fun f p' s' => f = .next ∧ Sem.wp M Γ (execs b env) Q E p' s') E p s := h
    rw [Sem.wp_bind'] at h ⊢
    refine Sem.wp_mono M Γ _ (fun f p' s' hf => ?_) (fun _ _ _ e => e) p s h
    cases f with
    | next => exact wp_execs_app a b p' s' hf
    | brk => exact nomatch (show Flow.brk = Flow.next from hf.1)
    | cont => exact nomatch (show Flow.cont = Flow.next from hf.1)
    | ret v => exact nomatch (show Flow.ret v = Flow.next from hf.1)

def AΓ (Γ : Ctx) : Around := { handled := Γ.handled, depth := frameCount Γ.below + Γ.code.weight, frames := none, guards := none, units := Γ.units }
theorem in_AΓ (Γ : Ctx) : Γ.In (AΓ Γ) := ⟨rfl, Nat.le_refl _, (by intro _ h; cases h), (by intro _ h; cases h), Nat.le_refl _⟩

theorem q5a (w : World) (os : OsState) : evT pw w (evC denF pw w 400) Γ₁ (swapsWithSole b3tgt (.Dict b3ks b3vs b3dpos) b3spos.line topEnv) b3spos (S_4 w.params os) = some (.ok false, b3spos, S_4 w.params os) := by kernel_rfl
theorem q5b (w : World) (os : OsState) (p : Pos) : evT pw w (evC denF pw w 400) Γ₁ (do assignStores topEnv (.ref 40) (← swappedStores b3tgt (.Dict b3ks b3vs b3dpos) topEnv) ((assignEach b3tgt topEnv).map (·.2))) p (S_4d w.params os) = some (.ok .next, posOf 5, S_5 w.params os) := by kernel_rfl

theorem wp_assign_dict {M : Model} {Γ : Ctx} {tgt : List PySem.Expr} {ks : List (Option PySem.Expr)} {vs : List PySem.Expr} {dpos spos : Pos} {env : Env} {items : List (Option (Sem Value) × Sem Value)} {Q : Flow → Pos → Shared → Prop} {E : Value → Pos → Shared → Prop} {p : Pos} {s : Shared}
    (hi : (evalEachOpt ks env).zip ((evalEach vs env).map fun v => do let x ← v; standAt dpos; pure x) = items)
    (h : Sem.wp M Γ (swapsWithSole tgt (.Dict ks vs dpos) spos.line env) (fun b p₁ s₁ => b = false ∧ Sem.wp M Γ (do standAt dpos; dictDisplay items) (fun v p₂ s₂ =>
      Sem.wp M Γ (do assignStores env v (← swappedStores tgt (.Dict ks vs dpos) env) ((assignEach tgt env).map (·.2))) (fun f p₃ s₃ => f = .next ∧ Q .next p₃ s₃) E p₂ s₂) E p₁ s₁) E spos s) :
    Sem.wp M Γ (execs [.Assign tgt (.Dict ks vs dpos) spos] env) Q E p s := by
  subst hi
  show Sem.wp M Γ (do match ← exec (.Assign tgt (.Dict ks vs dpos) spos) env with | .next => pure .next | f => pure f) Q E p s
  rw [Sem.wp_bind']
  show Sem.wp M Γ (do
    standAt spos
    if ← swapsWithSole tgt (.Dict ks vs dpos) spos.line env then do
      evalThenUse (.Dict ks vs dpos) env fun v => assignAll v ((assignEach tgt env).map (·.2))
      pure Flow.next
    else do
      let v ← eval (.Dict ks vs dpos) env
      assignStores env v (← swappedStores tgt (.Dict ks vs dpos) env) ((assignEach tgt env).map (·.2))) _ E p s
  rw [Sem.wp_bind']
  show Sem.wp M Γ (do
    if ← swapsWithSole tgt (.Dict ks vs dpos) spos.line env then do
      evalThenUse (.Dict ks vs dpos) env fun v => assignAll v ((assignEach tgt env).map (·.2))
      pure Flow.next
    else do
      let v ← eval (.Dict ks vs dpos) env
      assignStores env v (← swappedStores tgt (.Dict ks vs dpos) env) ((assignEach tgt env).map (·.2))) _ E spos s
  rw [Sem.wp_bind']
  refine Sem.wp_mono _ _ _ (fun b p₁ s₁ hb => ?_) (fun _ _ _ e => e) _ _ h
  obtain ⟨rfl, hb⟩ := hb
  rw [if_neg (by simp), Sem.wp_bind', arm_eval_Dict]
  refine Sem.wp_mono _ _ _ (fun v p₂ s₂ hv => ?_) (fun _ _ _ e => e) _ _ hb
  refine Sem.wp_mono _ _ _ (fun f p₃ s₃ hf => ?_) (fun _ _ _ e => e) _ _ hv
  obtain ⟨rfl, hf⟩ := hf
  exact hf

theorem b3c_len : b3c.length = 17 := by kernel_rfl
theorem b3cs_len : ∀ c ∈ b3cs, c.length = 17 := by
  have h : (b3cs.all fun c => Nat.beq c.length 17) = true := by kernel_rfl
  exact fun c hc => Nat.eq_of_beq_eq_true (List.all_eq_true.mp h c hc)
theorem b3last_len : b3last.length ≤ 15 := Nat.le_of_ble_eq_true (by kernel_rfl)
theorem b3last_ne : b3last ≠ [] := by
  have h : b3last.length = 4 := by kernel_rfl
  intro e; rw [e] at h; simp at h
theorem q5d (w : World) (os : OsState) : wpAny (model pw w) (AΓ Γ₁) (do standAt b3dpos; dictDisplay ((b3c ++ (b3cs.flatten ++ b3last)).map (fun p => (some (pairT b3dpos p).1, (pairT b3dpos p).2)))) (fun v s' => v = .ref 40 ∧ s' = S_4d w.params os) (fun _ _ => False) (S_4 w.params os) := by
  have hlen : (b3c ++ (b3cs.flatten ++ b3last)).length ≤ sizeLine := by rw [← b3_split, sizeLine_eq]; exact Nat.le_of_ble_eq_true (by kernel_rfl)
  have hsz : (S_4 w.params os).heap.objs.size = 40 := by kernel_rfl
  have htk : (S_4 w.params os).toks = 268 := by kernel_rfl
  have hh : (S_4 w.params os).heap = H_4 w.params := by kernel_rfl
  have hs : S_4d w.params os = { S_4 w.params os with heap := (dispEnd 40 ((H_4 w.params).push (dictO (entsOf 3 268 b3c))) (268 + 3 * b3c.length) (entsOf 3 268 b3c) b3cs b3last).1, toks := (dispEnd 40 ((H_4 w.params).push (dictO (entsOf 3 268 b3c))) (268 + 3 * b3c.length) (entsOf 3 268 b3c) b3cs b3last).2 } := by
    rw [b3_heap]; kernel_rfl
  rw [hs]
  refine wpAny_bind (wpAny_standAt (display b3c_len b3cs_len b3last_ne b3last_len b3_fresh ?_ hlen ?_))
  · rw [hsz]; decide
  · rw [hsz, htk, hh]; exact ⟨rfl, rfl⟩

theorem st5 (w : World) (os : OsState) {Q : Flow → Pos → Shared → Prop} {E : Value → Pos → Shared → Prop} (p : Pos) (h : Q .next (posOf 5) (S_5 w.params os)) : Sem.wp (model pw w) Γ₁ (execs [stN 5] topEnv) Q E p (S_4 w.params os) := by
  rw [st5_is]
  refine wp_assign_dict (items := (b3c ++ (b3cs.flatten ++ b3last)).map (fun p => (some (pairT b3dpos p).1, (pairT b3dpos p).2))) (by rw [← b3_split]; exact b3_items) ?_
  rw [model_is]
  refine runs_wp (q5a w os) ⟨rfl, ?_⟩
  rw [← model_is]
  refine Sem.wp_mono _ _ _ (fun v p' s' hv => ?_) (fun _ _ _ e => e.elim) _ _ (q5d w os Γ₁ b3spos (in_AΓ Γ₁))
  obtain ⟨rfl, rfl⟩ := hv
  rw [model_is]
  exact runs_wp (q5b w os p') ⟨rfl, h⟩
end Mine
end
noncomputable section
open PySem PySem.W PyProof.Rows
set_option Elab.async false
set_option maxRecDepth 100000
namespace Mine
noncomputable def S_0b (P : Params) (os : OsState) : Shared := ⟨boot_heap P, #[], boot_drawn, boot_toks, os⟩
noncomputable def S_0c (P : Params) (os : OsState) : Shared := ⟨⟨(H_a P).objs.pop, {}⟩, #[], {}, 187, os⟩
theorem g1 (w : World) (os : OsState) : evT pw w (evC denF pw w 400) Γ₀ (moduleCode pw.main) default (S_0b w.params os) = some (.ok (.ref 13), default, S_0c w.params os) := by kernel_rfl
theorem g2 (w : World) (os : OsState) : evT pw w (evC denF pw w 400) Γ₀ (newBodyFrame (.ref 13) mainNs mainNs) default (S_0c w.params os) = some (.ok 14, default, S_a w.params os) := by kernel_rfl
theorem g3 (w : World) (os : OsState) : evT pw w (evC denF pw w 400) Γ₁ (blockStart (behindTheImports pw) topEnv) default (S_a w.params os) = some (.ok (), default, S_a w.params os) := by kernel_rfl
theorem body_is : behindTheImports pw = [stN 0, stN 1, stN 2] ++ ([stN 3] ++ ([stN 4] ++ ([stN 5] ++ [stN 6, stN 7, stN 8, stN 9, stN 10, stN 11]))) := by kernel_rfl
theorem env_is : ({ scope := pw.main.scope, locals := mainNs, globals := mainNs, cells := [], code := .ref 13, frame := some 14 } : Env) = topEnv := by unfold topEnv; rfl

theorem top_execs (w : World) (os : OsState) {Q : Flow → Pos → Shared → Prop} {E : Value → Pos → Shared → Prop} (h : Q .next (posOf 11) (S_11 w.params os)) : Sem.wp (model pw w) Γ₁ (execs (behindTheImports pw) topEnv) Q E default (S_a w.params os) := by
  rw [body_is]
  refine wp_execs_app _ _ _ _ ?_
  rw [model_is, exF_eq]
  refine runs_wp (p02 w os) ⟨rfl, ?_⟩
  rw [← exF_eq]
  refine wp_execs_app _ _ _ _ ?_
  rw [exF_eq]
  refine runs_wp (p3 w os) ⟨rfl, ?_⟩
  rw [← exF_eq]
  refine wp_execs_app _ _ _ _ ?_
  rw [exF_eq]
  refine runs_wp (p4 w os) ⟨rfl, ?_⟩
  rw [← exF_eq]
  refine wp_execs_app _ _ _ _ ?_
  rw [← model_is]
  refine st5 w os _ ⟨rfl, ?_⟩
  rw [model_is, exF_eq]
  exact runs_wp (p6 w os) h

theorem wp_stub {M : Model} {Γ : Ctx} {p : Program} {code : Value} {fr : Addr} {Q : Fin → Pos → Shared → Prop} {pos : Pos} {s s₁ s₂ s₃ : Shared} (hM : M.den = denote table)
    (h1 : ∀ (Q' : Value → Pos → Shared → Prop) E, Q' code pos s₁ → Sem.wp M Γ (moduleCode p.main) Q' E pos s)
    (h2 : ∀ (Q' : Addr → Pos → Shared → Prop) E, Q' fr pos s₂ → Sem.wp M Γ (newBodyFrame code mainNs mainNs) Q' E pos s₁)
    (env : Env) (henv : ({ scope := p.main.scope, locals := mainNs, globals := mainNs, cells := [], code := code, frame := some fr } : Env) = env)
    (h3 : ∀ (Q' : Unit → Pos → Shared → Prop) E, Q' () pos s₂ → Sem.wp M (Γ.enter (.body (behindTheImports p) env) none pos) (blockStart (behindTheImports p) env) Q' E pos s₂)
    (h4 : ∀ (Q' : Flow → Pos → Shared → Prop) E, (∀ p', Q' .next p' s₃) → Sem.wp M (Γ.enter (.body (behindTheImports p) env) none pos) (execs (behindTheImports p) env) Q' E pos s₂)
    (hQ : ∀ p', Q (.done (.ret .none)) p' s₃) {E : Value → Pos → Shared → Prop} : Sem.wp M Γ (topStub p).cur Q E pos s := by
  show Sem.wp M Γ (do
    let code ← moduleCode p.main
    let frame ← newBodyFrame code mainNs mainNs
    let _ ← PySem.run (.body (behindTheImports p) { scope := p.main.scope, locals := mainNs, globals := mainNs, cells := [], code, frame := some frame })
    ret .none) Q E pos s
  rw [Sem.wp_bind']
  refine h1 _ _ ?_
  rw [Sem.wp_bind']
  refine h2 _ _ ?_
  rw [henv, Sem.wp_bind']
  show wpCode M (Γ.enter (.body (behindTheImports p) env) none pos) (fun r s' => Sem.wp M Γ (match r with | .ok f => .pure f | .error e => .raise e : Sem Flow) _ E pos s') pos s₂
  rw [wpCode_iff_wp, hM]
  show Sem.wp M _ (do
    blockStart (behindTheImports p) env
    let f ← (execs (behindTheImports p) env).onRaise (leaving env)
    pure (Fin.done f)) _ _ pos s₂
  rw [Sem.wp_bind']
  refine h3 _ _ ?_
  rw [Sem.wp_bind', Sem.wp_onRaise]
  refine h4 _ _ fun p' => ?_
  exact hQ pos

theorem top_wp (w : World) (os : OsState) {E : Value → Pos → Shared → Prop} {Q : Fin → Pos → Shared → Prop} (hQ : ∀ p', Q (.done (.ret .none)) p' (S_11 w.params os)) : Sem.wp (model pw w) Γ₀ (topStub pw).cur Q E default (S_0b w.params os) := by
  refine wp_stub (s₁ := S_0c w.params os) (s₂ := S_a w.params os) (s₃ := S_11 w.params os) (code := .ref 13) (fr := 14) rfl (fun Q' E' h => ?_) (fun Q' E' h => ?_) topEnv env_is (fun Q' E' h => ?_) (fun Q' E' h => ?_) hQ
  · rw [model_is]; exact runs_wp (g1 w os) h
  · rw [model_is]; exact runs_wp (g2 w os) h
  · rw [model_is]; exact runs_wp (g3 w os) h
  · exact top_execs w os (h _)
end Mine
end
noncomputable section
open PySem PySem.W PyProof.Rows
set_option Elab.async false
set_option maxRecDepth 100000
namespace Mine
theorem k1 (P : Params) : (H_11 P).isNs mainGlobals = true := by kernel_rfl
theorem k2 (P : Params) : (H_11 P).isNs builtinsNs = true := by kernel_rfl
theorem k3 (P : Params) : staticsOk (importedModules pw.main.body) (boot_heap P) (H_11 P) = true := by kernel_rfl
theorem k4 (P : Params) : namesBound pw (H_11 P) = true := by kernel_rfl
theorem k5 (P : Params) : laidKept (boot_heap P) (H_11 P) = true := by kernel_rfl
theorem k6 (P : Params) : (H_11 P).accountedOkI (importedModules pw.main.body) = true := by kernel_rfl
theorem k7 (P : Params) : (H_11 P).bltView = bltViewBooted := by kernel_rfl
theorem k8 (P : Params) : (H_11 P).bmainOk = true := by kernel_rfl
theorem k9 (P : Params) : (H_11 P).nsMap mainGlobals (Str.ofString "law") = some (.ref 105) := by kernel_rfl

theorem runN_goes {den : Code → Sem Fin} {prog : Program} {w : World} : ∀ (m : Nat) (s : Shared) (t : Thread) (σ : Shared) (τ : Thread), runN den prog w m s t = .running σ τ → ∀ k s' t', k < m → runN den prog w k s t = .running s' t' → ∃ s₂ t₂, step den prog w s' t' = .go s₂ t₂
  | 0, _, _, _, _, _, _, _, _, hk, _ => absurd hk (Nat.not_lt_zero _)
  | m + 1, s, t, σ, τ, h, k, s', t', hk, hr => by
    simp only [runN] at h
    cases hs : step den prog w s t with
    | halt o s₁ => rw [hs] at h; cases h
    | go s₁ t₁ =>
      rw [hs] at h
      cases k with
      | zero =>
        have e : Run.running s t = .running s' t' := hr
        injection e with e1 e2
        subst e1 e2
        exact ⟨s₁, t₁, hs⟩
      | succ k =>
        simp only [runN, hs] at hr
        exact runN_goes m s₁ t₁ σ τ h k s' t' (Nat.lt_of_succ_lt_succ hk) hr

theorem top_sched (w : World) (os : OsState) : ∃ n t, schedN (denote table) pw w n (.single (S_0b w.params os) (topStub pw)) = .running (.single (S_11 w.params os) t) ∧ through t = true := by
  have hΓ : Γ₀ = ⟨.builtin "claim.caller" {}, none, none, [], none⟩ := rfl
  have hz : (S_0b w.params os).asleep := ⟨by kernel_rfl, by kernel_rfl⟩
  have h1 : Sem.wp (model pw w) (Ctx.of (.builtin "claim.caller" {}) []) (topStub pw).cur (fun fin _ s' => fin = .done (.ret .none) ∧ s' = S_11 w.params os) (fun _ _ _ => False) default (S_0b w.params os) := top_wp w os fun _ => ⟨rfl, rfl⟩
  have h2 : Sem.wp (model pw w) ⟨.builtin "claim.caller" {}, none, none, [], none⟩ (topStub pw).cur (Sem.finPost (model pw w) ⟨.builtin "claim.caller" {}, none, none, [], none⟩ fun _ s' => True ∧ leftWithCleanup s'.gens = false) (fun e _ s' => True ∧ leftWithCleanup s'.gens = false) default (S_0b w.params os) := by
    rw [← hΓ]
    exact top_wp w os fun _ => ⟨trivial, by kernel_rfl⟩
  obtain ⟨n, r, s', hn, _⟩ := (wp_iff_halts (M := model pw w) (topStub pw).cur (fun _ _ => True) default (S_0b w.params os)).mp h2
  obtain ⟨_, _, _, hcalm⟩ := runNI_real (model pw w).den (model pw w).prog (model pw w).w hn (outcomeOf_ends r)
  obtain ⟨m, s₁, σ, p', leaf, hr, hf, hl⟩ := wp_reaches (M := model pw w) h1
  rcases hl with ⟨a, rfl, rfl, rfl⟩ | ⟨e, _, hF⟩
  · obtain rfl := Shared.eq_of_forget_eq hf (by unfold S_11; rfl)
    refine ⟨m, ⟨.pure (.done (.ret .none)), .builtin "claim.caller" {}, p', []⟩, ?_, rfl⟩
    have := schedN_prefix (model pw w).den (model pw w).prog (model pw w).w m (S_0b w.params os) (topStub pw) hz fun k s₂ t₂ hk hk' => ⟨hcalm k s₂ t₂ hk', by
      obtain ⟨s₃, t₃, e⟩ := runN_goes m _ _ _ _ hr k s₂ t₂ hk hk'
      rw [e]; exact fun h => by cases h⟩
    show schedN (model pw w).den (model pw w).prog (model pw w).w m _ = _
    rw [this]
    show (runN (model pw w).den (model pw w).prog (model pw w).w m (S_0b w.params os) ⟨(topStub pw).cur, .builtin "claim.caller" {}, default, []⟩).lift = _
    rw [hr]
    rfl
  · exact hF.elim

theorem boot_kept (P : Params) (b : Addr) (o : Obj) (h : (boot_heap P).get? b = some o) (h3 : b ≠ 3) : (H_11 P).get? b = some o := by
  have hlt : b < 11 := Heap.lt_size h
  have all : ∀ i : Fin 11, i.val ≠ 3 → (H_11 P).get? i.val = (boot_heap P).get? i.val := by
    intro i hi
    match i with
    | 0 => kernel_rfl
    | 1 => kernel_rfl
    | 2 => kernel_rfl
    | 3 => exact absurd rfl hi
    | 4 => kernel_rfl
    | 5 => kernel_rfl
    | 6 => kernel_rfl
    | 7 => kernel_rfl
    | 8 => kernel_rfl
    | 9 => kernel_rfl
    | 10 => kernel_rfl
  rw [all ⟨b, hlt⟩ h3]
  exact h

theorem top_ran (w : World) (os : OsState) : TopRan pw w (S_0b w.params os) (S_11 w.params os) := by
  refine ⟨top_sched w os, by kernel_rfl, Shared.rest_eq rfl, fun b o hb hn => boot_kept _ b o hb fun e => hn (.inl e), Heap.accountedI_of_ok (k6 _), statics_of_ok (k3 _), Pin.keysAreStrs_of (k1 _), fun x hx => (Pin.builtinOf_eq (k2 _) x).trans (Heap.of_bltView (k2 _) (k7 _) x hx), ?_, fun g hg => ?_, names_of_bound (k4 _), laid_of_kept (k5 _)⟩
  · obtain ⟨bm, ob, a, _, c, d, f, _⟩ := Heap.bmainOk_spec (k8 w.params)
    exact ⟨bm, ob, (Pin.globalOf_eq (k1 _) _).trans a, c, d, f⟩
  · have : (S_11 w.params os).gens = #[] := by kernel_rfl
    rw [this] at hg; simp at hg

theorem law_pinned (w : World) (os : OsState) : isTheDefsW pw (S_11 w.params os).heap (Str.ofString "law") :=
  ⟨105, o105_11 w.params, _, fnArgs 11, fnBody 11, fnScope 11, (Pin.globalOf_eq (k1 _) _).trans (k9 _), by kernel_rfl, rfl, by kernel_rfl, rfl, rfl, rfl, rfl, rfl, rfl, rfl, rfl,
    .inl ⟨by kernel_rfl, rfl⟩, [], by kernel_rfl, .inl ⟨rfl, rfl⟩⟩
end Mine
end
noncomputable section
open PySem PySem.W PyProof.Rows
set_option Elab.async false
set_option maxRecDepth 100000
namespace Mine
abbrev rowL : OpenRow := PySem.Challenge.rw_rl0074_01.row

/-- what the walk has to show -/
def Walked : Prop := ∀ (w : World) (s : Shared) (a : Addr) (vs : List Value) (ns : List Int), (∀ b o, (H_11 w.params).get? b = some o → s.heap.get? b = some o) → s.gens = #[] →
  s.heap.IsList a vs.toArray → IntsAre vs ns → PyData.layable0 (.list (ns.map .int)) = true → ns.length ≤ 63 →
  wpAny (model pw w) callerA (call (.ref 105) [.ref a]) (fun v s' => v = .bool true ∧ Keeps s s') (fun _ _ => False) s

theorem claim_good (s₀ : Shared) (w : World) (W : Walked) (s₁ : Shared) (args : List WData) (vals : List Value) (as : List Addr) (hk : ∀ b o, (H_11 w.params).get? b = some o → s₁.heap.get? b = some o) (hg : s₁.gens = #[])
    (hpre : rowL.toRowW.claim.pre args = true) (hlay : WData.layableAll args = true)
    (hrd : ReadsAllW rowL.toRowW.records (classAt s₀.heap) s₁.heap vals args as) (hwl : WellAll w.params s₁.heap vals args) (hlo : ∀ a ∈ as, (a == sysModules) = false) :
    wpAny (model pw w) callerA (call (.ref 105) vals) (fun v s' => GoodW rowL.toRowW.claim (classAt s₀.heap) (ExcName.means s₀.heap) args s₁ (.ok (.ret v)) s') (fun _ _ => False) s₁ := by
  have hpost : ∀ args', rowL.toRowW.claim.post args' (.bool true) args' = true := fun _ => by kernel_rfl
  wrow_args hpre hlay hrd hwl hlo
  rename_i ns _ _ hL1 _ _ _ _ a vs _ hL _ _ _ hI _ hcond _
  refine wpAny_mono (W w s₁ a vs ns hk hg hL hI hL1 (by omega)) (fun v s' h => ?_) fun _ _ e => e
  obtain ⟨rfl, h', tk, rfl, hkk⟩ := h
  exact ⟨.inl ⟨_, .bool true, [], rfl, fun _ => rfl, .bool _, hpost _, fun _ => ⟨List.nodup_nil, fun _ h => nomatch h⟩⟩, hkk, rfl, hg⟩

theorem holds_row (said : rowL.wellSaid = true) (hw : rowL.toRowW.promised) (W : Walked) : rowL.Holds := by
  refine ⟨said, hw, ⟨?bare, by kernel_rfl, rfl⟩, hw.witness, fun w => ?_⟩
  case bare => exact ⟨rfl, rfl, rfl, rfl, rfl, by decide +kernel⟩
  have open_ := boot_open (p := pw) (N := 600) (by kernel_rfl) (by kernel_rfl) (fun s => by kernel_rfl) w
  rw [← table_eq_tree] at open_
  obtain ⟨⟨h, gs, d, k, os⟩, e, e'⟩ := Option.map_eq_some_iff.mp open_
  obtain ⟨rfl, rfl, rfl, rfl⟩ : h = boot_heap w.params ∧ gs = #[] ∧ d = boot_drawn ∧ k = boot_toks := by simpa using e'
  obtain ⟨s, h4, h5⟩ := Option.bind_eq_some_iff.mp e
  have A := AfterImport.of_importEnds h4
  refine ⟨⟨s, A⟩, fun s' hs' => ?_⟩
  obtain rfl : s' = s := AfterImport.unique hs' A
  refine ⟨_, h5, rfl, S_11 w.params os, top_ran w os, ?_, (fun x hx => nomatch hx), (fun x hx => nomatch hx), ?_⟩
  · intro n hn
    have hn : n ∈ [Str.ofString "law"] := hn
    rw [List.mem_singleton.mp hn]
    exact law_pinned w os
  have hz : (S_11 w.params os).asleep := ⟨by kernel_rfl, by kernel_rfl⟩
  have hg11 : (S_11 w.params os).gens = #[] := by kernel_rfl
  have hsz : (S_11 w.params os).heap.objs.size = 106 := by kernel_rfl
  refine ClaimW.callFrom_of_specG (c := rowL.toRowW.claim) (tree := fun vs => do match ← nsGet mainNs (Str.ofString "law") with
      | some f => do ret (← PySem.call f vs)
      | none => unsupported "claim.caller:no-such-global") hz hg11 fun args hpre hlay ord hord => ?_
  obtain ⟨⟨vs, s₁⟩, hlaid⟩ := Option.isSome_iff_exists.mp (layAllW_isSome (P := w.params) (ord := ord) (cl := classAt (S_11 w.params os).heap) (R := rowL.toRowW.records) (fun c hc => nomatch hc) args rowL.toRowW.args (S_11 w.params os) (pre_splitW hpre).1)
  have keeps := layAllW_keeps _ _ _ hlaid
  have hal := layAllW_rest _ _ _ hlaid
  obtain ⟨as, hrd, hin, hold⟩ := reads_layAllW hord _ _ _ hlaid hlay s₁.heap (fun _ _ e => e)
  have hg1 : s₁.gens = #[] := hal.1.trans hg11
  have good := claim_good (S_11 w.params os) w W s₁ args vs as keeps hg1 hpre hlay hrd (well_layAllW hord args _ _ hlaid _ fun _ _ e => e)
    (fun a ha => beq_eq_false_iff_ne.mpr fun e => by
      have := (hin.2.2 a ha).1
      rw [hsz, e] at this
      exact absurd this (by decide))
  refine ⟨vs, s₁, hlaid, ?_⟩
  have hns : s₁.heap.Ns mainGlobals ((H_11 w.params).nsMap mainGlobals) := (Heap.Ns.of_isNs (k1 w.params)).keeps keeps
  refine wpAny_bind (wpAny_nsGet hns ?_)
  rw [k9]
  refine wpAny_bind (wpAny_mono good (fun v s' g => wpAny_pure ⟨_, rfl, ?_⟩) fun _ _ f => f.elim)
  have hi := ident_freeW (r := rowL.toRowW) rfl rfl rfl
  have z := g.ends (c := rowL.toRowW.claim) rfl hi hord hlaid hlay
  exact ⟨z.1, z.2.1, .of_eq z.2.2, fun q => nomatch q⟩
theorem holds_law' (W : Walked) : PySem.Challenge.rw_rl0074_01.Holds := by
  o_law
  refine holds_row (by assumption) ?_ W
  w_witness2
end Mine
end
noncomputable section
open PySem PySem.W PyProof.Rows PySem.Calls PySem.Builtin.Str
set_option Elab.async false
set_option maxRecDepth 100000
set_option linter.unusedVariables false
namespace Mine
noncomputable section
section
variable {w : World} {A : Around} {s s₀ : Shared} {L : Addr} {Q : Flow → Shared → Prop} {E : Value → Shared → Prop}
theorem l12 {W : List Nat} {f g : Nat → Nat} {k : Nat} (F : Faces W f g 1114111) (B : Base w s₀) (ok : Ok k A) (hk18 : k ≤ 18) (X : Fm s₀ (lEnv L) s) (V : Vs (lEnv L) s.heap [vO (found (W.map f) [] ++ found (W.map g) [1114111]), vR (told (W.map f)), vD (W.map f), vY (W.map g)]) (hW : W.length ≤ 100)
    (q : ∀ s', Fm s₀ (lEnv L) s' → Q .next s') : wpAny (model pw w) A (exec (lSt 12) (lEnv L)) Q E s := by
  have G := lG L
  have hh := ok.handled
  with_unfolding_all have hst : lSt 12 = .For (.Tuple [.Name _ _, .Name _ _, .Name _ _] _ _) (.Name _ _) lBody [] _ := rfl
  rw [hst]
  clear hst
  obtain ⟨vo, ⟨vr, br, rr⟩, vd, vy, -⟩ := V
  refine for_triples (fun i s' => Fm s₀ (lEnv L) s' ∧ Vs (lEnv L) s'.heap [vO (found (W.map f) [] ++ found (W.map g) [1114111]), vD (W.map f), vY (W.map g)]) hh G.kind br rr (by kernel_rfl)
    (fun s' k' => ⟨X.kp k', vs_kp (kp_heap k') ⟨vo, vd, vy, trivial⟩⟩) ?_ (fun i s₁ h => h.1) (.inl (by kernel_rfl)) (.inr ⟨by kernel_rfl, by kernel_rfl⟩) (.inr ⟨by kernel_rfl, by kernel_rfl⟩) ?_ (fun s' h => q s' h.1)
  · rintro i s₁ s₂ ef ⟨X₁, V₁⟩ nx hold
    exact ⟨X₁.nx nx fun b o e => hold b o (X.base b o e) (X₁.base b o e), vs_nx nx V₁⟩
  · rintro n i j p t1 t2 t3 s₁ s₂ s₃ s₄ s₅ E' hd ⟨X₁, V₁⟩ k₂ st3 st4 st5 X₅
    have hm : (i, j, p) ∈ told (W.map f) := List.mem_of_getElem? hd
    have R := told_iff.mp hm
    have R' : Run (W.map g) i j p := told_iff.mp (by rw [told_map F.gi, ← told_map F.fi]; exact hm)
    have hp := R.pos
    have h2 := R.two
    have hle := R.le
    rw [List.length_map] at hle
    have V₃ : Vs (lEnv L) s₃.heap [vI i, vO (found (W.map f) [] ++ found (W.map g) [1114111]), vD (W.map f), vY (W.map g)] := ⟨⟨_, st3.new, rv_int _ _ _⟩, vs_sto st3 (vs_kp (kp_heap k₂) V₁) (by kernel_rfl)⟩
    have V₄ : Vs (lEnv L) s₄.heap [vJ j, vI i, vO (found (W.map f) [] ++ found (W.map g) [1114111]), vD (W.map f), vY (W.map g)] := ⟨⟨_, st4.new, rv_int _ _ _⟩, vs_sto st4 V₃ (by kernel_rfl)⟩
    have V₅ : Vs (lEnv L) s₅.heap [vP p, vJ j, vI i, vO (found (W.map f) [] ++ found (W.map g) [1114111]), vD (W.map f), vY (W.map g)] := ⟨⟨_, st5.new, rv_int _ _ _⟩, vs_sto st5 V₄ (by kernel_rfl)⟩
    rw [lBody_eq]
    refine wpAny_execs_cons (m0 X₅ V₅ (by rw [List.length_map]; exact hW) (by rw [List.length_map]; exact hle) hp (by omega) fun s₆ X₆ V₆ ef6 => ?_)
    dsimp only
    have hz : ∃ z, (if faceB (W.map f) j p = true then W.map f else W.map g) = z ∧ Run z i j p ∧ z.length = W.length := by
      split
      · exact ⟨_, rfl, R, List.length_map ..⟩
      · exact ⟨_, rfl, R', List.length_map ..⟩
    obtain ⟨z, ez, Rz, hzl⟩ := hz
    rw [ez] at V₆
    refine wpAny_execs_cons (m1 B ok hk18 X₆ V₆ (by omega) (by omega) hp (by omega) (fun s₇ X₇ V₇ ef7 => ?_) (by omega))
    dsimp only
    refine wpAny_execs_cons (m2 B ok hk18 X₇ V₇ (by omega) (by omega) hp (by omega) (fun k hk => ?_) fun s₈ X₈ V₈ ef8 => ?_)
    · obtain ⟨h1, h3, h4⟩ := roots_mem hk (by omega)
      exact rests Rz (by omega) h3 h4
    dsimp only
    refine wpAny_execs_cons (m3 B ok hk18 X₈ V₈ (by omega) hp (by omega) (run_in F hm) fun s₉ X₉ V₉ k9 => ?_)
    dsimp only
    refine wpAny_execs_nil ?_
    exact ⟨((ef6.trans ef7).trans ef8).trans (Ef.of k9), X₉, V₉.2.2.2.2.2.2.1, V₉.2.2.2.2.2.2.2.1, V₉.2.2.2.2.2.2.2.2.1, trivial⟩
theorem law_ok {k : Nat} {v : Value} {ns : List Int} {Q : Value → Shared → Prop} {E : Value → Shared → Prop} (B : Base w s) (ok : Ok k A) (hk17 : k ≤ 16) (r : Rv s.heap v (.list (ns.map .int))) (hns : ns.length ≤ 100)
    (q : ∀ s', Keeps s s' → Q (.bool true) s') : wpAny (model pw w) A (call (.ref 105) [v]) Q E s := by
  refine enter (k := k) (o := o105_11 w.params) (fd := fd11) (body := fnBody 11) (binds := [(Str.ofString "script", v)]) B ok (by omega) (by kernel_rfl) (by rfl) (by kernel_rfl) rfl (by kernel_rfl) rfl
    (fun L x hx => by simp at hx; subst hx; exact .inl (by kernel_rfl)) (by simp) (P := fun u s' => u = .bool true)
    (fun L s₁ E X hb => ?_) (fun u s' kk e => by subst e; exact q s' kk) (by kernel_rfl) (by kernel_rfl) (by kernel_rfl)
  have hbP := hb _ (List.mem_singleton.mpr rfl)
  have ok' := ok.deeper (callEnvC fd11 L 105)
  generalize A.deeper (callEnvC fd11 L 105) = A' at ok' ⊢
  have hh := ok'.handled
  rw [l_body]
  have hN : (numN ns).length ≤ 12 := by unfold numN; rw [List.length_take]; omega
  refine wpAny_execs_cons (l0 (L := L) X hbP (r.keep X.base) hns fun s₂ X₂ V₂ => ?_)
  dsimp only
  generalize numN ns = N at V₂ hN
  refine wpAny_execs_cons (l1 (L := L) B hh X₂ V₂ fun s₃ X₃ V₃ => ?_)
  dsimp only
  generalize N.sum = t at V₃
  refine wpAny_execs_cons (l2 (L := L) B hh X₃ V₃ fun s₄ X₄ V₄ => ?_)
  dsimp only
  refine wpAny_execs_cons (l3 (L := L) X₄ V₄ fun s₅ X₅ V₅ => ?_)
  dsimp only
  refine wpAny_execs_cons (l4 (L := L) hh X₅ V₅ fun s₆ X₆ V₆ => ?_)
  dsimp only
  refine wpAny_execs_cons (l5 (L := L) B hh X₆ V₆ hN fun s₇ X₇ V₇ => ?_)
  dsimp only
  refine wpAny_execs_cons (l6 (L := L) B ok' (by omega) X₇ ⟨V₇.1, V₇.2.1, V₇.2.2.1, trivial⟩ hN fun s₈ X₈ V₈ => ?_)
  dsimp only
  refine wpAny_execs_cons (l7 (L := L) B ok' (by omega) X₈ V₈ hN fun s₉ X₉ V₉ => ?_)
  dsimp only
  refine wpAny_execs_cons (l8 (L := L) B ok' (by omega) X₉ V₉ hN fun s₁₀ X₁₀ V₁₀ => ?_)
  dsimp only
  have e : meantW t N = (letW N).map (gn t) := by unfold meantW letW; rw [List.map_map]; rfl
  rw [e] at V₁₀
  have F := faces t (letW_lt (N := N))
  have hW := letW_len N
  generalize letW N = W at V₁₀ F hW
  have hx : (W.map (gn t)).length ≤ 100 := by rw [List.length_map]; omega
  have hy : (W.map (fn t)).length ≤ 100 := by rw [List.length_map]; omega
  refine wpAny_execs_cons (l9 (L := L) B ok' (by omega) X₁₀ ⟨V₁₀.1, V₁₀.2.1, trivial⟩ hx fun s₁₁ X₁₁ V₁₁ => ?_)
  dsimp only
  refine wpAny_execs_cons (l10 (L := L) B ok' (by omega) X₁₁ V₁₁ hx hy fun s₁₂ X₁₂ V₁₂ => ?_)
  dsimp only
  refine wpAny_execs_cons (l11 (L := L) B ok' (by omega) X₁₂ V₁₂ hy ?_ (by rw [told_map F.gi, told_map F.fi]) (fun r hr => found_in F hr) fun s₁₃ X₁₃ V₁₃ => ?_)
  · have h1 := found_len (W.map (gn t)) []
    have h2 := found_len (W.map (fn t)) [1114111]
    rw [List.length_append]
    omega
  dsimp only
  refine wpAny_execs_cons (l12 (L := L) F B ok' (by omega) X₁₃ V₁₃ (by omega) fun s₁₄ X₁₄ => ?_)
  dsimp only
  with_unfolding_all have hst : lSt 13 = .Return (some (.Constant (.bool true) _ _)) _ := rfl
  rw [hst]
  refine wpAny_execs_cons (wpAny_Return_some (wpAny_Constant_bool ?_))
  exact ⟨_, rfl, X₁₄, rfl⟩
theorem rvs_ints {h : Heap} : ∀ {vs : List Value} {ns : List Int}, IntsAre vs ns → Rvs h vs (ns.map .int)
  | _, _, .nil => rvs_nil _
  | _, _, .cons a b r => rvs_cons (rv_int _ _ _) (rvs_ints r)
end
theorem walked : Walked := fun w s a vs ns hb hg hl hI hlay hn => law_ok hb ok_caller (by omega) (rv_list hl (rvs_ints hI)) (by omega) fun s' k => ⟨rfl, k⟩
theorem all_done : PySem.Challenge.rw_rl0074_01.Holds := holds_law' walked
end
end Mine
end
theorem PySem.Challenge.cw_rl0074_01_holds : PySem.Challenge.rw_rl0074_01.Holds :=
  Mine.all_done
