import Derived.Test.Qxb6600074aPlain
namespace Go.Proofs.Qxb6600074a
set_option linter.unusedVariables false

/-- One change: a's lines [s, e) became b's lines [f, t). -/
structure Ch where
  s : Nat
  e : Nat
  f : Nat
  t : Nat
def ch0 : Ch := ⟨0, 0, 0, 0⟩
/-- Where the change before number k ended, in a and in b. -/
def pe (l : List Ch) : Nat → Nat
  | 0 => 0
  | k + 1 => (l.getD k ch0).e
def pt (l : List Ch) : Nat → Nat
  | 0 => 0
  | k + 1 => (l.getD k ch0).t

def Off (C : Nat → Bool) (a b : Nat) : Prop := ∀ i, a ≤ i → i < b → C i = false
def On (C : Nat → Bool) (a b : Nat) : Prop := ∀ i, a ≤ i → i < b → C i = true

/-- Change number k is as it must be. -/
structure GoodAt (A B : Nat → Bool) (l : List Ch) (x y k : Nat) : Prop where
  s0 : pe l k ≤ (l.getD k ch0).s
  s1 : (l.getD k ch0).s ≤ (l.getD k ch0).e
  s2 : (l.getD k ch0).e ≤ x
  t0 : pt l k ≤ (l.getD k ch0).f
  t1 : (l.getD k ch0).f ≤ (l.getD k ch0).t
  t2 : (l.getD k ch0).t ≤ y
  ne : (l.getD k ch0).s < (l.getD k ch0).e ∨ (l.getD k ch0).f < (l.getD k ch0).t
  gap : (l.getD k ch0).s - pe l k = (l.getD k ch0).f - pt l k
  apart : 0 < k → pe l k < (l.getD k ch0).s
  offA : Off A (pe l k) (l.getD k ch0).s
  onA : On A (l.getD k ch0).s (l.getD k ch0).e
  offB : Off B (pt l k) (l.getD k ch0).f
  onB : On B (l.getD k ch0).f (l.getD k ch0).t

/-- The changes up to x in a and y in b. -/
structure Good (A B : Nat → Bool) (l : List Ch) (x y : Nat) : Prop where
  each : ∀ k, k < l.length → GoodAt A B l x y k
  px : pe l l.length ≤ x
  py : pt l l.length ≤ y
  gap : x - pe l l.length = y - pt l l.length
  offA : Off A (pe l l.length) x
  offB : Off B (pt l l.length) y

theorem cnt_offs {C : Nat → Bool} {a b : Nat} (hab : a ≤ b) (h : Off C a b) : cnt C b = cnt C a + (b - a) := by
  induction b with
  | zero => obtain rfl : a = 0 := by omega
            rfl
  | succ b ih =>
    by_cases hm : a = b + 1
    · rw [hm]; omega
    · rw [cnt_off (h b (by omega) (by omega)), ih (by omega) (fun i h1 h2 => h i h1 (by omega))]; omega
theorem mrk_offs {C : Nat → Bool} {a b : Nat} (hab : a ≤ b) (h : Off C a b) : mrk C b = mrk C a := by
  have h1 := cnt_mrk C a; have h2 := cnt_mrk C b; have h3 := cnt_offs hab h; omega

section
variable {A B : Nat → Bool} {l : List Ch} {x y : Nat}

theorem pe_snoc (c : Ch) {k : Nat} (h : k ≤ l.length) : pe (l ++ [c]) k = pe l k := by
  cases k with
  | zero => rfl
  | succ k => simp only [pe]; rw [List.getD_eq_getElem?_getD, List.getD_eq_getElem?_getD, List.getElem?_append_left (by omega)]
theorem pt_snoc (c : Ch) {k : Nat} (h : k ≤ l.length) : pt (l ++ [c]) k = pt l k := by
  cases k with
  | zero => rfl
  | succ k => simp only [pt]; rw [List.getD_eq_getElem?_getD, List.getD_eq_getElem?_getD, List.getElem?_append_left (by omega)]
theorem getD_snoc_lt (c : Ch) {k : Nat} (h : k < l.length) : (l ++ [c]).getD k ch0 = l.getD k ch0 := by
  rw [List.getD_eq_getElem?_getD, List.getD_eq_getElem?_getD, List.getElem?_append_left h]
theorem getD_snoc_at (c : Ch) : (l ++ [c]).getD l.length ch0 = c := by
  rw [List.getD_eq_getElem?_getD, List.getElem?_append_right (Nat.le_refl _)]; simp

theorem GoodAt.mono {k x' y' : Nat} (h : GoodAt A B l x y k) (hx : x ≤ x') (hy : y ≤ y') : GoodAt A B l x' y' k :=
  ⟨h.s0, h.s1, Nat.le_trans h.s2 hx, h.t0, h.t1, Nat.le_trans h.t2 hy, h.ne, h.gap, h.apart, h.offA, h.onA, h.offB, h.onB⟩

theorem Good.start : Good A B [] 0 0 :=
  ⟨fun k hk => by simp at hk, Nat.le_refl _, Nat.le_refl _, rfl, fun i h1 h2 => by omega, fun i h1 h2 => by omega⟩

/-- A line that is in both. -/
theorem Good.both (h : Good A B l x y) (ha : A x = false) (hb : B y = false) : Good A B l (x + 1) (y + 1) := by
  have h1 := h.px; have h2 := h.py; have h3 := h.gap
  refine ⟨fun k hk => (h.each k hk).mono (by omega) (by omega), by omega, by omega, by omega, fun i a b => ?_, fun i a b => ?_⟩
  · by_cases hi : i = x
    · subst hi; exact ha
    · exact h.offA i a (by omega)
  · by_cases hi : i = y
    · subst hi; exact hb
    · exact h.offB i a (by omega)

/-- A change is laid. -/
theorem Good.snoc {x' y' : Nat} (h : Good A B l x y) (hx : x ≤ x') (hy : y ≤ y') (hne : x < x' ∨ y < y') (hA : On A x x') (hB : On B y y') (hap : 0 < l.length → pe l l.length < x) : Good A B (l ++ [⟨x, x', y, y'⟩]) x' y' := by
  have hlen : (l ++ [(⟨x, x', y, y'⟩ : Ch)]).length = l.length + 1 := by simp
  have h1 := h.px; have h2 := h.py
  refine ⟨fun k hk => ?_, ?_, ?_, ?_, ?_, ?_⟩
  · by_cases hkl : k < l.length
    · have g := (h.each k hkl).mono hx hy
      have e1 := pe_snoc (l := l) ⟨x, x', y, y'⟩ (Nat.le_of_lt hkl)
      have e2 := pt_snoc (l := l) ⟨x, x', y, y'⟩ (Nat.le_of_lt hkl)
      have e3 := getD_snoc_lt (l := l) ⟨x, x', y, y'⟩ hkl
      constructor <;> rw [e3] <;> (try rw [e1]) <;> (try rw [e2])
      · exact g.s0
      · exact g.s1
      · exact g.s2
      · exact g.t0
      · exact g.t1
      · exact g.t2
      · exact g.ne
      · exact g.gap
      · exact g.apart
      · exact g.offA
      · exact g.onA
      · exact g.offB
      · exact g.onB
    · obtain rfl : k = l.length := by omega
      have e1 := pe_snoc (l := l) ⟨x, x', y, y'⟩ (Nat.le_refl _)
      have e2 := pt_snoc (l := l) ⟨x, x', y, y'⟩ (Nat.le_refl _)
      have e3 := getD_snoc_at (l := l) ⟨x, x', y, y'⟩
      constructor <;> rw [e3] <;> (try rw [e1]) <;> (try rw [e2])
      · exact h1
      · exact hx
      · exact Nat.le_refl _
      · exact h2
      · exact hy
      · exact Nat.le_refl _
      · exact hne
      · exact h.gap
      · exact hap
      · exact h.offA
      · exact hA
      · exact h.offB
      · exact hB
  all_goals rw [hlen]
  all_goals simp only [pe, pt, getD_snoc_at]
  · exact Nat.le_refl _
  · exact Nat.le_refl _
  · omega
  · intro i a b; omega
  · intro i a b; omega

/-- As many unmarked lines ahead of change k in a as in b. -/
theorem Good.cnt_eq (h : Good A B l x y) : ∀ k, k ≤ l.length → cnt A (pe l k) = cnt B (pt l k)
  | 0, _ => rfl
  | k + 1, hk => by
    have ih := Good.cnt_eq h k (by omega)
    have g := h.each k (by omega)
    have a1 := cnt_offs g.s0 g.offA
    have a2 := cnt_run g.s1 g.onA
    have b1 := cnt_offs g.t0 g.offB
    have b2 := cnt_run g.t1 g.onB
    have h3 := g.gap
    simp only [pe, pt]
    omega

theorem Good.cnt_xy (h : Good A B l x y) : cnt A x = cnt B y := by
  have h1 := h.cnt_eq l.length (Nat.le_refl _)
  have h2 := cnt_offs h.px h.offA
  have h3 := cnt_offs h.py h.offB
  have h4 := h.gap
  omega

theorem Good.mrkA (h : Good A B l x y) {k : Nat} (hk : k < l.length) : mrk A (pe l (k + 1)) = mrk A (pe l k) + ((l.getD k ch0).e - (l.getD k ch0).s) := by
  have g := h.each k hk
  have a1 := mrk_offs g.s0 g.offA
  have a2 := mrk_run g.s1 g.onA
  show mrk A (l.getD k ch0).e = _
  omega
theorem Good.mrkB (h : Good A B l x y) {k : Nat} (hk : k < l.length) : mrk B (pt l (k + 1)) = mrk B (pt l k) + ((l.getD k ch0).t - (l.getD k ch0).f) := by
  have g := h.each k hk
  have a1 := mrk_offs g.t0 g.offB
  have a2 := mrk_run g.t1 g.onB
  show mrk B (l.getD k ch0).t = _
  omega
end

theorem Good.len_k {A B : Nat → Bool} {l : List Ch} {x y : Nat} (h : Good A B l x y) : ∀ k, k ≤ l.length → k ≤ pe l k + pt l k
  | 0, _ => Nat.zero_le _
  | k + 1, hk => by
    have ih := Good.len_k h k (by omega)
    have g := h.each k (by omega)
    have g1 := g.s0; have g2 := g.s1; have g3 := g.t0; have g4 := g.t1; have g5 := g.ne
    show k + 1 ≤ (l.getD k ch0).e + (l.getD k ch0).t
    omega
theorem Good.len_le {A B : Nat → Bool} {l : List Ch} {x y : Nat} (h : Good A B l x y) : l.length ≤ x + y := by
  have h1 := h.len_k l.length (Nat.le_refl _)
  have h2 := h.px; have h3 := h.py
  omega

/-- Where no more lines are left unmarked in one text, none are in the other. -/
theorem both_left {A B : Nat → Bool} {x y n m : Nat} (hx : x ≤ n) (hy : y ≤ m) (hc : cnt A n = cnt B m) (hxy : cnt A x = cnt B y) (hAx : x < n → A x = false) (hBy : y < m → B y = false) : (x < n ↔ y < m) := by
  constructor
  · intro h
    have h1 := cnt_off (hAx h)
    have h2 := cnt_mono A (show x + 1 ≤ n by omega)
    by_cases hy' : y < m
    · exact hy'
    · obtain rfl : y = m := by omega
      omega
  · intro h
    have h1 := cnt_off (hBy h)
    have h2 := cnt_mono B (show y + 1 ≤ m by omega)
    by_cases hx' : x < n
    · exact hx'
    · obtain rfl : x = n := by omega
      omega

/-- The unmarked line at x stands in the list of them at its number. -/
theorem unm_at (L : Nat → Int) {C : Nat → Bool} {x n : Nat} (hx : x < n) (hC : C x = false) : (unm L C n)[cnt C x]? = some (L x) := by
  induction n with
  | zero => omega
  | succ n ih =>
    by_cases h : x = n
    · subst h
      rw [unm, if_neg (by rw [hC]; simp), List.getElem?_append_right (by rw [cnt_unm]; exact Nat.le_refl _), cnt_unm]
      simp
    · have h1 := ih (by omega)
      have h2 : cnt C x < (unm L C n).length := (List.getElem?_eq_some_iff.1 h1).1
      rw [unm]
      split
      · exact h1
      · rw [List.getElem?_append_left h2]; exact h1

/-- Between two changes the texts are the same. -/
theorem Good.same {A B : Nat → Bool} {l : List Ch} {n m : Nat} {La Lb : Nat → Int} (h : Good A B l n m) (hu : unm La A n = unm Lb B m) {k i : Nat} (hk : k ≤ l.length)
    (hi : k < l.length → pe l k + i < (l.getD k ch0).s) (hi2 : k = l.length → pe l k + i < n) : La (pe l k + i) = Lb (pt l k + i) := by
  have hc := h.cnt_eq k hk
  by_cases hkl : k < l.length
  · have g := h.each k hkl
    have h1 := hi hkl
    have g1 := g.gap; have g2 := g.s0; have g3 := g.t0; have g4 := g.s1; have g5 := g.t1; have g6 := g.s2; have g7 := g.t2
    have a1 := unm_at La (n := n) (x := pe l k + i) (by omega) (g.offA _ (by omega) (by omega))
    have b1 := unm_at Lb (n := m) (x := pt l k + i) (by omega) (g.offB _ (by omega) (by omega))
    have a2 := cnt_offs (C := A) (a := pe l k) (b := pe l k + i) (by omega) (fun j p q => g.offA j p (by omega))
    have b2 := cnt_offs (C := B) (a := pt l k) (b := pt l k + i) (by omega) (fun j p q => g.offB j p (by omega))
    rw [show cnt A (pe l k + i) = cnt B (pt l k + i) by omega, hu, b1] at a1
    exact (Option.some.inj a1).symm
  · obtain rfl : k = l.length := by omega
    have h1 := hi2 rfl
    have g1 := h.gap; have g2 := h.px; have g3 := h.py
    have a1 := unm_at La (n := n) (x := pe l l.length + i) (by omega) (h.offA _ (by omega) (by omega))
    have b1 := unm_at Lb (n := m) (x := pt l l.length + i) (by omega) (h.offB _ (by omega) (by omega))
    have a2 := cnt_offs (C := A) (a := pe l l.length) (b := pe l l.length + i) (by omega) (fun j p q => h.offA j p (by omega))
    have b2 := cnt_offs (C := B) (a := pt l l.length) (b := pt l l.length + i) (by omega) (fun j p q => h.offB j p (by omega))
    rw [show cnt A (pe l l.length + i) = cnt B (pt l l.length + i) by omega, hu, b1] at a1
    exact (Option.some.inj a1).symm

end Go.Proofs.Qxb6600074a
