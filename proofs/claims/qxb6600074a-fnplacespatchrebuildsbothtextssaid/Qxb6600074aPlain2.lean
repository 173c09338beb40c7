import Derived.Test.Qxb6600074aPlain
namespace Go.Proofs.Qxb6600074a
set_option linter.unusedVariables false

/-- A run of marked lines [s, e), as slide holds it. -/
structure Run (L : Nat → Int) (n : Nat) (U : List Int) (K : Nat) (C : Nat → Bool) (s e g : Nat) : Prop where
  lt : s < e
  le : e ≤ n
  on : ∀ j, s ≤ j → j < e → C j = true
  gap : g = cnt C s
  um : unm L C n = U
  top : K < mrk C e
/-- Nothing marked right above. -/
def Lm (C : Nat → Bool) (s : Nat) : Prop := ∀ t, s = t + 1 → C t = false
/-- Nothing marked right below. -/
def Rm (n : Nat) (C : Nat → Bool) (e : Nat) : Prop := e < n → C e = false
/-- At the head of the outer loop. -/
structure Outer (L : Nat → Int) (n : Nat) (U : List Int) (C : Nat → Bool) (s g : Nat) : Prop where
  le : s ≤ n
  gap : g = cnt C s
  um : unm L C n = U
  edge : s < n → C s = true → Lm C s

section
variable {L : Nat → Int} {n : Nat} {U : List Int} {K : Nat} {C : Nat → Bool} {s e g : Nat}

theorem Run.gap_le (h : Run L n U K C s e g) : g ≤ U.length := by
  rw [← h.um, cnt_unm, h.gap]
  exact cnt_mono C (by have := h.lt; have := h.le; omega)

theorem Run.gap_pos {t : Nat} (h : Run L n U K C (t + 1) e g) (ht : C t = false) : 0 < g := by rw [h.gap, cnt_off ht]; omega

theorem Run.gap_le_s (h : Run L n U K C s e g) : g ≤ s := by rw [h.gap]; exact cnt_le _ _

theorem Run.up {t f : Nat} (h : Run L n U K C (t + 1) (f + 1) g) (ht : C t = false) (hL : L t = L f) : Run L n U K (slideUp C t f) t f (g - 1) ∧ Rm n (slideUp C t f) f := by
  have h1 := h.lt
  have h2 := h.le
  have hr : ∀ j, t < j → j ≤ f → C j = true := fun j a b => h.on j (by omega) (by omega)
  refine ⟨⟨by omega, by omega, fun j a b => ?_, ?_, ?_, ?_⟩, fun _ => ?_⟩
  · unfold slideUp; rw [upd_ne _ _ (by omega)]
    by_cases hj : j = t
    · subst hj; exact upd_self _ _ _
    · rw [upd_ne _ _ hj]; exact hr j (by omega) (by omega)
  · rw [h.gap, cnt_off ht, Nat.add_sub_cancel]
    exact cnt_congr (fun i hi => by unfold slideUp; rw [upd_ne _ _ (by omega), upd_ne _ _ (by omega)])
  · rw [slideUp_unm L (by omega) (by omega) ht hr hL, h.um]
  · rw [slideUp_mrk (by omega) ht hr]; exact h.top
  · unfold slideUp; exact upd_self _ _ _

theorem Run.left {t : Nat} (h : Run L n U K C (t + 1) e g) (ht : C t = true) : Run L n U K C t e g := by
  have h1 := h.lt
  refine ⟨by omega, h.le, fun j a b => ?_, ?_, h.um, h.top⟩
  · by_cases hj : j = t
    · subst hj; exact ht
    · exact h.on j (by omega) b
  · rw [h.gap, cnt_on ht]

theorem Run.down (h : Run L n U K C s e g) (hen : e < n) (he : C e = false) (hL : L s = L e) : Run L n U K (slideDn C s e) (s + 1) (e + 1) (g + 1) ∧ Lm (slideDn C s e) (s + 1) := by
  have h1 := h.lt
  have hs : slideDn C s e s = false := by unfold slideDn; rw [upd_ne _ _ (by omega), upd_self]
  refine ⟨⟨by omega, by omega, fun j a b => ?_, ?_, ?_, ?_⟩, fun t ht => ?_⟩
  · unfold slideDn
    by_cases hj : j = e
    · subst hj; exact upd_self _ _ _
    · rw [upd_ne _ _ hj, upd_ne _ _ (by omega)]; exact h.on j (by omega) (by omega)
  · rw [cnt_off hs, h.gap]
    congr 1
    exact cnt_congr (fun i hi => by unfold slideDn; rw [upd_ne _ _ (by omega), upd_ne _ _ (by omega)])
  · rw [slideDn_unm L h1 hen h.on he hL, h.um]
  · rw [slideDn_mrk h1 h.on he]; exact h.top
  · obtain rfl : s = t := by omega
    exact hs

theorem Run.right (h : Run L n U K C s e g) (hen : e < n) (he : C e = true) : Run L n U K C s (e + 1) g := by
  have h1 := h.lt
  have h2 := h.top
  refine ⟨by omega, by omega, fun j a b => ?_, h.gap, h.um, by rw [mrk_on he]; omega⟩
  by_cases hj : j = e
  · subst hj; exact he
  · exact h.on j a (by omega)

/-- Where the run goes back to: the last place at which it stood beside changes of the other text. -/
def LastP (L : Nat → Int) (C : Nat → Bool) (z : Int) (len e : Nat) : Prop := z = -1 ∨ ∃ q : Nat, z = (q : Int) ∧ len ≤ q ∧ q ≤ e ∧ ∀ j, q ≤ j → j < e → L (j - len) = L j ∧ C (j - len) = false
def LP (L : Nat → Int) (C : Nat → Bool) (z : Int) (len s e : Nat) : Prop := len = e - s → LastP L C z len e

theorem LP.neg (L : Nat → Int) (C : Nat → Bool) (len s e : Nat) : LP L C (-1) len s e := fun _ => .inl rfl
theorem LP.set (L : Nat → Int) (C : Nat → Bool) {len s e : Nat} (h : len ≤ e - s) : LP L C (e : Int) len s e := fun _ => .inr ⟨e, rfl, by omega, Nat.le_refl _, fun j a b => by omega⟩
theorem LP.off (L : Nat → Int) (C : Nat → Bool) (z : Int) {len s e : Nat} (h : len < e - s) : LP L C z len s e := fun h' => by omega

theorem LP.down {z : Int} {len : Nat} (h : LP L C z len s e) (hse : s < e) (hL : L s = L e) : LP L (slideDn C s e) z len (s + 1) (e + 1) := by
  intro hl
  have hl' : len = e - s := by omega
  rcases h hl' with h | ⟨q, h1, h2, h3, h4⟩
  · exact .inl h
  · refine .inr ⟨q, h1, h2, by omega, fun j a b => ?_⟩
    by_cases hj : j = e
    · subst hj
      rw [show j - len = s by omega]
      exact ⟨hL, by unfold slideDn; rw [upd_ne _ _ (by omega), upd_self]⟩
    · have := h4 j a (by omega)
      refine ⟨this.1, ?_⟩
      unfold slideDn
      rw [upd_ne _ _ (by omega), upd_ne _ _ (by omega)]
      exact this.2

/-- One step of the way back. -/
theorem LastP.up {t f len q : Nat} (h : ∀ j, q ≤ j → j < f + 1 → L (j - len) = L j ∧ C (j - len) = false) (hl : len = f - t) (htf : t < f) (hq : len ≤ q) : ∀ j, q ≤ j → j < f → L (j - len) = L j ∧ slideUp C t f (j - len) = false := by
  intro j a b
  have := h j a (by omega)
  refine ⟨this.1, ?_⟩
  unfold slideUp
  rw [upd_ne _ _ (by omega), upd_ne _ _ (by omega)]
  exact this.2

theorem Run.start (hm : unm L C n = U) (hg : g = cnt C s) (hs : s < n) (hC : C s = true) : Run L n U (mrk C s) C s (s + 1) g :=
  ⟨by omega, by omega, fun j a b => by obtain rfl : j = s := by omega
                                       exact hC, hg, hm, by rw [mrk_on hC]; omega⟩

/-- The round of the outer loop is over: s becomes e. -/
theorem Run.out (h : Run L n U K C s e g) (hr : Rm n C e) : Outer L n U C e g := by
  refine ⟨h.le, ?_, h.um, fun h1 h2 => ?_⟩
  · rw [h.gap]; exact (cnt_run (by have := h.lt; omega) h.on).symm
  · rw [hr h1] at h2; cases h2

theorem Outer.step (h : Outer L n U C s g) (hs : s < n) (hC : C s = false) : Outer L n U C (s + 1) (g + 1) :=
  ⟨by omega, by rw [cnt_off hC, h.gap], h.um, fun _ _ t ht => by obtain rfl : s = t := by omega
                                                                 exact hC⟩
end

/-- The outer loop's measure. -/
def mu (n : Nat) (C : Nat → Bool) (s : Nat) : Nat := (n - mrk C s) * (n + 1) + (n - s)
theorem mu_step {n : Nat} {C : Nat → Bool} {s : Nat} (hs : s < n) (hC : C s = false) : mu n C (s + 1) < mu n C s := by
  unfold mu; rw [mrk_off hC]; omega
theorem mu_run {n : Nat} {C D : Nat → Bool} {s e : Nat} (he : e ≤ n) (h : mrk C s < mrk D e) : mu n D e < mu n C s := by
  unfold mu
  have h1 := mrk_le D e
  have h2 : (n - mrk D e + 1) * (n + 1) ≤ (n - mrk C s) * (n + 1) := Nat.mul_le_mul_right _ (by omega)
  rw [Nat.add_mul] at h2
  omega

end Go.Proofs.Qxb6600074a
