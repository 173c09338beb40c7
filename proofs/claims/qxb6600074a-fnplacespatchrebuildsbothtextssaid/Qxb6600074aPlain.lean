namespace Go.Proofs.Qxb6600074a

/-! ### Marks, and the lines that are not marked -/
def upd (C : Nat → Bool) (k : Nat) (b : Bool) : Nat → Bool := fun i => if i = k then b else C i
/-- The unmarked lines among the first n, in order. -/
def unm (L : Nat → Int) (C : Nat → Bool) : Nat → List Int
  | 0 => []
  | n + 1 => if C n then unm L C n else unm L C n ++ [L n]
/-- How many of the first n are not marked. -/
def cnt (C : Nat → Bool) : Nat → Nat
  | 0 => 0
  | n + 1 => if C n then cnt C n else cnt C n + 1
/-- How many of the first n are marked. -/
def mrk (C : Nat → Bool) : Nat → Nat
  | 0 => 0
  | n + 1 => if C n then mrk C n + 1 else mrk C n

theorem upd_self (C : Nat → Bool) (k : Nat) (b : Bool) : upd C k b k = b := by simp [upd]
theorem upd_ne (C : Nat → Bool) {k i : Nat} (b : Bool) (h : i ≠ k) : upd C k b i = C i := by simp [upd, h]
theorem upd_comm (C : Nat → Bool) {k l : Nat} (a b : Bool) (h : k ≠ l) : upd (upd C k a) l b = upd (upd C l b) k a := by
  funext i; unfold upd
  by_cases h1 : i = k
  · subst h1; simp [h]
  · simp [h1]

theorem cnt_unm (L : Nat → Int) (C : Nat → Bool) (n : Nat) : (unm L C n).length = cnt C n := by
  induction n with
  | zero => rfl
  | succ n ih => unfold unm cnt; split <;> simp [ih]
theorem cnt_mrk (C : Nat → Bool) (n : Nat) : cnt C n + mrk C n = n := by
  induction n with
  | zero => rfl
  | succ n ih => unfold cnt mrk; split <;> omega
theorem cnt_le (C : Nat → Bool) (n : Nat) : cnt C n ≤ n := by have := cnt_mrk C n; omega
theorem mrk_le (C : Nat → Bool) (n : Nat) : mrk C n ≤ n := by have := cnt_mrk C n; omega
theorem cnt_on {C : Nat → Bool} {n : Nat} (h : C n = true) : cnt C (n + 1) = cnt C n := by simp [cnt, h]
theorem cnt_off {C : Nat → Bool} {n : Nat} (h : C n = false) : cnt C (n + 1) = cnt C n + 1 := by simp [cnt, h]
theorem mrk_on {C : Nat → Bool} {n : Nat} (h : C n = true) : mrk C (n + 1) = mrk C n + 1 := by simp [mrk, h]
theorem mrk_off {C : Nat → Bool} {n : Nat} (h : C n = false) : mrk C (n + 1) = mrk C n := by simp [mrk, h]

theorem cnt_mono (C : Nat → Bool) {m n : Nat} (h : m ≤ n) : cnt C m ≤ cnt C n := by
  induction n with
  | zero => obtain rfl : m = 0 := by omega
            exact Nat.le_refl _
  | succ n ih =>
    by_cases hm : m = n + 1
    · subst hm; exact Nat.le_refl _
    · have h1 := ih (by omega)
      have h2 : cnt C n ≤ cnt C (n + 1) := by simp only [cnt]; split <;> omega
      omega
theorem mrk_mono (C : Nat → Bool) {m n : Nat} (h : m ≤ n) : mrk C m ≤ mrk C n := by
  induction n with
  | zero => obtain rfl : m = 0 := by omega
            exact Nat.le_refl _
  | succ n ih =>
    by_cases hm : m = n + 1
    · subst hm; exact Nat.le_refl _
    · have h1 := ih (by omega)
      have h2 : mrk C n ≤ mrk C (n + 1) := by simp only [mrk]; split <;> omega
      omega

theorem unm_congr (L : Nat → Int) {C D : Nat → Bool} {n : Nat} (h : ∀ i, i < n → C i = D i) : unm L C n = unm L D n := by
  induction n with
  | zero => rfl
  | succ n ih => unfold unm; rw [ih (fun i hi => h i (by omega)), h n (by omega)]
theorem cnt_congr {C D : Nat → Bool} {n : Nat} (h : ∀ i, i < n → C i = D i) : cnt C n = cnt D n := by
  induction n with
  | zero => rfl
  | succ n ih => unfold cnt; rw [ih (fun i hi => h i (by omega)), h n (by omega)]
theorem mrk_congr {C D : Nat → Bool} {n : Nat} (h : ∀ i, i < n → C i = D i) : mrk C n = mrk D n := by
  induction n with
  | zero => rfl
  | succ n ih => unfold mrk; rw [ih (fun i hi => h i (by omega)), h n (by omega)]

theorem unm_run (L : Nat → Int) {C : Nat → Bool} {a b : Nat} (hab : a ≤ b) (h : ∀ i, a ≤ i → i < b → C i = true) : unm L C b = unm L C a := by
  induction b with
  | zero => obtain rfl : a = 0 := by omega
            rfl
  | succ b ih =>
    by_cases hm : a = b + 1
    · rw [hm]
    · rw [unm, if_pos (h b (by omega) (by omega)), ih (by omega) (fun i h1 h2 => h i h1 (by omega))]
theorem mrk_run {C : Nat → Bool} {a b : Nat} (hab : a ≤ b) (h : ∀ i, a ≤ i → i < b → C i = true) : mrk C b = mrk C a + (b - a) := by
  induction b with
  | zero => obtain rfl : a = 0 := by omega
            rfl
  | succ b ih =>
    by_cases hm : a = b + 1
    · rw [hm]; omega
    · rw [mrk, if_pos (h b (by omega) (by omega)), ih (by omega) (fun i h1 h2 => h i h1 (by omega))]; omega
theorem cnt_run {C : Nat → Bool} {a b : Nat} (hab : a ≤ b) (h : ∀ i, a ≤ i → i < b → C i = true) : cnt C b = cnt C a := by
  have h1 := cnt_mrk C a; have h2 := cnt_mrk C b; have h3 := mrk_run hab h; omega

theorem unm_ext (L : Nat → Int) {C D : Nat → Bool} {e n : Nat} (hen : e ≤ n) (h0 : unm L C e = unm L D e) (h : ∀ i, e ≤ i → i < n → C i = D i) : unm L C n = unm L D n := by
  induction n with
  | zero => obtain rfl : e = 0 := by omega
            exact h0
  | succ n ih =>
    by_cases hm : e = n + 1
    · rw [← hm]; exact h0
    · rw [unm, unm, ih (by omega) (fun i h1 h2 => h i h1 (by omega)), h n (by omega) (by omega)]

/-- THE MOVE: the run [t+1, e+1) goes up a line, where line t is the same as line e. -/
def slideUp (C : Nat → Bool) (t e : Nat) : Nat → Bool := upd (upd C t true) e false

theorem slideUp_unm (L : Nat → Int) {C : Nat → Bool} {t e n : Nat} (hte : t < e) (hen : e < n) (ht : C t = false) (hr : ∀ j, t < j → j ≤ e → C j = true) (hL : L t = L e) : unm L (slideUp C t e) n = unm L C n := by
  have e1 : unm L (slideUp C t e) t = unm L C t := unm_congr L (fun i hi => by unfold slideUp; rw [upd_ne _ _ (by omega), upd_ne _ _ (by omega)])
  have e2 : unm L (slideUp C t e) e = unm L (slideUp C t e) t := unm_run L (by omega) (fun i h1 h2 => by
    unfold slideUp; rw [upd_ne _ _ (by omega)]
    by_cases h : i = t
    · subst h; exact upd_self _ _ _
    · rw [upd_ne _ _ h]; exact hr i (by omega) (by omega))
  have e3 : unm L (slideUp C t e) (e + 1) = unm L C t ++ [L e] := by
    rw [unm, if_neg (by unfold slideUp; rw [upd_self]; simp), e2, e1]
  have f1 : unm L C (t + 1) = unm L C t ++ [L t] := by rw [unm, if_neg (by rw [ht]; simp)]
  have f2 : unm L C (e + 1) = unm L C (t + 1) := unm_run L (by omega) (fun i h1 h2 => hr i (by omega) (by omega))
  refine unm_ext L (e := e + 1) (by omega) (by rw [e3, f2, f1, hL]) (fun i h1 h2 => ?_)
  unfold slideUp; rw [upd_ne _ _ (by omega), upd_ne _ _ (by omega)]

theorem slideUp_mrk {C : Nat → Bool} {t e : Nat} (hte : t < e) (ht : C t = false) (hr : ∀ j, t < j → j ≤ e → C j = true) : mrk (slideUp C t e) e = mrk C (e + 1) := by
  have e1 : mrk (slideUp C t e) t = mrk C t := mrk_congr (fun i hi => by unfold slideUp; rw [upd_ne _ _ (by omega), upd_ne _ _ (by omega)])
  have e2 : mrk (slideUp C t e) e = mrk (slideUp C t e) t + (e - t) := mrk_run (by omega) (fun i h1 h2 => by
    unfold slideUp; rw [upd_ne _ _ (by omega)]
    by_cases h : i = t
    · subst h; exact upd_self _ _ _
    · rw [upd_ne _ _ h]; exact hr i (by omega) (by omega))
  have f1 : mrk C (t + 1) = mrk C t := mrk_off ht
  have f2 : mrk C (e + 1) = mrk C (t + 1) + (e + 1 - (t + 1)) := mrk_run (by omega) (fun i h1 h2 => hr i (by omega) (by omega))
  omega

/-- THE MOVE BACK: the run [s, e) goes down a line. -/
def slideDn (C : Nat → Bool) (s e : Nat) : Nat → Bool := upd (upd C s false) e true

theorem slideUp_Dn {C : Nat → Bool} {s e : Nat} (hse : s < e) (hs : C s = true) (he : C e = false) : slideUp (slideDn C s e) s e = C := by
  funext i; unfold slideUp slideDn upd
  by_cases h1 : i = e
  · subst h1; simp [he]
  · by_cases h2 : i = s
    · subst h2; simp [hs, h1]
    · simp [h1, h2]

theorem slideDn_unm (L : Nat → Int) {C : Nat → Bool} {s e n : Nat} (hse : s < e) (hen : e < n) (hr : ∀ j, s ≤ j → j < e → C j = true) (he : C e = false) (hL : L s = L e) : unm L (slideDn C s e) n = unm L C n := by
  have h := slideUp_unm L (C := slideDn C s e) (t := s) (e := e) (n := n) hse hen (by unfold slideDn; rw [upd_ne _ _ (by omega), upd_self]) (fun j h1 h2 => by
    unfold slideDn
    by_cases h : j = e
    · subst h; exact upd_self _ _ _
    · rw [upd_ne _ _ h, upd_ne _ _ (by omega)]; exact hr j (by omega) (by omega)) hL
  rw [slideUp_Dn hse (hr s (by omega) hse) he] at h
  exact h.symm

theorem slideDn_mrk {C : Nat → Bool} {s e : Nat} (hse : s < e) (hr : ∀ j, s ≤ j → j < e → C j = true) (he : C e = false) : mrk (slideDn C s e) (e + 1) = mrk C e := by
  have h := slideUp_mrk (C := slideDn C s e) (t := s) (e := e) hse (by unfold slideDn; rw [upd_ne _ _ (by omega), upd_self]) (fun j h1 h2 => by
    unfold slideDn
    by_cases h : j = e
    · subst h; exact upd_self _ _ _
    · rw [upd_ne _ _ h, upd_ne _ _ (by omega)]; exact hr j (by omega) (by omega))
  rw [slideUp_Dn hse (hr s (by omega) hse) he] at h
  exact h.symm

end Go.Proofs.Qxb6600074a
