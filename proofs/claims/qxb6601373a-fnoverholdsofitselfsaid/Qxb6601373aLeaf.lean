import Derived.Test.Qxb6601373aBase
namespace Go.Proofs.Qxb6601373a
open Go.RowKit
set_option linter.unusedVariables false

/-- Numbers as cells. -/
def cv (F : Nat → Int) (i : Nat) : Value := .int .i64 (F i)

theorem Own.cap {w : World} {base : Nat} {e : TypeId} {sz : Nat} {a : Option Addr} {n c : Nat} {f : Nat → Value} (h : Own w base e sz a n c f) : n ≤ c ∧ c ≤ maxLen := by
  rcases h.2 with ⟨h1, h2⟩ | ⟨g, cap, cur, h1, _, _, h4, h5, _⟩
  · simp only [Value.slice.injEq] at h1; obtain ⟨_, rfl, rfl⟩ := h1; exact ⟨Nat.le_refl _, Nat.zero_le _⟩
  · simp only [Value.slice.injEq] at h1; obtain ⟨_, _, rfl⟩ := h1; exact ⟨h4, h5⟩

set_option maxRecDepth 100000 in
set_option maxHeartbeats 400000 in
theorem nofew (a b : Option Addr) (n c d : Nat) (F : Nat → Int) (w : World) (ha : Rd w a n (cv F)) (hb : Rd w b n (cv F)) (hn : n ≤ 1048576) :
    Calls Try.prog 38 #[.slice a n c, .slice b n d] w fun e w' => e = .returned (.bool true) ∧ w = w' := by
  go_enter Try.func38, Try.ntmps38
  go_wp2
  go_loop [9] (fun v => ∃ k : Nat, k ≤ n ∧ v = .int .i64 k) (fun v => n - (intOf v).toNat)
  case atStart => exact ⟨0, Nat.zero_le _, rfl⟩
  case round =>
    obtain ⟨k, hk, rfl⟩ := hrel
    by_cases hlt : k < n
    · rcases ha with h | ⟨g, o, rfl, hca⟩
      · omega
      rcases hb with h | ⟨g', o', rfl, hcb⟩
      · omega
      have c1 : w.cell? ⟨g, o + k, none⟩ = some (.int .i64 (F k)) := hca k hlt
      have c2 : w.cell? ⟨g', o' + k, none⟩ = some (.int .i64 (F k)) := hcb k hlt
      have hi : (k : Int) < (n : Int) := by omega
      clear hca hcb
      generalize F k = x at c1 c2
      go_wp2
      go_round
      case rel => exact ⟨k + 1, by omega, by go_num⟩
      case measure => simp [intOf]; omega
    · go_wp2
      go_ret
      exact ⟨rfl, rfl⟩

/-- It answers a bool, writes nothing (it may draw), and where it says yes p holds. -/
def RetD (w : World) (p : Prop) (e : Ending) (w' : World) : Prop := ∃ r q, e = .returned (.bool r) ∧ w.drewN q = w' ∧ (r = true → p)

set_option maxRecDepth 100000 in
set_option maxHeartbeats 400000 in
theorem rising (a : Option Addr) (n c : Nat) (F : Nat → Int) (w : World) (ha : Rd w a n (cv F)) (hn : n ≤ 1048576) :
    Calls Try.prog 36 #[.slice a n c] w fun e w' => RetD w (∀ i, i + 1 < n → F i < F (i + 1)) e w' := by
  go_enter Try.func36, Try.ntmps36
  go_wp2
  go_loopw [3] (fun v wr => ∃ k q : Nat, v = .int .i64 ((k : Int) + 1) ∧ (k = 0 ∨ k < n) ∧ w.drewN q = wr ∧ Hid (∀ i, i < k → F i < F (i + 1))) (fun v _ => n - (intOf v).toNat)
  case atStart => exact ⟨0, 0, rfl, .inl rfl, rfl, fun i hi => by omega⟩
  case round =>
    obtain ⟨k, q, rfl, hk, rfl, hF⟩ := hrel
    by_cases hlt : k + 1 < n
    · rcases ha with h | ⟨g, o, rfl, hca⟩
      · omega
      have c1 : w.cell? ⟨g, o + k, none⟩ = some (.int .i64 (F k)) := hca k (by omega)
      have c2 : w.cell? ⟨g, o + (k + 1), none⟩ = some (.int .i64 (F (k + 1))) := hca (k + 1) (by omega)
      have hi : (k : Int) < (n : Int) := by omega
      have hi1 : (k : Int) + 1 < (n : Int) := by omega
      have wx : IntKind.i64.wrap ((k : Int) + 1 - 1) = (k : Int) := by rw [IntKind.wrap_i64]; omega
      have x1 : (0 : Int) ≤ (k : Int) + 1 := by omega
      clear hca hk
      by_cases hxy : F (k + 1) ≤ F k
      · have hd : decide (F (k + 1) ≤ F k) = true := decide_eq_true hxy
        clear hxy
        go_wp2
        go_quiet (fail)
        go_wp2
        go_ret
        exact ⟨false, _, rfl, (World.drewN_drewN ..).symm, fun h => by cases h⟩
      · have hd : decide (F (k + 1) ≤ F k) = false := decide_eq_false hxy
        have HXY : Hid (F k < F (k + 1)) := by unfold Hid; omega
        clear hxy
        go_wp2
        go_quiet (fail)
        go_wp2
        go_roundw
        case rel =>
          refine ⟨k + 1, _, by go_num, .inr (by omega), rfl, fun i hi => ?_⟩
          by_cases h : i = k
          · subst h; exact HXY.out
          · exact hF.out i (by omega)
        case measure => simp [intOf]; omega
    · go_wp2
      go_ret
      exact ⟨true, _, rfl, rfl, fun _ i hi => hF.out i (by omega)⟩

set_option maxRecDepth 100000 in
set_option maxHeartbeats 400000 in
theorem rows (l M n : Nat) (w : World) (hl : l ≤ 1048576) (hn : n ≤ 1048576) (hM : M ≤ 9223372036854775807) :
    Calls Try.prog 29 #[.int .i64 (l : Int), .int .i64 (M : Int), .int .i64 (n : Int)] w fun e w' => RetB w (l = M * n) e w' := by
  by_cases hM0 : M = 0
  · subst hM0
    by_cases hl0 : l = 0
    · subst hl0
      go_enter Try.func29, Try.ntmps29
      go_wp2
      go_ret
      exact retB_true _ _ (by omega)
    · have e1 : ((l : Int) == 0) = false := beq_eq_false_iff_ne.2 (by omega)
      clear hl0
      go_enter Try.func29, Try.ntmps29
      go_wp2
      go_ret
      exact retB_false _ _
  · have e1 : ((M : Int) == 0) = false := beq_eq_false_iff_ne.2 (by omega)
    have hM1 : 0 < M := by omega
    clear hM0
    go_enter Try.func29, Try.ntmps29
    go_wp2
    · have h1 : (l : Int) % (M : Int) = 0 := by assumption
      go_ret
      refine ⟨_, rfl, rfl, fun h => ?_⟩
      have h2 : wrap64 ((l : Int) / (M : Int)) = (n : Int) := beq_iff_eq.1 h
      have h3 : (l : Int) / (M : Int) = ((l / M : Nat) : Int) := rfl
      have h4 : l / M ≤ l := Nat.div_le_self _ _
      rw [h3] at h2
      have h5 : l / M = n := by
        generalize l / M = d at h2 h4
        unfold wrap64 at h2
        omega
      have h6 : l % M = 0 := by
        have : (l : Int) % (M : Int) = ((l % M : Nat) : Int) := rfl
        omega
      have h7 := Nat.div_add_mod l M
      rw [h5, h6] at h7
      omega
    · go_ret
      exact retB_false _ _

set_option maxHeartbeats 400000 in
theorem bytes26 (v0 v1 : Value) (a0 a1 a2 : Option Addr) (n0 c0 n1 c1 n2 c2 : Nat) (w : World) :
    Calls Try.prog 26 #[v0, v1, .slice a0 n0 c0, .slice a1 n1 c1, .slice a2 n2 c2] w fun e w' => ∃ r, e = .returned (.bool r) ∧ w = w' := by
  go_enter Try.func26, Try.ntmps26
  go_wp2
  all_goals (go_ret; exact ⟨_, rfl, rfl⟩)

/-- The shape of a table. -/
structure Shape (A B : Int) (n nL nS : Nat) (F : Nat → Int) : Prop where
  a : 0 ≤ A
  b : 0 ≤ B
  lev : nL = A.toNat * n
  sum : nS = B.toNat * n
  up : ∀ i, i + 1 < n → F i < F (i + 1)

set_option maxRecDepth 100000 in
set_option maxHeartbeats 1000000 in
theorem shape (A B : Int) (a0 a1 a2 : Option Addr) (n c0 nL c1 nS c2 : Nat) (F : Nat → Int) (w : World) (ha : Rd w a0 n (cv F)) (hA : A ≤ 9223372036854775807) (hB : B ≤ 9223372036854775807) (hn : n ≤ 131072) (hL : nL ≤ 131072) (hS : nS ≤ 131072) :
    Calls Try.prog 27 #[.int .i64 A, .int .i64 B, .slice a0 n c0, .slice a1 nL c1, .slice a2 nS c2] w fun e w' => RetD w (Shape A B n nL nS F) e w' := by
  by_cases hA0 : A < 0
  · go_enter Try.func27, Try.ntmps27
    go_wp2
    go_ret
    exact ⟨false, 0, rfl, rfl, fun h => by cases h⟩
  by_cases hB0 : B < 0
  · go_enter Try.func27, Try.ntmps27
    go_wp2
    go_ret
    exact ⟨false, 0, rfl, rfl, fun h => by cases h⟩
  obtain ⟨M, rfl⟩ : ∃ M : Nat, A = (M : Int) := ⟨A.toNat, by omega⟩
  obtain ⟨S, rfl⟩ : ∃ S : Nat, B = (S : Int) := ⟨B.toNat, by omega⟩
  clear hA0 hB0
  go_enter Try.func27, Try.ntmps27
  go_wp2_with fail
  refine (rows nL M n _ (by omega) (by omega) (by omega)).mono ?_
  rintro e w' ⟨r, rfl, rfl, hr⟩
  cases r with
  | false =>
    go_wp2
    go_ret
    exact ⟨false, 0, rfl, rfl, fun h => by cases h⟩
  | true =>
    have H1 : Hid (nL = M * n) := hr rfl
    clear hr
    go_wp2_with fail
    refine (rows nS S n _ (by omega) (by omega) (by omega)).mono ?_
    rintro e w' ⟨r, rfl, rfl, hr⟩
    cases r with
    | false =>
      go_wp2
      go_ret
      exact ⟨false, 0, rfl, rfl, fun h => by cases h⟩
    | true =>
      have H2 : Hid (nS = S * n) := hr rfl
      clear hr
      go_wp2_with fail
      refine (rising _ _ _ F _ ha (by omega)).mono ?_
      rintro e w' ⟨r, q, rfl, rfl, hr⟩
      have HR : Hid (r = true → ∀ i, i + 1 < n → F i < F (i + 1)) := hr
      clear hr
      go_wp2
      go_ret
      exact ⟨r, q, rfl, rfl, fun h => ⟨by omega, by omega, H1.out, H2.out, HR.out h⟩⟩

end Go.Proofs.Qxb6601373a
