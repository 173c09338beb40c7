import Derived.Test.Qxb6600074aShared
namespace Go.Proofs.Qxb6600074a
open Go.RowKit
set_option linter.unusedVariables false

theorem atTo_head (ls os : List Int) (t n : Nat) (h : t ≤ n) : ∃ r, atTo ls os n = atTo ls os t ++ r ∧ ∀ x ∈ r, t ≤ x := by
  induction n with
  | zero => obtain rfl : t = 0 := by omega
            exact ⟨[], by simp, by simp⟩
  | succ n ih =>
    by_cases hn : t ≤ n
    · obtain ⟨r, h1, h2⟩ := ih hn
      cases hh : hasB os (ls[n]?.getD 0)
      · exact ⟨r, by rw [atTo_miss hh, h1], h2⟩
      · refine ⟨r ++ [n], by rw [atTo_hit hh, h1, List.append_assoc], fun x hx => ?_⟩
        rcases List.mem_append.1 hx with hx | hx
        · exact h2 x hx
        · simp at hx; omega
    · obtain rfl : t = n + 1 := by omega
      exact ⟨[], by simp, by simp⟩

theorem at_hit {ls os : List Int} {t n : Nat} (h : t < n) (hh : hasB os (ls[t]?.getD 0) = true) : (atTo ls os t).length < (atTo ls os n).length ∧ (atTo ls os n).getD (atTo ls os t).length 0 = t := by
  obtain ⟨r, h1, _⟩ := atTo_head ls os (t + 1) n (by omega)
  rw [h1, atTo_hit hh]
  simp

theorem kept_hit {ls os : List Int} {t n : Nat} (h : t < n) (hh : hasB os (ls[t]?.getD 0) = true) : (keptTo ls os n).getD (atTo ls os t).length 0 = ls[t]?.getD 0 := by
  have := at_hit h hh
  unfold keptTo
  rw [List.getD_eq_getElem?_getD, List.getElem?_map]
  have e : (atTo ls os n)[(atTo ls os t).length]? = some t := by
    rw [List.getElem?_eq_getElem this.1]
    have := this.2
    rw [List.getD_eq_getElem?_getD, List.getElem?_eq_getElem (at_hit h hh).1] at this
    simpa using this
  rw [e]; rfl

theorem at_miss {ls os : List Int} {t n : Nat} (h : t < n) (hh : hasB os (ls[t]?.getD 0) = false) (hl : (atTo ls os t).length < (atTo ls os n).length) : (atTo ls os n).getD (atTo ls os t).length 0 ≠ t := by
  obtain ⟨r, h1, h2⟩ := atTo_head ls os (t + 1) n (by omega)
  rw [atTo_miss hh] at h1
  rw [h1, List.getD_eq_getElem?_getD, List.getElem?_append_right (Nat.le_refl _), Nat.sub_self]
  cases r with
  | nil => rw [h1] at hl; simp at hl
  | cons a r => have := h2 a (by simp); simp; omega

theorem own_ne {w w' : World} {base base' : Nat} {e e' : TypeId} {a a' : Option Addr} {n c n' c' : Nat} {f f' : Nat → Value} (h : Own w base e a n c f) (h' : Own w' base' e' a' n' c' f') (hb : w.heap.size ≤ base') : ∀ x, a = some x → rowOf a' ≠ some x.block := by
  intro x hx he
  subst hx
  have h1 := World.ownsRow.lt h x.block rfl
  cases a' with
  | none => cases he
  | some y =>
    have h2 := World.ownsRow.lt h' y.block rfl
    simp [rowOf] at he
    omega

theorem below_gb' {B : Nat} {w w' : World} {row : Option Nat} (h : w.grownBy w' row) (hr : ∀ k, row = some k → B ≤ k) (hB : B ≤ w.heap.size) : Below B w w' :=
  ⟨h.os, h.tape, h.output, h.size, fun k hk => h.block k (by omega) (fun e => by have := hr k e.symm; omega)⟩

set_option maxRecDepth 100000 in
set_option maxHeartbeats 1000000 in
theorem walk3 (a0 a1 a2 : Option Addr) (n0 c0 n1 c1 n2 c2 : Nat) (ls os : List Int) (ms : List Bool) (w : World) (r0 : Rd w a0 n0 (iv ls)) (r1 : Rd w a1 n1 (iv os)) (r2 : Rd w a2 n2 (bv ms))
    (z0 : NilZ a0 n0) (z1 : NilZ a1 n1) (z2 : NilZ a2 n2) (l1 : os.length = n1) (m0 : n0 ≤ maxLen) (m1 : n1 ≤ maxLen) (m2 : n2 ≤ maxLen) (hw : ∀ i : Nat, os[i]?.getD 0 ≤ 2147483647) :
    Calls Try.prog 3 #[.slice a0 n0 c0, .slice a1 n1 c1, .slice a2 n2 c2] w fun e w' => e = .returned (.bool true) ∧ Below w.heap.size w w' := by
  have HL : Hid (os.length = n1) := l1
  have HW : Hid (∀ i : Nat, os[i]?.getD 0 ≤ 2147483647) := hw
  clear l1 hw
  unfold maxLen at m0 m1 m2
  go_enter Try.func3, Try.ntmps3
  go_wp2_with fail
  refine (bytes9 _ _ _ _ _ _ _ _ _ _).mono ?_
  rintro e w' ⟨r, rfl, rfl⟩
  cases r with
  | false =>
    go_wp2
    go_ret
    exact ⟨rfl, Below.refl _ _⟩
  | true =>
  by_cases g0 : 65536 < n0
  · go_wp2
    go_ret
    exact ⟨rfl, Below.refl _ _⟩
  by_cases g1 : 65536 < n1
  · go_wp2
    go_ret
    exact ⟨rfl, Below.refl _ _⟩
  by_cases g2 : 65536 < n2
  · go_wp2
    go_ret
    exact ⟨rfl, Below.refl _ _⟩
  have d0 : decide ((65536 : Int) < (n0 : Int)) = false := decide_eq_false (by omega)
  have d1 : decide ((65536 : Int) < (n1 : Int)) = false := decide_eq_false (by omega)
  have d2 : decide ((65536 : Int) < (n2 : Int)) = false := decide_eq_false (by omega)
  go_wp2_with fail
  clear d0 d1 d2
  refine (domain _ _ _ _ _ _ _ _ _ ls os _ r0 r1 (by omega) (by omega) (by omega)).mono ?_
  rintro e w' ⟨r, rfl, rfl, hd⟩
  cases r with
  | false =>
    go_wp2
    go_ret
    exact ⟨rfl, Below.refl _ _⟩
  | true =>
  have HD : Hid (Dom ls os n0 n1 n2) := hd rfl
  clear hd
  go_wp2_with fail
  refine (cloneI _ _ _ ls _ r0 (by omega) z0).mono ?_
  rintro e w1 ⟨a0', c0', rfl, o0, nz0, b1⟩
  have r1' := r1.below b1
  go_wp2_with fail
  refine (cloneI _ _ _ os _ r1' (by omega) z1).mono ?_
  rintro e w2 ⟨a1', c1', rfl, o1, nz1, b2⟩
  have r2' := (r2.below b1).below b2
  go_wp2_with fail
  refine (cloneB _ _ _ ms _ r2' (by omega) z2).mono ?_
  rintro e w3 ⟨a2', c2', rfl, o2, nz2, b3⟩
  go_wp2_with fail
  refine (cloneB _ _ _ ms _ o2.rd (by omega) nz2).mono ?_
  rintro e w4 ⟨a3', c3', rfl, o3, nz3, b4⟩
  have s1 := b1.size
  have s2 := b2.size
  have s3 := b3.size
  have s4 := b4.size
  have p0 : Own w4 w.heap.size 21 a0' n0 c0' (iv ls) := ((o0.below b2).below b3).below b4
  have p1 : Own w4 w1.heap.size 21 a1' n1 c1' (iv os) := (o1.below b3).below b4
  have p2 : Own w4 w2.heap.size 4 a2' n2 c2' (bv ms) := o2.below b4
  have B4 : Below w.heap.size w w4 := ((b1.trans (b2.mono (by omega))).trans (b3.mono (by omega))).trans (b4.mono (by omega))
  have ne0 := own_ne o0 o3 (by omega)
  have ne1 := own_ne o1 o3 (by omega)
  have ne2 := own_ne o2 o3 (by omega)
  have ne3 : ∀ k, rowOf a3' = some k → w.heap.size ≤ k := by
    intro k hk
    cases a3' with
    | none => cases hk
    | some x => have := World.ownsRow.lt o3 x.block rfl; simp [rowOf] at hk; omega
  clear o0 o1 o2 b1 b2 b3 b4 r0 r1 r2 r1' r2' z0 z1 z2 nz0 nz1 nz2 nz3
  go_wp2_with fail
  refine (zzshared _ _ _ _ _ _ _ _ _ _ ls os ms _ p0.rd p1.rd o3 HL.out (by omega) (by omega) (by omega) HD.out HW.out ne0).mono ?_
  rintro e w5 ⟨gk, ga, rfl, oK, oA, oM, hg⟩
  have q0 := p0.grown hg ne0
  have q1 := p1.grown hg ne1
  have q2 := p2.grown hg ne2
  have B5 : Below w.heap.size w w5 := B4.trans (below_gb' hg ne3 (by omega))
  clear p0 p1 p2 o3 hg ne0 ne1 ne2 ne3 B4
  have hlA := atTo_le ls os n0
  go_wp2
  go_loopw [10, 11] (fun k i wr => ∃ t q : Nat, t ≤ n0 ∧ i = .int .i64 t ∧ k = .int .i64 (atTo ls os t).length ∧ w5.drewN q = wr) (fun _ i _ => n0 - (intOf i).toNat)
  case atStart => exact ⟨0, 0, Nat.zero_le _, rfl, rfl, rfl⟩
  case round =>
    obtain ⟨t, q, ht, rfl, rfl, rfl⟩ := hrel
    have hlT := atTo_le ls os t
    by_cases hlt : t < n0
    · obtain ⟨x, HX⟩ : ∃ x, Hid (ls[t]?.getD 0 = x) := ⟨_, rfl⟩
      obtain ⟨g0', rfl⟩ := q0.addr (by omega)
      have hc0 : w5.cell? ⟨g0', t, none⟩ = some (.int .i32 x) := by rw [← HX.out]; exact q0.cell t hlt
      obtain ⟨g3', rfl⟩ := oM.addr (by have := HD.out.1; omega)
      have hn2 : t < n2 := by have := HD.out.1; omega
      have hc3 := oM.cell t hn2
      cases hh : hasB os (ls[t]?.getD 0)
      · rw [show markTo ls os ms n0 t = true by unfold markTo; rw [if_pos ⟨hlt, hh⟩]] at hc3
        have hocc : Hid (∀ wx, Rd wx a1' n1 (iv os) → Calls Try.prog 14 #[.int .i32 x, .slice a1' n1 c1'] wx fun e w' => e = .returned (.bool false) ∧ wx = w') := by
          intro wx hr
          have := occurs x a1' n1 c1' os wx HL.out hr (by omega)
          rw [← HX.out, hh] at this
          rw [← HX.out]; exact this
        have HH : Hid (hasB os (ls[t]?.getD 0) = false) := hh
        by_cases hl : (atTo ls os t).length < (atTo ls os n0).length
        · obtain ⟨y, hy⟩ : ∃ y : Nat, (atTo ls os n0).getD (atTo ls os t).length 0 = y := ⟨_, rfl⟩
          have hcA := oA.cell (atTo ls os t).length hl
          rw [show jv (atTo ls os n0) (atTo ls os t).length = .int .i64 (y : Int) by unfold jv; rw [hy]] at hcA
          have hne : ((y : Int) == (t : Int)) = false := beq_eq_false_iff_ne.2 (by have := at_miss hlt hh hl; omega)
          clear hh hy
          go_wp2_with fail
          refine (hocc.out (w5.drewN q) q1.rd).mono ?_
          rintro e w' ⟨rfl, rfl⟩
          go_wp2
          go_roundw
          case rel => exact ⟨t + 1, _, by omega, by go_num, by rw [atTo_miss HH.out], rfl⟩
          case measure => simp [intOf]; omega
        · have hd : decide (((atTo ls os t).length : Int) < ((atTo ls os n0).length : Int)) = false := decide_eq_false (by omega)
          clear hh
          go_wp2_with fail
          refine (hocc.out (w5.drewN q) q1.rd).mono ?_
          rintro e w' ⟨rfl, rfl⟩
          go_wp2
          go_roundw
          case rel => exact ⟨t + 1, _, by omega, by go_num, by rw [atTo_miss HH.out], rfl⟩
          case measure => simp [intOf]; omega
      · have hA := at_hit hlt hh
        have hcA := oA.cell (atTo ls os t).length hA.1
        have hcK := oK.cell (atTo ls os t).length hA.1
        rw [show jv (atTo ls os n0) (atTo ls os t).length = .int .i64 (t : Int) by unfold jv; rw [hA.2]] at hcA
        rw [show iv (keptTo ls os n0) (atTo ls os t).length = .int .i32 x by unfold iv; rw [kept_hit hlt hh, HX.out]] at hcK
        obtain ⟨g2', rfl⟩ := q2.addr (by omega)
        have hc2 : w5.cell? ⟨g2', t, none⟩ = some (.bool (ms.getD t false)) := q2.cell t hn2
        rw [show markTo ls os ms n0 t = ms.getD t false by unfold markTo; rw [hh]; simp] at hc3
        have hocc : Hid (∀ wx, Rd wx a1' n1 (iv os) → Calls Try.prog 14 #[.int .i32 x, .slice a1' n1 c1'] wx fun e w' => e = .returned (.bool true) ∧ wx = w') := by
          intro wx hr
          have := occurs x a1' n1 c1' os wx HL.out hr (by omega)
          rw [← HX.out, hh] at this
          rw [← HX.out]; exact this
        have hA1 := hA.1
        have HH : Hid (hasB os (ls[t]?.getD 0) = true) := hh
        clear hh hA
        go_wp2_with fail
        refine (hocc.out (w5.drewN q) q1.rd).mono ?_
        rintro e w' ⟨rfl, rfl⟩
        go_wp2
        go_quiet (fail)
        go_wp2
        go_roundw
        case rel => exact ⟨t + 1, _, by omega, by go_num, by rw [atTo_hit HH.out, List.length_append]; go_num, rfl⟩
        case measure => simp [intOf]; omega
    · obtain rfl : t = n0 := by omega
      have HN : Hid (t ≤ n2) := HD.out.1
      have hN : t ≤ n2 := HN.out
      go_wp2
      go_loopw [13] (fun i wr => ∃ s q2 : Nat, t ≤ s ∧ s ≤ n2 ∧ i = .int .i64 s ∧ w5.drewN q2 = wr) (fun i _ => n2 - (intOf i).toNat)
      case atStart => exact ⟨t, q, Nat.le_refl _, hN, rfl, rfl⟩
      case round =>
        obtain ⟨s, q2', hs, hs2, rfl, rfl⟩ := hrel
        by_cases hlt2 : s < n2
        · obtain ⟨g3', rfl⟩ := oM.addr (by omega)
          obtain ⟨g2', rfl⟩ := q2.addr (by omega)
          have hc3 := oM.cell s hlt2
          have hc2 : w5.cell? ⟨g2', s, none⟩ = some (.bool (ms.getD s false)) := q2.cell s hlt2
          rw [show markTo ls os ms t s = ms.getD s false by unfold markTo; rw [if_neg (by omega)]] at hc3
          go_wp2
          go_quiet (fail)
          go_wp2
          go_roundw
          case rel => exact ⟨s + 1, _, by omega, by omega, by go_num, rfl⟩
          case measure => simp [intOf]; omega
        · go_wp2
          go_ret
          exact ⟨rfl, below_drewN B5 _⟩
end Go.Proofs.Qxb6600074a
