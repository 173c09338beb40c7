import Derived.Test.Qxb6601373aOver
namespace Go.Proofs.Qxb6601373a
open Go.RowKit
set_option linter.unusedVariables false

def ZPost (w : World) (n : Nat) (e : Ending) (w' : World) : Prop := e = .returned (.bool (decide (0 < n))) ∧ Below w.heap.size w w'

set_option maxRecDepth 100000 in
set_option maxHeartbeats 1000000 in
theorem zzover (w : World) (M S n nL nS : Nat) (T L U : Nat → Int) (a1 a2 a3 a1' a2' a3' : Option Addr) (c1 c2 c3 c1' c2' c3' : Nat) (r1 : Rd w a1 n (cv T)) (r2 : Rd w a2 nL (cv L)) (r3 : Rd w a3 nS (cv U)) (s1 : Rd w a1' n (cv T)) (s2 : Rd w a2' nL (cv L)) (s3 : Rd w a3' nS (cv U))
    (lev : nL = M * n) (sum : nS = S * n) (up : ∀ i, i + 1 < n → T i < T (i + 1)) (k2 : nL ≤ c2) (k3 : nS ≤ c3) (k2' : nL ≤ c2') (k3' : nS ≤ c3') (b0 : n ≤ 131072) (b2 : nL ≤ 131072) (b3 : nS ≤ 131072) :
    Calls Try.prog 23 #[.int .i64 (M : Int), .int .i64 (S : Int), .slice a1 n c1, .slice a2 nL c2, .slice a3 nS c3, .int .i64 0, .int .i64 (M : Int), .int .i64 (S : Int), .slice a1' n c1', .slice a2' nL c2', .slice a3' nS c3'] w fun e w' => ZPost w n e w' := by
  have HL : Hid (nL = M * n) := lev
  have HS : Hid (nS = S * n) := sum
  have HU : Hid (∀ i, i + 1 < n → T i < T (i + 1)) := up
  clear lev sum up
  go_enter Try.func23, Try.ntmps23
  go_wp2_with fail
  have hb : ∀ o1 o2, Below w.heap.size w ((w.alloc o1).alloc o2) := fun o1 o2 => ((Below.refl _ _).alloc (Nat.le_refl _) _).alloc (by simp) _
  refine (over_any _ w.heap.size (w.heap.size + 1) M S n nL nS T L U a1 a2 a3 a1' a2' a3' c1 c2 c3 c1' c2' c3' ⟨by simp, by simp, by simp, by simp, by simp, by simp, by simp, by simp, by simp, by simp, by simp, r1.below (hb _ _), r2.below (hb _ _), r3.below (hb _ _), s1.below (hb _ _), s2.below (hb _ _), s3.below (hb _ _), HL.out, HS.out, HU.out, k2, k3, k2', k3', b0, b2, b3⟩).mono ?_
  rintro e w' ⟨rfl, q, rfl⟩
  go_wp2
  go_ret
  exact ⟨rfl, below_drewN (hb _ _) _⟩

def lf (zs : List Int) (i : Nat) : Int := zs.getD i 0

set_option maxRecDepth 100000 in
set_option maxHeartbeats 2000000 in
theorem walk8 (A B : Int) (a1 a2 a3 : Option Addr) (n c1 nL c2 nS c3 : Nat) (zt zl zu : List Int) (w : World) (hA : A ≤ 9223372036854775807) (hB : B ≤ 9223372036854775807) (r1 : Rd w a1 n (nv zt)) (r2 : Rd w a2 nL (nv zl)) (r3 : Rd w a3 nS (nv zu))
    (z1 : NilZ a1 n) (z2 : NilZ a2 nL) (z3 : NilZ a3 nS) (m1 : n ≤ maxLen) (m2 : nL ≤ maxLen) (m3 : nS ≤ maxLen) :
    Calls Try.prog 8 #[.int .i64 A, .int .i64 B, .slice a1 n c1, .slice a2 nL c2, .slice a3 nS c3] w fun e w' => e = .returned (.bool true) ∧ Below w.heap.size w w' := by
  unfold maxLen at m1 m2 m3
  go_enter Try.func8, Try.ntmps8
  go_wp2_with fail
  refine (bytes26 _ _ _ _ _ _ _ _ _ _ _ _).mono ?_
  rintro e w' ⟨r, rfl, rfl⟩
  cases r with
  | false =>
    go_wp2
    go_ret
    exact ⟨rfl, Below.refl _ _⟩
  | true =>
  by_cases g0 : 131072 < n
  · go_wp2
    go_ret
    exact ⟨rfl, Below.refl _ _⟩
  by_cases g1 : 131072 < nL
  · go_wp2
    go_ret
    exact ⟨rfl, Below.refl _ _⟩
  by_cases g2 : 131072 < nS
  · go_wp2
    go_ret
    exact ⟨rfl, Below.refl _ _⟩
  by_cases g3 : 131072 < n + nL + nS
  · go_wp2
    go_ret
    exact ⟨rfl, Below.refl _ _⟩
  go_wp2_with fail
  refine (shape A B _ _ _ _ _ _ _ _ _ (lf zt) _ r1 hA hB (by omega) (by omega) (by omega)).mono ?_
  rintro e w0 ⟨r, q0, rfl, rfl, hs⟩
  cases r with
  | false =>
    go_wp2
    go_ret
    exact ⟨rfl, below_drewN (Below.refl _ _) _⟩
  | true =>
  obtain ⟨sa, sb, sl, ss, su⟩ := hs rfl
  obtain ⟨M, rfl⟩ : ∃ M : Nat, A = (M : Int) := ⟨A.toNat, by omega⟩
  obtain ⟨S, rfl⟩ : ∃ S : Nat, B = (S : Int) := ⟨B.toNat, by omega⟩
  have HL : Hid (nL = M * n) := sl
  have HS : Hid (nS = S * n) := ss
  have HU : Hid (∀ i, i + 1 < n → lf zt i < lf zt (i + 1)) := su
  clear hs sl ss su
  have B0 : Below w.heap.size w (w.drewN q0) := below_drewN (Below.refl _ _) _
  have r1' : Rd (w.drewN q0) a1 n (nv zt) := r1
  have r2' : Rd (w.drewN q0) a2 nL (nv zl) := r2
  have r3' : Rd (w.drewN q0) a3 nS (nv zu) := r3
  generalize w.drewN q0 = wx at *
  go_wp2_with fail
  refine (cloneI _ _ _ zt _ r1' (by omega) z1).mono ?_
  rintro e w1 ⟨b1, d1, rfl, o1, nz1, x1⟩
  have r2'' := r2'.below x1
  go_wp2_with fail
  refine (cloneI _ _ _ zl _ r2'' (by omega) z2).mono ?_
  rintro e w2 ⟨b2, d2, rfl, o2, nz2, x2⟩
  have r3'' := (r3'.below x1).below x2
  go_wp2_with fail
  refine (cloneI _ _ _ zu _ r3'' (by omega) z3).mono ?_
  rintro e w3 ⟨b3, d3, rfl, o3, nz3, x3⟩
  have t1 := ((o1.below x2).below x3).rd
  go_wp2_with fail
  refine (cloneI _ _ _ zt _ t1 (by omega) nz1).mono ?_
  rintro e w4 ⟨b4, d4, rfl, o4, nz4, x4⟩
  have t2 := ((o2.below x3).below x4).rd
  go_wp2_with fail
  refine (cloneI _ _ _ zl _ t2 (by omega) nz2).mono ?_
  rintro e w5 ⟨b5, d5, rfl, o5, nz5, x5⟩
  have t3 := ((o3.below x4).below x5).rd
  go_wp2_with fail
  refine (cloneI _ _ _ zu _ t3 (by omega) nz3).mono ?_
  rintro e w6 ⟨b6, d6, rfl, o6, nz6, x6⟩
  have y1 := x1.size
  have y2 := x2.size
  have y3 := x3.size
  have y4 := x4.size
  have y5 := x5.size
  have y6 := x6.size
  have y0 := B0.size
  have B6 : Below w.heap.size w w6 := ((((((B0.trans (x1.mono (by omega))).trans (x2.mono (by omega))).trans (x3.mono (by omega))).trans (x4.mono (by omega))).trans (x5.mono (by omega))).trans (x6.mono (by omega)))
  have u1 : Rd w6 b1 n (cv (lf zt)) := (((((o1.below x2).below x3).below x4).below x5).below x6).rd
  have u2 : Rd w6 b2 nL (cv (lf zl)) := ((((o2.below x3).below x4).below x5).below x6).rd
  have u3 : Rd w6 b3 nS (cv (lf zu)) := (((o3.below x4).below x5).below x6).rd
  have u4 : Rd w6 b4 n (cv (lf zt)) := ((o4.below x5).below x6).rd
  have u5 : Rd w6 b5 nL (cv (lf zl)) := (o5.below x6).rd
  have u6 : Rd w6 b6 nS (cv (lf zu)) := o6.rd
  have k2 := o2.cap.1
  have k3 := o3.cap.1
  have k5 := o5.cap.1
  have k6 := o6.cap.1
  clear o1 o2 o3 o4 o5 o6 x1 x2 x3 x4 x5 x6 t1 t2 t3 r1 r2 r3 r1' r2' r3' r2'' r3'' z1 z2 z3 nz1 nz2 nz3 nz4 nz5 nz6 B0
  go_wp2_with fail
  refine (zzover _ M S n nL nS (lf zt) (lf zl) (lf zu) _ _ _ _ _ _ _ _ _ _ _ _ u1 u2 u3 u4 u5 u6 HL.out HS.out HU.out k2 k3 k5 k6 (by omega) (by omega) (by omega)).mono ?_
  rintro e w7 ⟨rfl, x7⟩
  have B7 : Below w.heap.size w w7 := B6.trans (x7.mono (by omega))
  clear x7 B6 u1 u2 u3 u4 u5 u6
  by_cases hn : n = 0
  · subst hn
    go_wp2
    go_ret
    exact ⟨rfl, B7⟩
  · have hn0 : 0 < n := by omega
    rw [decide_eq_true hn0]
    clear hn
    go_wp2
    go_ret
    exact ⟨rfl, B7⟩

end Go.Proofs.Qxb6601373a
