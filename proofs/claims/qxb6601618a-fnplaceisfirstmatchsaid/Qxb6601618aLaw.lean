import Derived.Test.Qxb6601618aPlace
namespace Go.Proofs.Qxb6601618a
open Go.RowKit
set_option linter.unusedVariables false

set_option maxRecDepth 100000 in
set_option maxHeartbeats 1000000 in
theorem walk3 (a0 a1 : Option Addr) (n c0 m c1 : Nat) (ss : List ByteArray) (zs : List Int) (col : ByteArray) (w : World) (r0 : Rd w a0 n (sv ss)) (r1 : Rd w a1 m (nv zs)) (z0 : NilZ a0 n) (z1 : NilZ a1 m)
    (hn : n ≤ maxLen) (hm : m ≤ maxLen) (hc : col.size ≤ maxLen) (hs : ∀ i, (ss.getD i ByteArray.empty).size ≤ maxLen) :
    Calls Try.prog 3 #[.slice a0 n c0, .slice a1 m c1, .string col] w fun e w' => e = .returned (.bool true) ∧ Below w.heap.size w w' := by
  have HS : Hid (∀ i, (ss.getD i ByteArray.empty).size ≤ maxLen) := hs
  clear hs
  go_enter Try.func3, Try.ntmps3
  go_wp2_with fail
  refine (bytes5 _ _ _ _ _ _ ss col _ r0 hn hm hc HS.out).mono ?_
  rintro e w' ⟨r, rfl, rfl, -⟩
  cases r with
  | false =>
    go_wp2
    go_ret
    exact ⟨rfl, Below.refl _ _⟩
  | true =>
  go_wp2_with fail
  refine (within6 _ _ _ _ _ _ ss col _ r0 hn hm hc HS.out).mono ?_
  rintro e w' ⟨r, rfl, rfl, hr⟩
  cases r with
  | false =>
    go_wp2
    go_ret
    exact ⟨rfl, Below.refl _ _⟩
  | true =>
  obtain ⟨hn1, hm1⟩ := hr rfl
  clear hr hn hm
  by_cases hnm : n = m
  · subst hnm
    go_wp2_with fail
    refine (cloneS _ _ _ ss _ r0 (by omega) z0).mono ?_
    rintro e w1 ⟨a0', c0', rfl, o0, nz0, b1⟩
    have r1' := r1.below b1
    go_wp2_with fail
    refine (cloneI _ _ _ zs _ r1' (by omega) z1).mono ?_
    rintro e w2 ⟨a1', c1', rfl, o1, nz1, b2⟩
    have p0 := (o0.below b2).rd
    have p1 := o1.rd
    have s1 := b1.size
    have s2 := b2.size
    have B2 : Below w.heap.size w w2 := b1.trans (b2.mono (by omega))
    clear r0 r1 r1' z0 z1 nz0 nz1 o0 o1 b1 b2
    go_wp2_with fail
    refine (zzplace _ _ _ _ _ ss zs col _ p0 p1 hn1).mono ?_
    rintro e w3 ⟨rfl, b3⟩
    have q0 := p0.below b3
    have q1 := p1.below b3
    have B3 : Below w.heap.size w w3 := B2.trans (b3.mono (by omega))
    clear p0 p1 b3 B2
    obtain ⟨S, hS⟩ : ∃ S : Nat → ByteArray, S = fun i => ss.getD i ByteArray.empty := ⟨_, rfl⟩
    obtain ⟨Z, hZ⟩ : ∃ Z : Nat → Int, Z = fun i => zs.getD i 0 := ⟨_, rfl⟩
    have q0' : Rd w3 a0' n (fun i => .string (S i)) := by rw [hS]; exact q0
    have q1' : Rd w3 a1' n (fun i => .int .i64 (Z i)) := by rw [hZ]; exact q1
    rw [← hS, ← hZ]
    clear q0 q1 hS hZ
    go_wp2
    go_loop [9, 10, 11] (fun v9 v10 v11 => ∃ d : Nat, d ≤ n ∧ v11 = .int .i64 ((n : Int) - 1 - (d : Int)) ∧ v9 = .int .i64 (fm S Z col n d).1 ∧ v10 = .bool (fm S Z col n d).2) (fun _ _ v => ((intOf v) + 1).toNat)
    case atStart => exact ⟨0, Nat.zero_le _, by go_num, rfl, rfl⟩
    case round =>
      obtain ⟨d, hd, rfl, rfl, rfl⟩ := hrel
      by_cases hlt : d < n
      · rcases q0' with h | ⟨b, off, ha, hcell⟩
        · omega
        rcases q1' with h | ⟨b', off', ha', hcell'⟩
        · omega
        subst ha
        subst ha'
        obtain ⟨k, hk⟩ : ∃ k : Nat, n - (d + 1) = k := ⟨_, rfl⟩
        have HK : Hid ((n : Int) - 1 - (d : Int) = (k : Int)) := by unfold Hid; omega
        have x0 : w3.cell? ⟨b, off + k, none⟩ = some (.string (S k)) := hcell k (by omega)
        have x1 : w3.cell? ⟨b', off' + k, none⟩ = some (.int .i64 (Z k)) := hcell' k (by omega)
        have HX : Hid (fm S Z col n (d + 1) = if ((S k).toList == col.toList) = true then (Z k, true) else fm S Z col n d) := by unfold Hid; rw [fm, hk]
        generalize Z k = z at x1 HX
        generalize S k = s at x0 HX
        have hkn : (k : Int) < (n : Int) := by omega
        clear hcell hcell' hk
        rw [HK.out]
        cases hq : (s.toList == col.toList) with
        | true =>
          rw [hq] at HX
          go_wp2
          go_round
          case rel => exact ⟨d + 1, by omega, by have := HK.out; go_num, by rw [HX.out]; rfl, by rw [HX.out]; rfl⟩
          case measure => simp [intOf]
        | false =>
          rw [hq] at HX
          go_wp2
          go_round
          case rel => exact ⟨d + 1, by omega, by have := HK.out; go_num, by rw [HX.out]; rfl, by rw [HX.out]; rfl⟩
          case measure => simp [intOf]
      · obtain rfl : d = n := by omega
        go_wp2
        go_ret
        exact ⟨rfl, B3⟩
  · have hne : ((n : Int) != (m : Int)) = true := by rw [bne_iff_ne]; omega
    clear hnm
    go_wp2
    go_ret
    exact ⟨rfl, Below.refl _ _⟩
end Go.Proofs.Qxb6601618a
