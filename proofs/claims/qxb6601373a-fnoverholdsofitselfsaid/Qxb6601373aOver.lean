import Derived.Test.Qxb6601373aLeaf
import Derived.Deep.RegionWith
namespace Go.Proofs.Qxb6601373a
open Go.RowKit
set_option linter.unusedVariables false

theorem Try.elem32 : Try.prog.elem 32 = 2 := by kernel_rfl

theorem size2 (w : World) : (sizeOf 2).run Try.prog w = .ok 1 w := by
  obtain ⟨i0, hi, hz0, hz1, hz2⟩ := info_parts Try.info2
  simp [sizeOf, typeInfo, hi, hz1]

/-- Row j of a table of n rows of M numbers. -/
theorem cut_row (a : Option Addr) (n N c M j : Nat) (F : Nat → Int) (w : World) (hN : N = M * n) (hr : Rd w a N (cv F)) (hc : N ≤ c) (hj : j < n) (x y : Int) (hx : x = ((j * M : Nat) : Int)) (hy : y = (((j + 1) * M : Nat) : Int)) :
    ∃ b d, (∀ w', (Instr.slice 32 (.slice a N c) (some (.int .i64 x)) (some (.int .i64 y)) none).run Try.prog w' = .ok (.slice b M d) w') ∧ Rd w b M (cv (fun i => F (j * M + i))) := by
  have h1 : (j + 1) * M ≤ N := by rw [hN, Nat.mul_comm]; exact Nat.mul_le_mul_left _ (by omega)
  have h2 : (j + 1) * M = j * M + M := by rw [Nat.add_mul, Nat.one_mul]
  refine ⟨if c = j * M then a else a.map (·.add (j * M)), c - j * M, fun w' => ?_, ?_⟩
  · have ht : Try.prog.underlying 32 = some (.slice (Try.prog.elem 32)) := by rw [Try.elem32]; exact Try.underlying32
    have := run_slice_lh (P := Try.prog) w' 32 a N c ht .i64 .i64 x y (by omega) (by omega) (by omega)
    rw [Try.elem32, size2] at this
    rw [this]
    subst hx
    subst hy
    simp only [Int.toNat_natCast, Result.andThen, sliced, Nat.mul_one, h2, Nat.add_sub_cancel_left]
  · by_cases hM : M = 0
    · exact .inl hM
    · rcases hr with h | ⟨b, off, rfl, hcell⟩
      · omega
      · refine .inr ⟨b, off + j * M, ?_, fun i hi => ?_⟩
        · rw [if_neg (by omega)]; simp [Addr.add]
        · rw [Nat.add_assoc, hcell (j * M + i) (by omega)]; rfl

theorem nofewQ (a b : Option Addr) (n c d : Nat) (F : Nat → Int) (w : World) (ha : Rd w a n (cv F)) (hb : Rd w b n (cv F)) (hn : n ≤ 1048576) (m : Nat) :
    Calls Try.prog 38 #[.slice a n c, .slice b n d] (w.drewN m) fun e w' => e = .returned (.bool true) ∧ w' = w.drewN m :=
  (nofew a b n c d F (w.drewN m) ha hb hn).mono fun e w' ⟨h1, h2⟩ => ⟨h1, h2.symm⟩

/-- What 'over' meets: two tables of the same rows, at the blocks B1 and B2. -/
structure Two (w : World) (B1 B2 M S n nL nS : Nat) (T L U : Nat → Int) (a1 a2 a3 a1' a2' a3' : Option Addr) (c1 c2 c3 c1' c2' c3' : Nat) : Prop where
  f0 : w.cell? ⟨B1, 0, none⟩ = some (.int .i64 (M : Int))
  f1 : w.cell? ⟨B1, 1, none⟩ = some (.int .i64 (S : Int))
  f5 : w.cell? ⟨B1, 5, none⟩ = some (.slice a1 n c1)
  f6 : w.cell? ⟨B1, 6, none⟩ = some (.slice a2 nL c2)
  f7 : w.cell? ⟨B1, 7, none⟩ = some (.slice a3 nS c3)
  f8 : w.cell? ⟨B1, 8, none⟩ = some (.int .i64 0)
  g0 : w.cell? ⟨B2, 0, none⟩ = some (.int .i64 (M : Int))
  g1 : w.cell? ⟨B2, 1, none⟩ = some (.int .i64 (S : Int))
  g5 : w.cell? ⟨B2, 5, none⟩ = some (.slice a1' n c1')
  g6 : w.cell? ⟨B2, 6, none⟩ = some (.slice a2' nL c2')
  g7 : w.cell? ⟨B2, 7, none⟩ = some (.slice a3' nS c3')
  r1 : Rd w a1 n (cv T)
  r2 : Rd w a2 nL (cv L)
  r3 : Rd w a3 nS (cv U)
  s1 : Rd w a1' n (cv T)
  s2 : Rd w a2' nL (cv L)
  s3 : Rd w a3' nS (cv U)
  lev : nL = M * n
  sum : nS = S * n
  up : ∀ i, i + 1 < n → T i < T (i + 1)
  k2 : nL ≤ c2
  k3 : nS ≤ c3
  k2' : nL ≤ c2'
  k3' : nS ≤ c3'
  b0 : n ≤ 131072
  b2 : nL ≤ 131072
  b3 : nS ≤ 131072

def OverPost (w : World) (n : Nat) (e : Ending) (w' : World) : Prop := e = .returned (.bool (decide (0 < n))) ∧ ∃ q, w.drewN q = w'

set_option maxRecDepth 100000 in
set_option maxHeartbeats 2000000 in
theorem over_any (w : World) (B1 B2 M S n nL nS : Nat) (T L U : Nat → Int) (a1 a2 a3 a1' a2' a3' : Option Addr) (c1 c2 c3 c1' c2' c3' : Nat) (h : Two w B1 B2 M S n nL nS T L U a1 a2 a3 a1' a2' a3' c1 c2 c3 c1' c2' c3') :
    Calls Try.prog 34 #[.pointer (some ⟨B1, 0, none⟩), .pointer (some ⟨B2, 0, none⟩)] w fun e w' => OverPost w n e w' := by
  have f0 := h.f0
  have f1 := h.f1
  have f5 := h.f5
  have f6 := h.f6
  have f7 := h.f7
  have f8 := h.f8
  have g0 := h.g0
  have g1 := h.g1
  have g5 := h.g5
  have g6 := h.g6
  have g7 := h.g7
  have b0 := h.b0
  have b2 := h.b2
  have b3 := h.b3
  by_cases hn : n = 0
  · subst hn
    go_enter Try.func34, Try.ntmps34
    go_wp2
    go_quiet (fail)
    go_wp2
    go_ret
    exact ⟨rfl, _, rfl⟩
  · have e0 : ((n : Int) == 0) = false := beq_eq_false_iff_ne.2 (by omega)
    have hn0 : 0 < n := by omega
    clear hn
    go_enter Try.func34, Try.ntmps34
    go_wp2
    go_quiet (fail)
    go_wp2
    clear e0
    obtain ⟨q0, hq0⟩ : ∃ q0, q0 = nq := ⟨_, rfl⟩
    go_loopw [7, 50] (fun v7 v50 wr => ∃ j q : Nat, j ≤ n ∧ v50 = .int .i64 j ∧ v7 = .int .i64 ((j : Int) - 1) ∧ w.drewN q = wr) (fun _ v _ => n - (intOf v).toNat)
    case atStart => exact ⟨0, _, Nat.zero_le _, rfl, rfl, rfl⟩
    case round =>
      obtain ⟨j, q, hj, rfl, rfl, rfl⟩ := hrel
      by_cases hlt : j < n
      · have r1 := h.r1
        have s1 := h.s1
        rcases r1 with hh | ⟨g, o, ha, hcell⟩
        · omega
        rcases s1 with hh | ⟨g', o', ha', hcell'⟩
        · omega
        have x0 : w.cell? ⟨g, o + j, none⟩ = some (.int .i64 (T j)) := hcell j hlt
        have y0 : w.cell? ⟨g', o' + j, none⟩ = some (.int .i64 (T j)) := hcell' j hlt
        have x1 : j + 1 < n → w.cell? ⟨g, o + (j + 1), none⟩ = some (.int .i64 (T (j + 1))) := fun h => hcell (j + 1) h
        have y1 : j + 1 < n → w.cell? ⟨g', o' + (j + 1), none⟩ = some (.int .i64 (T (j + 1))) := fun h => hcell' (j + 1) h
        have HUP : Hid (j + 1 < n → T j < T (j + 1)) := fun hh => h.up j hh
        have k0 : (j : Int) < (n : Int) := by omega
        obtain ⟨xm, hxm⟩ : ∃ x : Int, x = ((j * M : Nat) : Int) := ⟨_, rfl⟩
        obtain ⟨ym, hym⟩ : ∃ x : Int, x = (((j + 1) * M : Nat) : Int) := ⟨_, rfl⟩
        obtain ⟨xs, hxs⟩ : ∃ x : Int, x = ((j * S : Nat) : Int) := ⟨_, rfl⟩
        obtain ⟨ys, hys⟩ : ∃ x : Int, x = (((j + 1) * S : Nat) : Int) := ⟨_, rfl⟩
        obtain ⟨p2, d2, e2, t2⟩ := cut_row a2 n nL c2 M j L w h.lev h.r2 h.k2 hlt xm ym hxm hym
        obtain ⟨p2', d2', e2', t2'⟩ := cut_row a2' n nL c2' M j L w h.lev h.s2 h.k2' hlt xm ym hxm hym
        obtain ⟨p3, d3, e3, t3⟩ := cut_row a3 n nS c3 S j U w h.sum h.r3 h.k3 hlt xs ys hxs hys
        obtain ⟨p3', d3', e3', t3'⟩ := cut_row a3' n nS c3' S j U w h.sum h.s3 h.k3' hlt xs ys hxs hys
        have hMb : (j + 1) * M ≤ 131072 := Nat.le_trans (by rw [h.lev, Nat.mul_comm]; exact Nat.mul_le_mul_left _ (by omega)) b2
        have hSb : (j + 1) * S ≤ 131072 := Nat.le_trans (by rw [h.sum, Nat.mul_comm]; exact Nat.mul_le_mul_left _ (by omega)) b3
        have hMb' : j * M ≤ (j + 1) * M := Nat.mul_le_mul_right _ (by omega)
        have hSb' : j * S ≤ (j + 1) * S := Nat.mul_le_mul_right _ (by omega)
        have hM1 : M ≤ 131072 := Nat.le_trans (by rw [Nat.add_mul, Nat.one_mul]; omega) hMb
        have hS1 : S ≤ 131072 := Nat.le_trans (by rw [Nat.add_mul, Nat.one_mul]; omega) hSb
        have v1 : IntKind.i64.wrap ((j : Int) * (M : Int)) = xm := by
          rw [show (j : Int) * (M : Int) = ((j * M : Nat) : Int) by rw [Int.natCast_mul], IntKind.wrap_i64, hxm]; omega
        have v2 : IntKind.i64.wrap ((j : Int) + 1) = (j : Int) + 1 := by rw [IntKind.wrap_i64]; omega
        have v3 : IntKind.i64.wrap (((j : Int) + 1) * (M : Int)) = ym := by
          rw [show ((j : Int) + 1) * (M : Int) = (((j + 1) * M : Nat) : Int) by rw [Int.natCast_mul]; rfl, IntKind.wrap_i64, hym]; omega
        have v4 : IntKind.i64.wrap ((j : Int) * (S : Int)) = xs := by
          rw [show (j : Int) * (S : Int) = ((j * S : Nat) : Int) by rw [Int.natCast_mul], IntKind.wrap_i64, hxs]; omega
        have v5 : IntKind.i64.wrap (((j : Int) + 1) * (S : Int)) = ys := by
          rw [show ((j : Int) + 1) * (S : Int) = (((j + 1) * S : Nat) : Int) by rw [Int.natCast_mul]; rfl, IntKind.wrap_i64, hys]; omega
        have N1 : Hid (∀ m, Calls Try.prog 38 #[.slice p2 M d2, .slice p2' M d2'] (w.drewN (q + m)) fun e w' => e = .returned (.bool true) ∧ ∃ n, w' = w.drewN (q + n)) := fun m => (nofewQ _ _ _ _ _ _ w t2 t2' (by omega) (q + m)).mono fun e w' ⟨h1, h2⟩ => ⟨h1, m, h2⟩
        have N2 : Hid (∀ m, Calls Try.prog 38 #[.slice p3 S d3, .slice p3' S d3'] (w.drewN (q + m)) fun e w' => e = .returned (.bool true) ∧ ∃ n, w' = w.drewN (q + n)) := fun m => (nofewQ _ _ _ _ _ _ w t3 t3' (by omega) (q + m)).mono fun e w' ⟨h1, h2⟩ => ⟨h1, m, h2⟩
        subst ha
        subst ha'
        clear hcell hcell' t2 t2' t3 t3' hxm hym hxs hys hMb hSb hMb' hSb'
        go_wp2
        refine wp_loop_rounds 1 ?_
        rw [rounds_succ]
        go_upto_block 4 with fail
        go_cut [7] (fun v7 wc => v7 = .int .i64 (j : Int) ∧ w.drewN q = wc)
        case first =>
          go_wp2_with fail
          go_loop [7] (fun v => v = .int .i64 ((j : Int) - 1) ∨ v = .int .i64 (j : Int)) (fun v => ((j : Int) - intOf v).toNat)
          case atStart => exact .inl rfl
          case round =>
            rcases hrel with rfl | rfl
            · go_wp2
              go_round
              case rel => exact .inr rfl
              case measure => simp [intOf]; omega
            · by_cases hj1 : j + 1 < n
              · have z1 := x1 hj1
                have hd : ¬ T (j + 1) ≤ T j := by have := HUP.out hj1; omega
                go_wp2
                go_meet
                exact ⟨rfl, rfl⟩
              · go_wp2
                go_meet
                exact ⟨rfl, rfl⟩
        case rest =>
          obtain ⟨rfl, rfl⟩ := hcut
          go_wp2
          go_quiet ((first | (go_at_call_of 38 (Value.slice p2 M d2); exact N1.out _) | (go_at_call_of 38 (Value.slice p3 S d3); exact N2.out _)))
          go_wp2
          by_cases hj1 : j + 1 < n
          · have z1 := x1 hj1
            have z2 := y1 hj1
            have m1 : ((j : Int) + 1 == (n : Int)) = false := beq_eq_false_iff_ne.2 (by omega)
            have m2 : (j : Int) + 1 < (n : Int) := by omega
            have m3 : (0 : Int) ≤ (j : Int) + 1 := by omega
            clear x1 y1 N1 N2
            go_quiet (fail)
            go_wp2
            go_roundw
            case rel => exact ⟨j + 1, _, by omega, by go_num, by go_num, rfl⟩
            case measure => simp [intOf]; omega
          · have m1 : ((j : Int) + 1 == (n : Int)) = true := beq_iff_eq.2 (by omega)
            clear x1 y1 N1 N2
            go_quiet (fail)
            go_wp2
            go_roundw
            case rel => exact ⟨j + 1, _, by omega, by go_num, by go_num, rfl⟩
            case measure => simp [intOf]; omega
      · go_wp2
        go_ret
        refine ⟨?_, _, rfl⟩
        rw [decide_eq_true hn0]; rfl
end Go.Proofs.Qxb6601373a
