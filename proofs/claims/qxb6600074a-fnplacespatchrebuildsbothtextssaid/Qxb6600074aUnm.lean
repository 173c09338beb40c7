import Derived.Test.Qxb6600074aPatch
namespace Go.Proofs.Qxb6600074a
open Go.RowKit
set_option linter.unusedVariables false

theorem retD_no (w : World) (q : Nat) (p : Prop) : RetD w p (.returned (.bool false)) (w.drewN q) := ⟨_, q, rfl, rfl, fun h => by cases h⟩
theorem retD_yes (w : World) (q : Nat) (p : Prop) (h : p) : RetD w p (.returned (.bool true)) (w.drewN q) := ⟨_, q, rfl, rfl, fun _ => h⟩

theorem unm_on (L : Nat → Int) {C : Nat → Bool} {n : Nat} (h : C n = true) : unm L C (n + 1) = unm L C n := by simp [unm, h]
theorem unm_off (L : Nat → Int) {C : Nat → Bool} {n : Nat} (h : C n = false) : unm L C (n + 1) = unm L C n ++ [L n] := by simp [unm, h]

set_option maxRecDepth 100000 in
set_option maxHeartbeats 1000000 in
theorem unm_any (a0 a1 a2 a3 : Option Addr) (n c0 c1 m c2 c3 : Nat) (la lb : List Int) (A B : Nat → Bool) (w : World) (h0 : Rd w a0 n (iv la)) (h1 : Rd w a1 n (cv A)) (h2 : Rd w a2 m (iv lb)) (h3 : Rd w a3 m (cv B)) (b0 : n ≤ 65536) (b1 : m ≤ 65536) :
    Calls Try.prog 22 #[.slice a0 n c0, .slice a1 n c1, .slice a2 m c2, .slice a3 m c3] w fun e w' => RetD w (unm (lv la) A n = unm (lv lb) B m) e w' := by
  go_enter Try.func22, Try.ntmps22
  go_wp2
  go_loopg [9, 10] (n + m) (fun k v9 v10 wr => ∃ (i j q : Nat), v9 = .int .i64 i ∧ v10 = .int .i64 j ∧ i ≤ n ∧ j ≤ m ∧ n + m ≤ k + (i + j) ∧ w.drewN q = wr ∧ Hid (unm (lv la) A i = unm (lv lb) B j))
  case atStart => exact ⟨0, 0, 0, rfl, rfl, Nat.zero_le _, Nat.zero_le _, by omega, rfl, rfl⟩
  case round =>
    obtain ⟨i, j, q, rfl, rfl, hin, hjm, hk, rfl, hU⟩ := hrel
    go_upto_block 2 with fail
    go_cut [9] (fun v wc => ∃ z : Nat, v = .int .i64 z ∧ i ≤ z ∧ z ≤ n ∧ Hid (unm (lv la) A z = unm (lv la) A i) ∧ Rm n A z ∧ w.drewN q = wc)
    case first =>
      go_wp2_with fail
      go_loop [9] (fun v => ∃ z : Nat, v = .int .i64 z ∧ i ≤ z ∧ z ≤ n ∧ Hid (unm (lv la) A z = unm (lv la) A i)) (fun v => n - (intOf v).toNat)
      case atStart => exact ⟨i, rfl, Nat.le_refl _, by omega, rfl⟩
      case round =>
        obtain ⟨z, rfl, hxz, hzn, hun⟩ := hrel
        by_cases hz : z < n
        · rcases h1 with h | ⟨g, o, rfl, hcell⟩
          · omega
          cases hAz : A z with
          | false =>
            have cA : w.cell? ⟨g, o + z, none⟩ = some (.bool false) := by rw [hcell z hz]; unfold cv; rw [hAz]
            have HAz : Hid (A z = false) := hAz
            clear hAz hcell
            go_wp2
            go_meet
            exact ⟨z, rfl, hxz, hzn, hun, fun _ => HAz.out, rfl⟩
          | true =>
            have cA : w.cell? ⟨g, o + z, none⟩ = some (.bool true) := by rw [hcell z hz]; unfold cv; rw [hAz]
            have HAz : Hid (A z = true) := hAz
            clear hAz hcell
            go_wp2
            go_round
            case rel => exact ⟨z + 1, by go_num, by omega, by omega, by unfold Hid; rw [unm_on _ HAz.out]; exact hun.out⟩
            case measure => simp [intOf]; omega
        · go_wp2
          go_meet
          exact ⟨z, rfl, hxz, hzn, hun, fun h => absurd h hz, rfl⟩
    case rest =>
      obtain ⟨i', rfl, hii, hin', hUA, hRA, rfl⟩ := hcut
      go_upto_block 4 with fail
      go_cut [10] (fun v wc => ∃ z : Nat, v = .int .i64 z ∧ j ≤ z ∧ z ≤ m ∧ Hid (unm (lv lb) B z = unm (lv lb) B j) ∧ Rm m B z ∧ w.drewN q = wc)
      case first =>
        go_wp2_with fail
        go_loop [10] (fun v => ∃ z : Nat, v = .int .i64 z ∧ j ≤ z ∧ z ≤ m ∧ Hid (unm (lv lb) B z = unm (lv lb) B j)) (fun v => m - (intOf v).toNat)
        case atStart => exact ⟨j, rfl, Nat.le_refl _, by omega, rfl⟩
        case round =>
          obtain ⟨z, rfl, hxz, hzn, hun⟩ := hrel
          by_cases hz : z < m
          · rcases h3 with h | ⟨g, o, rfl, hcell⟩
            · omega
            cases hAz : B z with
            | false =>
              have cA : w.cell? ⟨g, o + z, none⟩ = some (.bool false) := by rw [hcell z hz]; unfold cv; rw [hAz]
              have HAz : Hid (B z = false) := hAz
              clear hAz hcell
              go_wp2
              go_meet
              exact ⟨z, rfl, hxz, hzn, hun, fun _ => HAz.out, rfl⟩
            | true =>
              have cA : w.cell? ⟨g, o + z, none⟩ = some (.bool true) := by rw [hcell z hz]; unfold cv; rw [hAz]
              have HAz : Hid (B z = true) := hAz
              clear hAz hcell
              go_wp2
              go_round
              case rel => exact ⟨z + 1, by go_num, by omega, by omega, by unfold Hid; rw [unm_on _ HAz.out]; exact hun.out⟩
              case measure => simp [intOf]; omega
          · go_wp2
            go_meet
            exact ⟨z, rfl, hxz, hzn, hun, fun h => absurd h hz, rfl⟩
      case rest =>
        obtain ⟨j', rfl, hjj, hjm', hUB, hRB, rfl⟩ := hcut
        have HU : Hid (unm (lv la) A i' = unm (lv lb) B j') := by unfold Hid; rw [hUA.out, hUB.out]; exact hU.out
        clear hUA hUB hU
        by_cases hi : i' = n
        · have e1 : ((i' : Int) == (n : Int)) = true := beq_iff_eq.2 (by omega)
          by_cases hj : j' = m
          · have e2 : ((j' : Int) == (m : Int)) = true := beq_iff_eq.2 (by omega)
            have HU' : Hid (unm (lv la) A n = unm (lv lb) B m) := by unfold Hid; rw [← hi, ← hj]; exact HU.out
            clear hi hj
            go_wp2
            go_ret
            exact retD_yes _ _ _ HU'.out
          · have e2 : ((j' : Int) == (m : Int)) = false := beq_eq_false_iff_ne.2 (by omega)
            clear hi hj
            go_wp2
            go_ret
            exact retD_no _ _ _
        · have e1 : ((i' : Int) == (n : Int)) = false := beq_eq_false_iff_ne.2 (by omega)
          by_cases hj : j' = m
          · have e2 : ((j' : Int) == (m : Int)) = true := beq_iff_eq.2 (by omega)
            clear hi hj
            go_wp2
            go_ret
            exact retD_no _ _ _
          · have e2 : ((j' : Int) == (m : Int)) = false := beq_eq_false_iff_ne.2 (by omega)
            have hi' : i' < n := by omega
            have hj' : j' < m := by omega
            clear hi hj
            rcases h0 with h | ⟨g, o, rfl, hcell⟩
            · omega
            rcases h2 with h | ⟨g', o', rfl, hcell'⟩
            · omega
            have c1 : w.cell? ⟨g, o + i', none⟩ = some (.int .i32 (lv la i')) := hcell i' hi'
            have c2 : w.cell? ⟨g', o' + j', none⟩ = some (.int .i32 (lv lb j')) := hcell' j' hj'
            have HA : Hid (A i' = false) := hRA hi'
            have HB : Hid (B j' = false) := hRB hj'
            have k1 : (i' : Int) < (n : Int) := by omega
            have k2 : (j' : Int) < (m : Int) := by omega
            clear hcell hcell'
            by_cases hxy : lv la i' = lv lb j'
            · rw [hxy] at c1
              have HXY : Hid (lv la i' = lv lb j') := hxy
              clear hxy
              generalize lv lb j' = x at c1 c2
              go_wp2
              go_quiet (fail)
              go_wp2
              go_roundg (gk - (i' + 1 - i) - (j' + 1 - j))
              case measure => omega
              case rel => exact ⟨i' + 1, j' + 1, _, by go_num, by go_num, by omega, by omega, by omega, rfl, by unfold Hid; rw [unm_off _ HA.out, unm_off _ HB.out, HU.out, HXY.out]⟩
            · have hne : (lv la i' != lv lb j') = true := by rw [bne_iff_ne]; exact hxy
              clear hxy
              go_wp2
              go_quiet (fail)
              go_wp2
              go_ret
              exact ⟨false, _, rfl, (World.drewN_drewN ..).symm, fun h => by cases h⟩
end Go.Proofs.Qxb6600074a
