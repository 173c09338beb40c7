import Derived.Test.Qxb6600074aBase
import Derived.BigQuiet
import Derived.Deep.QuietTactic
import Derived.RegionTactic
import Derived.Deep.DeepCutAuto
namespace Go.Proofs.Qxb6600074a
open Go.RowKit
set_option linter.unusedVariables false

/-- The domain of 'shared'. -/
def Dom (ls os : List Int) (n0 n1 n2 : Nat) : Prop := n0 ≤ n2 ∧ (∀ i, i < n0 → 0 ≤ ls[i]?.getD 0 ∧ ls[i]?.getD 0 < 65536) ∧ (∀ i, i < n1 → 0 ≤ os[i]?.getD 0)
/-- It answers a bool, writes nothing, and where it says yes p holds. -/
def RetB (w : World) (p : Prop) (e : Ending) (w' : World) : Prop := ∃ r, e = .returned (.bool r) ∧ w = w' ∧ (r = true → p)
theorem retB_false (w : World) (p : Prop) : RetB w p (.returned (.bool false)) w := ⟨_, rfl, rfl, fun h => by cases h⟩
theorem retB_true (w : World) (p : Prop) (h : p) : RetB w p (.returned (.bool true)) w := ⟨_, rfl, rfl, fun _ => h⟩

set_option maxHeartbeats 400000 in
theorem domain (a0 a1 a2 : Option Addr) (n0 c0 n1 c1 n2 c2 : Nat) (ls os : List Int) (w : World) (h0 : Rd w a0 n0 (iv ls)) (h1 : Rd w a1 n1 (iv os)) (b0 : n0 ≤ 1048576) (b1 : n1 ≤ 1048576) (b2 : n2 ≤ 1048576) :
    Calls Try.prog 10 #[.slice a0 n0 c0, .slice a1 n1 c1, .slice a2 n2 c2] w fun e w' => RetB w (Dom ls os n0 n1 n2) e w' := by
  by_cases hlen : n2 < n0
  · go_enter Try.func10, Try.ntmps10
    go_wp2
    go_ret
    exact retB_false _ _
  · go_enter Try.func10, Try.ntmps10
    go_wp2
    go_loop [7] (fun i => ∃ k : Nat, k ≤ n0 ∧ i = .int .i64 k ∧ Hid (∀ i, i < k → 0 ≤ ls[i]?.getD 0 ∧ ls[i]?.getD 0 < 65536)) (fun i => n0 - (intOf i).toNat)
    case atStart => exact ⟨0, Nat.zero_le _, rfl, fun i hi => by omega⟩
    case round =>
      obtain ⟨k, hk, rfl, hA⟩ := hrel
      by_cases hlt : k < n0
      · rcases h0 with h0 | ⟨b, off, ha, hc⟩
        · omega
        · subst ha
          have hc1 : w.cell? ⟨b, off + k, none⟩ = some (.int .i32 (ls.getD k 0)) := hc k hlt
          clear hc
          go_wp2
          · go_ret
            exact retB_false _ _
          · have h2 : 0 ≤ ls[k]?.getD 0 ∧ ls[k]?.getD 0 < 65536 := by assumption
            go_round
            case rel =>
              refine ⟨k + 1, by omega, by go_num, fun i hi => ?_⟩
              by_cases hik : i = k
              · subst hik; exact h2
              · exact hA i (by omega)
            case measure => simp [intOf]; omega
          · go_ret
            exact retB_false _ _
      · go_wp2
        go_loop [8] (fun i => ∃ k : Nat, k ≤ n1 ∧ i = .int .i64 k ∧ Hid (∀ i, i < k → 0 ≤ os[i]?.getD 0)) (fun i => n1 - (intOf i).toNat)
        case atStart => exact ⟨0, Nat.zero_le _, rfl, fun i hi => by omega⟩
        case round =>
          obtain ⟨k', hk', rfl, hB⟩ := hrel
          by_cases hlt' : k' < n1
          · rcases h1 with h1 | ⟨b, off, ha, hc⟩
            · omega
            · subst ha
              have hc1 : w.cell? ⟨b, off + k', none⟩ = some (.int .i32 (os.getD k' 0)) := hc k' hlt'
              clear hc
              go_wp2
              · go_ret
                exact retB_false _ _
              · have h2 : 0 ≤ os[k']?.getD 0 := by assumption
                go_round
                case rel =>
                  refine ⟨k' + 1, by omega, by go_num, fun i hi => ?_⟩
                  by_cases hik : i = k'
                  · subst hik; omega
                  · exact hB i (by omega)
                case measure => simp [intOf]; omega
          · go_wp2
            go_ret
            exact retB_true _ _ ⟨by omega, fun i hi => hA i (by omega), fun i hi => hB i (by omega)⟩

/-! ### shared -/
def atTo (ls os : List Int) (k : Nat) : List Nat := (List.range k).filter (fun i => hasB os (ls[i]?.getD 0))
def keptTo (ls os : List Int) (k : Nat) : List Int := (atTo ls os k).map (fun i => ls[i]?.getD 0)
def markTo (ls os : List Int) (ms : List Bool) (k : Nat) (i : Nat) : Bool := if i < k ∧ hasB os (ls[i]?.getD 0) = false then true else ms.getD i false
def jv (xs : List Nat) (i : Nat) : Value := .int .i64 (xs.getD i 0 : Nat)

theorem atTo_hit {ls os : List Int} {k : Nat} (h : hasB os (ls[k]?.getD 0) = true) : atTo ls os (k + 1) = atTo ls os k ++ [k] := by
  unfold atTo; rw [List.range_succ, List.filter_append]; simp [h]
theorem atTo_miss {ls os : List Int} {k : Nat} (h : hasB os (ls[k]?.getD 0) = false) : atTo ls os (k + 1) = atTo ls os k := by
  unfold atTo; rw [List.range_succ, List.filter_append]; simp [h]
theorem atTo_le (ls os : List Int) (k : Nat) : (atTo ls os k).length ≤ k := by
  unfold atTo; have := List.length_filter_le (fun i => hasB os (ls[i]?.getD 0)) (List.range k); simpa using this
theorem keptTo_len (ls os : List Int) (k : Nat) : (keptTo ls os k).length = (atTo ls os k).length := by simp [keptTo]

theorem Try.info3 : (Try.prog.info? 3).map (fun i => (i.zero, i.size, i.bytes)) = some (some (.int .i64 0), 1, 8) := by kernel_rfl

def blkI (n : Nat) : Obj := .cells (madeCells #[.int .i32 0] n) 21
def blkJ (n : Nat) : Obj := .cells (madeCells #[.int .i64 0] n) 3

theorem mkI (n : Nat) (hn : n ≤ 1048576) (w : World) : (Instr.makeSlice 22 (.int .i64 0) (.int .i64 (n : Int))).run Try.prog w = .ok (.slice (some ⟨w.heap.size, 0, none⟩) 0 n) (w.alloc (blkI n)) := by
  obtain ⟨i0, hi, hz0, hz1, hz2⟩ := info_parts Try.info21
  have := run_make (P := Try.prog) w 22 21 i0 (.int .i32 0) Try.underlying22 hi hz0 .i64 .i64 0 (n : Int) (by omega) (by omega) (by rw [hz2]; omega) (by omega)
  rw [hz1] at this
  simpa [blkI, Value.cells] using this
theorem mkJ (n : Nat) (hn : n ≤ 1048576) (w : World) : (Instr.makeSlice 27 (.int .i64 0) (.int .i64 (n : Int))).run Try.prog w = .ok (.slice (some ⟨w.heap.size, 0, none⟩) 0 n) (w.alloc (blkJ n)) := by
  obtain ⟨i0, hi, hz0, hz1, hz2⟩ := info_parts Try.info3
  have := run_make (P := Try.prog) w 27 3 i0 (.int .i64 0) Try.underlying27 hi hz0 .i64 .i64 0 (n : Int) (by omega) (by omega) (by rw [hz2]; omega) (by omega)
  rw [hz1] at this
  simpa [blkJ, Value.cells] using this

theorem own_blkI (w : World) (base n : Nat) (f : Nat → Value) (hb : base ≤ w.heap.size) (hn : n ≤ 1048576) : Own (w.alloc (blkI n)) base 21 (some ⟨w.heap.size, 0, none⟩) 0 n f :=
  World.ownsRow_made w _ n hb (by unfold maxLen; omega) (by simp [madeCells])
theorem own_blkJ (w : World) (base n : Nat) (f : Nat → Value) (hb : base ≤ w.heap.size) (hn : n ≤ 1048576) : Own (w.alloc (blkJ n)) base 3 (some ⟨w.heap.size, 0, none⟩) 0 n f :=
  World.ownsRow_made w _ n hb (by unfold maxLen; omega) (by simp [madeCells])
theorem Own.drew {w : World} {base : Nat} {e : TypeId} {a : Option Addr} {n c : Nat} {f : Nat → Value} (h : Own w base e a n c f) : Own w.drew base e a n c f := h

theorem Own.addr {w : World} {base : Nat} {e : TypeId} {a : Option Addr} {n c : Nat} {f : Nat → Value} (h : Own w base e a n c f) (hn : 0 < n) : ∃ g, a = some ⟨g, 0, none⟩ := by
  rcases h.2 with ⟨_, h2⟩ | ⟨g, cap, cur, h1, _⟩
  · omega
  · simp only [Value.slice.injEq] at h1; exact ⟨g, h1.1⟩

theorem iv_snoc (zs : List Int) (n : Nat) (v : Int) (hn : zs.length = n) (i : Nat) (hi : i < n + 1) : (if i < n then iv zs i else .int .i32 v) = iv (zs ++ [v]) i := by
  subst hn
  unfold iv
  by_cases h : i < zs.length
  · simp [h, List.getElem?_append_left h]
  · have : i = zs.length := by omega
    subst this; simp
theorem jv_snoc (zs : List Nat) (n : Nat) (v : Nat) (hn : zs.length = n) (i : Nat) (hi : i < n + 1) : (if i < n then jv zs i else .int .i64 (v : Int)) = jv (zs ++ [v]) i := by
  subst hn
  unfold jv
  by_cases h : i < zs.length
  · simp [h, List.getElem?_append_left h]
  · have : i = zs.length := by omega
    subst this; simp

def SharedPost (w : World) (base : Nat) (ls os : List Int) (ms : List Bool) (n0 : Nat) (a2 : Option Addr) (n2 c2 : Nat) (e : Ending) (w' : World) : Prop :=
  ∃ gk ga, e = .returned (.tuple #[.slice (some ⟨gk, 0, none⟩) (atTo ls os n0).length n0, .slice (some ⟨ga, 0, none⟩) (atTo ls os n0).length n0]) ∧
    Own w' w.heap.size 21 (some ⟨gk, 0, none⟩) (atTo ls os n0).length n0 (iv (keptTo ls os n0)) ∧ Own w' w.heap.size 3 (some ⟨ga, 0, none⟩) (atTo ls os n0).length n0 (jv (atTo ls os n0)) ∧
    Own w' base 4 a2 n2 c2 (fun i => .bool (markTo ls os ms n0 i)) ∧ w.grownBy w' (rowOf a2)

set_option maxHeartbeats 1000000 in
theorem shared_any (base : Nat) (a0 a1 a2 : Option Addr) (n0 c0 n1 c1 n2 c2 : Nat) (ls os : List Int) (ms : List Bool) (w : World) (h0 : Rd w a0 n0 (iv ls)) (h1 : Rd w a1 n1 (iv os)) (h2 : Own w base 4 a2 n2 c2 (bv ms))
    (l1 : os.length = n1) (b0 : n0 ≤ 1048576) (b1 : n1 ≤ 1048576) (b2 : n2 ≤ 1048576) (hd : Dom ls os n0 n1 n2) (hw : ∀ i : Nat, os[i]?.getD 0 ≤ 2147483647) (hne0 : ∀ x, a0 = some x → rowOf a2 ≠ some x.block) :
    Calls Try.prog 29 #[.slice a0 n0 c0, .slice a1 n1 c1, .slice a2 n2 c2] w fun e w' => SharedPost w base ls os ms n0 a2 n2 c2 e w' := by
  have HL : Hid (os.length = n1) := l1
  have HW : Hid (∀ i : Nat, os[i]?.getD 0 ≤ 2147483647) := hw
  clear l1 hw
  obtain ⟨hd0, hd1, hd2⟩ := hd
  have HD1 : Hid (∀ i, i < n0 → 0 ≤ ls[i]?.getD 0 ∧ ls[i]?.getD 0 < 65536) := hd1
  have HD2 : Hid (∀ i, i < n1 → 0 ≤ os[i]?.getD 0) := hd2
  clear hd1 hd2
  go_enter Try.func29, Try.ntmps29
  go_wp2
  go_loop [8, 20] (fun t i => ∃ k m : Nat, k ≤ n0 ∧ i = .int .i64 k ∧ t = .int .i64 m ∧ m ≤ 65536 ∧ Hid (∀ i, i < k → ls[i]?.getD 0 < m)) (fun _ i => n0 - (intOf i).toNat)
  case atStart => exact ⟨0, 0, Nat.zero_le _, rfl, rfl, by omega, fun i hi => by omega⟩
  case round =>
    obtain ⟨k, m, hk, rfl, rfl, hm, hA⟩ := hrel
    by_cases hlt : k < n0
    · have hv := HD1 k hlt
      rcases h0 with h0 | ⟨b, off, ha, hc⟩
      · omega
      · subst ha
        have hc1 : w.cell? ⟨b, off + k, none⟩ = some (.int .i32 (ls.getD k 0)) := hc k hlt
        clear hc
        go_wp2
        go_round
        case rel =>
          obtain ⟨m', hm'⟩ : ∃ m' : Nat, (m' : Int) = if (m : Int) < ls[k]?.getD 0 + 1 then ls[k]?.getD 0 + 1 else (m : Int) := ⟨(if (m : Int) < ls[k]?.getD 0 + 1 then ls[k]?.getD 0 + 1 else (m : Int)).toNat, by split <;> omega⟩
          refine ⟨k + 1, m', by omega, by go_num, by rw [hm'], by split at hm' <;> omega, fun i hi => ?_⟩
          by_cases hik : i = k
          · subst hik; split at hm' <;> omega
          · have := hA i (by omega); split at hm' <;> omega
        case measure => simp [intOf]; omega
    · obtain rfl : k = n0 := by omega
      obtain ⟨i4, hi4, hz40, hz41, hz42⟩ := info_parts Try.info4
      have hml : m ≤ maxLen := by unfold maxLen; omega
      go_wp2_with (at_make; refine wpList_make_full _ rfl _ _ 23 rfl w.heap.size 4 i4 (.bool false) 1 Try.underlying23 hi4 hz40 hz41 _ _ _ _ m rfl rfl rfl rfl (by rw [hz42]; omega) hml (Nat.le_refl _) ?_)
      intro w1 hown0 hgrow
      have hown := own_made hown0
      have hb1 : Below w.heap.size w w1 := (Below.refl _ _).grown hgrow (Nat.le_refl _) (by intro k hk; cases hk)
      clear hown0 hgrow
      go_wp2
      go_loopw [34] (fun i wr => ∃ k : Nat, k ≤ n1 ∧ i = .int .i64 k ∧ Own wr w.heap.size 4 (some ⟨w.heap.size, 0, none⟩) m m (fun i => .bool (hasB (os.take k) (i : Int))) ∧ Below w.heap.size w wr) (fun i _ => n1 - (intOf i).toNat)
      case atStart => exact ⟨0, Nat.zero_le _, rfl, hown.congr (fun i _ => rfl), hb1⟩
      case round =>
        obtain ⟨j, hj, rfl, hown, hb⟩ := hrel
        by_cases hlt' : j < n1
        · have hv := HD2 j hlt'
          rcases h1 with h1 | ⟨b, off, ha, hc⟩
          · omega
          · subst ha
            obtain ⟨x, hx⟩ : ∃ x : Nat, os[j]?.getD 0 = (x : Int) := ⟨(os[j]?.getD 0).toNat, by omega⟩
            have hc1 : wr.cell? ⟨b, off + j, none⟩ = some (.int .i32 (x : Int)) := by rw [← hx]; exact cell_later hb (hc j hlt')
            have hxb : x ≤ 2147483647 := by have := HW.out j; omega
            have HX : Hid (os[j]?.getD 0 = (x : Int)) := hx
            clear hc hx hv
            by_cases hin : (x : Int) < (m : Int)
            · have hc2 := hown.cell x (by omega)
              have hf2 := hown.frozen x
              have hs := hown.stored x (.bool true)
              go_wp2
              go_roundw
              case rel =>
                refine ⟨j + 1, by omega, by go_num, hs.congr (fun i _ => ?_), hb.setCell (Nat.le_refl _) _⟩
                rw [has_take_succ _ _ _ (by have := HL.out; omega), HX.out]
                by_cases hix : i = x
                · subst hix; simp
                · rw [if_neg hix, show ((x : Int) == (i : Int)) = false from beq_eq_false_iff_ne.2 (by omega), Bool.or_false]
              case measure => simp [intOf]; omega
            · go_wp2
              go_roundw
              case rel =>
                refine ⟨j + 1, by omega, by go_num, hown.congr (fun i _ => ?_), hb⟩
                rw [has_take_succ _ _ _ (by have := HL.out; omega), HX.out, show ((x : Int) == (i : Int)) = false from beq_eq_false_iff_ne.2 (by omega), Bool.or_false]
              case measure => simp [intOf]; omega
        · obtain rfl : j = n1 := by omega
          have hmI := mkI k b0
          have hmJ := mkJ k b0
          have hIn : Own wr w.heap.size 4 (some ⟨w.heap.size, 0, none⟩) m m (fun i => .bool (hasB os (i : Int))) := hown.congr (fun i _ => by rw [List.take_of_length_le (by have := HL.out; omega)])
          clear hown hb1
          have hS := hIn.base.2
          go_wp2
          go_cut [14, 15] (fun v14 v15 wc => ∃ gk ga : Nat, v14 = .slice (some ⟨gk, 0, none⟩) 0 k ∧ v15 = .slice (some ⟨ga, 0, none⟩) 0 k ∧ gk ≠ ga ∧ w.heap.size < gk ∧ w.heap.size < ga ∧ Own wc w.heap.size 21 (some ⟨gk, 0, none⟩) 0 k (iv []) ∧ Own wc w.heap.size 3 (some ⟨ga, 0, none⟩) 0 k (jv []) ∧ Below wr.heap.size wr wc)
          case first =>
            go_region
            · go_wp2_with fail
              go_meet
              have e1 : (wr.alloc (blkI k)).heap.size = wr.heap.size + 1 := by simp
              refine ⟨wr.heap.size, wr.heap.size + 1, rfl, rfl, by omega, by omega, by omega, ((own_blkI wr _ k _ (by omega) b0).alloc _).drew, ?_, ((Below.refl _ _).alloc (Nat.le_refl _) _).alloc (by omega) _ |>.drew⟩
              have := own_blkJ (wr.alloc (blkI k)) w.heap.size k (jv []) (by omega) b0
              rw [e1] at this
              exact this.drew
            · go_wp2_with fail
              go_meet
              have e1 : (wr.alloc (blkJ k)).heap.size = wr.heap.size + 1 := by simp
              refine ⟨wr.heap.size + 1, wr.heap.size, rfl, rfl, by omega, by omega, by omega, ?_, ((own_blkJ wr _ k _ (by omega) b0).alloc _).drew, ((Below.refl _ _).alloc (Nat.le_refl _) _).alloc (by omega) _ |>.drew⟩
              have := own_blkI (wr.alloc (blkJ k)) w.heap.size k (iv []) (by omega) b0
              rw [e1] at this
              exact this.drew
          case rest =>
            obtain ⟨gk, ga, rfl, rfl, hne, hgk, hga, hK, hJ, hb2⟩ := hcut
            clear hmI hmJ
            have hg0 : w.grownBy wc (rowOf a2) := gb_below (hb.trans (hb2.mono hb.size)) _
            have hI2 := hIn.below hb2
            have hM2 : Own wc base 4 a2 n2 c2 (fun i => .bool (markTo ls os ms 0 i)) := (h2.below (hb.trans (hb2.mono hb.size))).congr (fun i _ => by simp [markTo, bv])
            clear hIn hb hb2
            go_wp2
            obtain ⟨i21, hi21, hz210, hz211, hz212⟩ := info_parts Try.info21
            obtain ⟨i3, hi3, hz30, hz31, hz32⟩ := info_parts Try.info3
            go_loopw [14, 15, 54] (fun v14 v15 i wr => ∃ t : Nat, t ≤ k ∧ i = .int .i64 t ∧ v14 = .slice (some ⟨gk, 0, none⟩) (atTo ls os t).length k ∧ v15 = .slice (some ⟨ga, 0, none⟩) (atTo ls os t).length k ∧
                Own wr w.heap.size 21 (some ⟨gk, 0, none⟩) (atTo ls os t).length k (iv (keptTo ls os t)) ∧ Own wr w.heap.size 3 (some ⟨ga, 0, none⟩) (atTo ls os t).length k (jv (atTo ls os t)) ∧
                Own wr w.heap.size 4 (some ⟨w.heap.size, 0, none⟩) m m (fun i => .bool (hasB os (i : Int))) ∧ Own wr base 4 a2 n2 c2 (fun i => .bool (markTo ls os ms t i)) ∧ w.grownBy wr (rowOf a2)) (fun _ _ i _ => k - (intOf i).toNat)
            case atStart => exact ⟨0, Nat.zero_le _, rfl, rfl, rfl, hK, hJ, hI2, hM2, hg0⟩
            case round =>
              obtain ⟨t, ht, rfl, rfl, rfl, hK, hJ, hI, hM, hg⟩ := hrel
              by_cases hlt3 : t < k
              · have hv := HD1 t (by omega)
                obtain ⟨x, hx⟩ : ∃ x : Nat, ls[t]?.getD 0 = (x : Int) := ⟨(ls[t]?.getD 0).toNat, by omega⟩
                have hxm : x < m := by have := hA t (by omega); omega
                rcases h0.grown hg hne0 with h | ⟨b, off, ha, hc⟩
                · omega
                subst ha
                have hc1 : wr.cell? ⟨b, off + t, none⟩ = some (.int .i32 (x : Int)) := by rw [← hx]; exact hc t hlt3
                have HX : Hid (ls[t]?.getD 0 = (x : Int)) := hx
                clear hc hx hv
                cases hh : hasB os (x : Int)
                · have hc2 : wr.cell? ⟨w.heap.size, x, none⟩ = some (.bool false) := by rw [hI.cell x hxm, hh]
                  obtain ⟨g2, rfl⟩ := hM.addr (by omega)
                  have hc3 := hM.cell t (by omega)
                  have hf3 := hM.frozen t
                  have HH : Hid (hasB os (ls[t]?.getD 0) = false) := by rw [HX.out]; exact hh
                  have hlt2 : g2 < w.heap.size := h2.base.2
                  clear hh
                  go_wp2
                  go_roundw
                  case rel =>
                    have eA := atTo_miss HH.out
                    have eK : keptTo ls os (t + 1) = keptTo ls os t := by unfold keptTo; rw [eA]
                    refine ⟨t + 1, by omega, by go_num, by rw [eA], by rw [eA], ?_, ?_, hI.grown (gb_set _ _ _) (by intro y hy; cases hy; simp; omega), (hM.stored t _).congr ?_, gb_step hg (gb_set _ _ _) (by intro y hy; cases hy; exact .inl rfl)⟩
                    · rw [eA, eK]; exact hK.grown (gb_set _ _ _) (by intro y hy; cases hy; simp; omega)
                    · rw [eA]; exact hJ.grown (gb_set _ _ _) (by intro y hy; cases hy; simp; omega)
                    · intro i _
                      by_cases hit : i = t
                      · subst hit; rw [if_pos rfl]; unfold markTo; rw [if_pos ⟨by omega, HH.out⟩]
                      · rw [if_neg hit]; unfold markTo
                        have : (i < t ∧ hasB os (ls[i]?.getD 0) = false) ↔ (i < t + 1 ∧ hasB os (ls[i]?.getD 0) = false) := ⟨fun h => ⟨by omega, h.2⟩, fun h => ⟨by omega, h.2⟩⟩
                        simp only [this]
                  case measure => simp [intOf]; omega
                · have hc2 : wr.cell? ⟨w.heap.size, x, none⟩ = some (.bool true) := by rw [hI.cell x hxm, hh]
                  have HH : Hid (hasB os (ls[t]?.getD 0) = true) := by rw [HX.out]; exact hh
                  have hle := atTo_le ls os t
                  clear hh
                  go_wp2_with (at_builtin; refine wpList_append_fits _ rfl (.tmp 63) (.tmp 65) 22 rfl w.heap.size 21 i21 1 Try.underlying22 hi21 hz211 gk (atTo ls os t).length k _ rfl (hK.alloc _) ⟨wr.heap.size, 0, none⟩ 1 1 [.int .i32 (x : Int)] rfl rfl (cell_one_new _ _ _) (by intro u hu; simp at hu; subst hu; rfl) (by omega) ?_)
                  intro w1 hK1 hg1
                  have hJ1 := (hJ.alloc (.cells #[.int .i32 (x : Int)] 21)).grown hg1 (by intro y hy; cases hy; simp; omega)
                  have hI1 := (hI.alloc (.cells #[.int .i32 (x : Int)] 21)).grown hg1 (by intro y hy; cases hy; simp; omega)
                  have hM1 := (hM.alloc (.cells #[.int .i32 (x : Int)] 21)).grown hg1 (by intro y hy; subst hy; obtain ⟨g2, hy⟩ := h2.addr (by omega); cases hy; have := h2.base.2; simp; omega)
                  have hgg := gb_step (gb_step hg (World.grownBy_alloc wr (.cells #[.int .i32 (x : Int)] 21) none) (by intro y hy; cases hy)) hg1 (by intro y hy; cases hy; exact .inr (by omega))
                  have HK1 := own_snoc hK1
                  clear hK1 hg1 hK hJ hI hM hg
                  go_wp2_with (at_builtin; refine wpList_append_fits _ rfl (.tmp 67) (.tmp 69) 27 rfl w.heap.size 3 i3 1 Try.underlying27 hi3 hz31 ga (atTo ls os t).length k _ rfl (hJ1.alloc _) ⟨w1.heap.size, 0, none⟩ 1 1 [.int .i64 (t : Int)] rfl rfl (cell_one_new _ _ _) (by intro u hu; simp at hu; subst hu; rfl) (by omega) ?_)
                  intro w2 hJ2 hg2
                  have HK2 := (HK1.alloc (.cells #[.int .i64 (t : Int)] 3)).grown hg2 (by intro y hy; cases hy; simp; omega)
                  have hI2 := (hI1.alloc (.cells #[.int .i64 (t : Int)] 3)).grown hg2 (by intro y hy; cases hy; simp; omega)
                  have hM2 := (hM1.alloc (.cells #[.int .i64 (t : Int)] 3)).grown hg2 (by intro y hy; subst hy; obtain ⟨g2, hy⟩ := h2.addr (by omega); cases hy; have := h2.base.2; simp; omega)
                  have hgg2 := gb_step (gb_step hgg (World.grownBy_alloc w1 (.cells #[.int .i64 (t : Int)] 3) none) (by intro y hy; cases hy)) hg2 (by intro y hy; cases hy; exact .inr (by omega))
                  have HJ2 := own_snoc hJ2
                  clear hJ2 hg2 HK1 hJ1 hI1 hM1 hgg
                  go_wp2
                  go_roundw
                  case rel =>
                    have eA := atTo_hit HH.out
                    have eK : keptTo ls os (t + 1) = keptTo ls os t ++ [(x : Int)] := by unfold keptTo; rw [eA, List.map_append, ← HX.out]; rfl
                    have eL : (atTo ls os (t + 1)).length = (atTo ls os t).length + 1 := by rw [eA]; simp
                    refine ⟨t + 1, by omega, by go_num, by rw [eL], by rw [eL], ?_, ?_, hI2, hM2.congr ?_, hgg2⟩
                    · rw [eL, eK]; exact HK2.congr (fun i hi => iv_snoc _ _ _ (keptTo_len _ _ _) i hi)
                    · rw [eL, eA]; exact HJ2.congr (fun i hi => jv_snoc _ _ _ rfl i hi)
                    · intro i _
                      unfold markTo
                      have : (i < t ∧ hasB os (ls[i]?.getD 0) = false) ↔ (i < t + 1 ∧ hasB os (ls[i]?.getD 0) = false) := by
                        refine ⟨fun h => ⟨by omega, h.2⟩, fun h => ⟨?_, h.2⟩⟩
                        by_cases hit : i = t
                        · subst hit; rw [HH.out] at h; cases h.2
                        · omega
                      simp only [this]
                  case measure => simp [intOf]; omega
              · obtain rfl : t = k := by omega
                go_wp2
                go_ret2
                exact ⟨gk, ga, rfl, hK, hJ, hM, hg⟩

set_option maxHeartbeats 400000 in
theorem zzshared (base : Nat) (a0 a1 a2 : Option Addr) (n0 c0 n1 c1 n2 c2 : Nat) (ls os : List Int) (ms : List Bool) (w : World) (h0 : Rd w a0 n0 (iv ls)) (h1 : Rd w a1 n1 (iv os)) (h2 : Own w base 4 a2 n2 c2 (bv ms))
    (l1 : os.length = n1) (b0 : n0 ≤ 1048576) (b1 : n1 ≤ 1048576) (b2 : n2 ≤ 1048576) (hd : Dom ls os n0 n1 n2) (hw : ∀ i : Nat, os[i]?.getD 0 ≤ 2147483647) (hne0 : ∀ x, a0 = some x → rowOf a2 ≠ some x.block) :
    Calls Try.prog 13 #[.slice a0 n0 c0, .slice a1 n1 c1, .slice a2 n2 c2] w fun e w' => SharedPost w base ls os ms n0 a2 n2 c2 e w' := by
  have H := shared_any base a0 a1 a2 n0 c0 n1 c1 n2 c2 ls os ms w h0 h1 h2 l1 b0 b1 b2 hd hw hne0
  have HH : Hid (Calls Try.prog 29 #[.slice a0 n0 c0, .slice a1 n1 c1, .slice a2 n2 c2] w fun e w' => SharedPost w base ls os ms n0 a2 n2 c2 e w') := H
  clear H l1 hw hd
  go_enter Try.func13, Try.ntmps13
  go_wp2_with fail
  refine HH.out.mono ?_
  rintro e w' ⟨gk, ga, rfl, r⟩
  go_wp2
  go_ret2
  exact ⟨gk, ga, rfl, r⟩
end Go.Proofs.Qxb6600074a
