import Derived.Test.Qxb6601618aBase
namespace Go.Proofs.Qxb6601618a
open Go.RowKit
set_option linter.unusedVariables false

set_option maxRecDepth 100000 in
set_option maxHeartbeats 400000 in
theorem bytes5 (a0 a1 : Option Addr) (n c0 m c1 : Nat) (ss : List ByteArray) (col : ByteArray) (w : World) (h0 : Rd w a0 n (sv ss)) (hn : n ≤ maxLen) (hm : m ≤ maxLen) (hc : col.size ≤ maxLen) (hs : ∀ i, (ss.getD i ByteArray.empty).size ≤ maxLen) :
    Calls Try.prog 5 #[.slice a0 n c0, .slice a1 m c1, .string col] w fun e w' => RetB w True e w' := by
  have HS : Hid (∀ i, (ss.getD i ByteArray.empty).size ≤ maxLen) := hs
  clear hs
  unfold maxLen at hn hm hc
  by_cases hbig : 1048576 < n
  · go_enter Try.func5, Try.ntmps5
    go_wp2
    go_ret
    exact retB_false _ _
  · have d0 : decide ((1048576 : Int) < (n : Int)) = false := decide_eq_false (by omega)
    go_enter Try.func5, Try.ntmps5
    go_wp2
    clear d0
    go_loop [7, 8] (fun v i => ∃ (k : Nat) (z : Int), k ≤ n ∧ i = .int .i64 k ∧ v = .int .i64 z ∧ 0 ≤ z ∧ z ≤ 1048576) (fun _ i => n - (intOf i).toNat)
    case atStart => exact ⟨0, n, Nat.zero_le _, rfl, rfl, by omega, by omega⟩
    case round =>
      obtain ⟨k, z, hk, rfl, rfl, hz0, hz1⟩ := hrel
      by_cases hlt : k < n
      · rcases h0 with h | ⟨b, off, ha, hcell⟩
        · omega
        subst ha
        obtain ⟨s, hs⟩ : ∃ s, ss.getD k ByteArray.empty = s := ⟨_, rfl⟩
        have c1 : w.cell? ⟨b, off + k, none⟩ = some (.string s) := by rw [hcell k hlt]; unfold sv; rw [hs]
        have hsz := HS.out k
        rw [hs] at hsz
        unfold maxLen at hsz
        clear hcell hs
        go_wp2
        · go_ret
          exact retB_false _ _
        · go_ret
          exact retB_false _ _
        · go_round
          case rel => exact ⟨k + 1, z + s.size, by omega, by go_num, rfl, by omega, by omega⟩
          case measure => simp [intOf]; omega
      · go_wp2
        all_goals go_ret
        all_goals first | exact retB_false _ _ | exact retB_true _ _ trivial

set_option maxRecDepth 100000 in
set_option maxHeartbeats 400000 in
theorem within6 (a0 a1 : Option Addr) (n c0 m c1 : Nat) (ss : List ByteArray) (col : ByteArray) (w : World) (h0 : Rd w a0 n (sv ss)) (hn : n ≤ maxLen) (hm : m ≤ maxLen) (hc : col.size ≤ maxLen) (hs : ∀ i, (ss.getD i ByteArray.empty).size ≤ maxLen) :
    Calls Try.prog 6 #[.slice a0 n c0, .slice a1 m c1, .string col] w fun e w' => RetB w (n ≤ 65536 ∧ m ≤ 65536) e w' := by
  have HS : Hid (∀ i, (ss.getD i ByteArray.empty).size ≤ maxLen) := hs
  clear hs
  unfold maxLen at hn hm hc
  by_cases hbig : 65536 < n
  · go_enter Try.func6, Try.ntmps6
    go_wp2
    go_ret
    exact retB_false _ _
  by_cases hbig1 : 65536 < m
  · go_enter Try.func6, Try.ntmps6
    go_wp2
    go_ret
    exact retB_false _ _
  by_cases hbig2 : 1048576 < col.size
  · go_enter Try.func6, Try.ntmps6
    go_wp2
    go_ret
    exact retB_false _ _
  have d0 : decide ((65536 : Int) < (n : Int)) = false := decide_eq_false (by omega)
  have d1 : decide ((65536 : Int) < (m : Int)) = false := decide_eq_false (by omega)
  have d2 : decide ((1048576 : Int) < (col.size : Int)) = false := decide_eq_false (by omega)
  by_cases hbig3 : 1048576 < col.size + 8 * m + 16 * n
  · go_enter Try.func6, Try.ntmps6
    go_wp2
    go_ret
    exact retB_false _ _
  have d3 : decide ((1048576 : Int) < (col.size : Int) + 8 * (m : Int) + 16 * (n : Int)) = false := decide_eq_false (by omega)
  go_enter Try.func6, Try.ntmps6
  go_wp2
  clear d0 d1 d2 d3
  go_loop [7, 8] (fun v i => ∃ (k : Nat) (z : Int), k ≤ n ∧ i = .int .i64 k ∧ v = .int .i64 z) (fun _ i => n - (intOf i).toNat)
  case atStart => exact ⟨0, _, Nat.zero_le _, rfl, rfl⟩
  case round =>
    obtain ⟨k, z, hk, rfl, rfl⟩ := hrel
    by_cases hlt : k < n
    · rcases h0 with h | ⟨b, off, ha, hcell⟩
      · omega
      subst ha
      obtain ⟨s, hs⟩ : ∃ s, ss.getD k ByteArray.empty = s := ⟨_, rfl⟩
      have c1 : w.cell? ⟨b, off + k, none⟩ = some (.string s) := by rw [hcell k hlt]; unfold sv; rw [hs]
      clear hcell hs
      go_wp2
      · go_ret
        exact retB_false _ _
      · go_round
        case rel => exact ⟨k + 1, _, by omega, by go_num, rfl⟩
        case measure => simp [intOf]; omega
    · go_wp2
      go_ret
      exact retB_true _ _ (by omega)

/-- The first column from place n - d on that bears the name: its place and yes; else 0 and no. -/
def fm (ss : Nat → ByteArray) (zs : Nat → Int) (col : ByteArray) (n : Nat) : Nat → Int × Bool
  | 0 => (0, false)
  | d + 1 => if ((ss (n - (d + 1))).toList == col.toList) = true then (zs (n - (d + 1)), true) else fm ss zs col n d

/-- The columns as cells. -/
def colv (ss : Nat → ByteArray) (zs : Nat → Int) (i : Nat) : Value := if i % 2 = 0 then .string (ss (i / 2)) else .int .i64 (zs (i / 2))

def PlacePost (w : World) (r : Int × Bool) (e : Ending) (w' : World) : Prop := e = .returned (.tuple #[.int .i64 r.1, .bool r.2]) ∧ Below w.heap.size w w'

set_option maxRecDepth 100000 in
set_option maxHeartbeats 400000 in
theorem place_any (fb n c base : Nat) (a : Option Addr) (v1 v2 : Value) (ss : Nat → ByteArray) (zs : Nat → Int) (col : ByteArray) (w : World) (hf : w.cell? ⟨fb, 1, none⟩ = some (.slice a n c)) (hC : Own w base 32 2 a n c (colv ss zs)) (hn : n ≤ 65536) :
    Calls Try.prog 11 #[.agg #[.pointer (some ⟨fb, 0, none⟩), v1, v2], .string col] w fun e w' => PlacePost w (fm ss zs col n n) e w' := by
  have hfb := World.block_lt_of_cell? _ _ hf
  simp only [] at hfb
  go_enter Try.func11, Try.ntmps11
  go_wp2
  go_loopw [14] (fun v wr => ∃ k : Nat, k ≤ n ∧ v = .int .i64 k ∧ Hid (fm ss zs col n n = fm ss zs col n (n - k)) ∧ Below w.heap.size w wr) (fun v _ => n - (intOf v).toNat)
  case atStart => exact ⟨0, Nat.zero_le _, rfl, rfl, (Below.refl _ _).alloc (Nat.le_refl _) _⟩
  case round =>
    obtain ⟨k, hk, rfl, hF, hb⟩ := hrel
    have hbs := hb.size
    by_cases hlt : k < n
    · obtain ⟨g, rfl⟩ := hC.ad (by omega)
      have c0 : wr.cell? ⟨g, k * 2, none⟩ = some (.string (ss k)) := by
        rw [(hC.below hb).cell (k * 2) (by omega)]; unfold colv; rw [if_pos (by omega), show k * 2 / 2 = k by omega]
      have c1 : wr.cell? ⟨g, k * 2 + 1, none⟩ = some (.int .i64 (zs k)) := by
        rw [(hC.below hb).cell (k * 2 + 1) (by omega)]; unfold colv; rw [if_neg (by omega), show (k * 2 + 1) / 2 = k by omega]
      have HX : Hid (fm ss zs col n (n - k) = if ((ss k).toList == col.toList) = true then (zs k, true) else fm ss zs col n (n - (k + 1))) := by
        unfold Hid
        obtain ⟨d, hd⟩ : ∃ d, n - k = d + 1 := ⟨n - k - 1, by omega⟩
        rw [hd, fm, show n - (d + 1) = k by omega, show n - (k + 1) = d by omega]
      generalize zs k = z at c1 HX
      generalize ss k = s at c0 HX
      cases hq : (s.toList == col.toList) with
      | true =>
        rw [hq] at HX
        have HX' : Hid (fm ss zs col n n = (z, true)) := by unfold Hid; rw [hF.out, HX.out]; rfl
        go_wp2
        go_ret2
        refine ⟨?_, hb.alloc (by omega) _⟩
        rw [HX'.out]; rfl
      | false =>
        rw [hq] at HX
        have HX' : Hid (fm ss zs col n n = fm ss zs col n (n - (k + 1))) := by unfold Hid; rw [hF.out, HX.out]; rfl
        go_wp2
        go_roundw
        case rel => exact ⟨k + 1, by omega, by go_num, HX', hb.alloc (by omega) _⟩
        case measure => simp [intOf]; omega
    · have HX' : Hid (fm ss zs col n n = (0, false)) := by unfold Hid; rw [hF.out, show n - k = 0 by omega]; rfl
      go_wp2
      go_ret2
      refine ⟨?_, hb⟩
      rw [HX'.out]; rfl

set_option maxRecDepth 100000 in
set_option maxHeartbeats 1000000 in
theorem zzplace (a0 a1 : Option Addr) (n c0 c1 : Nat) (ss : List ByteArray) (zs : List Int) (col : ByteArray) (w : World) (h0 : Rd w a0 n (sv ss)) (h1 : Rd w a1 n (nv zs)) (hn : n ≤ 65536) :
    Calls Try.prog 9 #[.slice a0 n c0, .slice a1 n c1, .string col] w fun e w' => PlacePost w (fm (fun i => ss.getD i ByteArray.empty) (fun i => zs.getD i 0) col n n) e w' := by
  obtain ⟨i0, hi, hz0, hz1, hz2⟩ := info_parts Try.info32
  have hml : n ≤ maxLen := by unfold maxLen; omega
  go_enter Try.func9, Try.ntmps9
  go_wp2_with (at_make; refine wpList_make_full _ rfl _ _ 30 rfl w.heap.size 32 i0 (.agg #[.string ByteArray.empty, .int .i64 0]) 2 Try.underlying30 hi hz0 hz1 _ _ _ _ n rfl rfl rfl rfl (by rw [hz2]; omega) hml (Nat.le_refl _) ?_)
  intro w1 hown0 hgrow
  have hown := own_any hown0
  have hb1 : Below w.heap.size w w1 := (Below.refl _ _).grown hgrow (Nat.le_refl _) (by intro k hk; cases hk)
  clear hown0 hgrow
  go_wp2
  go_loopw [9] (fun i wr => ∃ (k : Nat) (F : Nat → Value), k ≤ n ∧ i = .int .i64 k ∧ Own wr w.heap.size 32 2 (some ⟨w.heap.size, 0, none⟩) n n F ∧ Hid (∀ j, j < k * 2 → F j = colv (fun i => ss.getD i ByteArray.empty) (fun i => zs.getD i 0) j) ∧ Below w.heap.size w wr) (fun i _ => n - (intOf i).toNat)
  case atStart => exact ⟨0, _, Nat.zero_le _, rfl, hown, fun j hj => by omega, hb1⟩
  case round =>
    obtain ⟨k, F, hk, rfl, ho, hF, hb⟩ := hrel
    clear hown hb1
    have hB := ho.inb
    by_cases hlt : k < n
    · rcases h0 with h | ⟨b, off, ha, hc⟩
      · omega
      rcases h1 with h | ⟨b', off', ha', hc'⟩
      · omega
      subst ha
      subst ha'
      have x0 : wr.cell? ⟨b, off + k, none⟩ = some (.string (ss.getD k ByteArray.empty)) := (cell_later hb (hc k hlt))
      have x1 : wr.cell? ⟨b', off' + k, none⟩ = some (.int .i64 (zs.getD k 0)) := (cell_later hb (hc' k hlt))
      have y0 := ho.cell (k * 2) (by omega)
      have y1 := ho.cell (k * 2 + 1) (by omega)
      have f0 := ho.frozen (k * 2)
      have f1 := ho.frozen (k * 2 + 1)
      have hs := (ho.stored (k * 2) (.string (ss.getD k ByteArray.empty))).stored (k * 2 + 1) (.int .i64 (zs.getD k 0))
      have i0 : (k : Int) < (n : Int) := by omega
      clear hc hc'
      have hF' : ∀ j, j < (k + 1) * 2 → (if j = k * 2 + 1 then Value.int .i64 (zs.getD k 0) else if j = k * 2 then .string (ss.getD k ByteArray.empty) else F j) = colv (fun i => ss.getD i ByteArray.empty) (fun i => zs.getD i 0) j := by
        intro j hj
        unfold colv
        by_cases h1 : j = k * 2 + 1
        · rw [if_pos h1, if_neg (by omega), show j / 2 = k by omega]
        · rw [if_neg h1]
          by_cases h2 : j = k * 2
          · rw [if_pos h2, if_pos (by omega), show j / 2 = k by omega]
          · rw [if_neg h2]; exact hF.out j (by omega)
      have HF' := hF'
      have HFF : Hid (∀ j, j < (k + 1) * 2 → (if j = k * 2 + 1 then Value.int .i64 (zs.getD k 0) else if j = k * 2 then .string (ss.getD k ByteArray.empty) else F j) = colv (fun i => ss.getD i ByteArray.empty) (fun i => zs.getD i 0) j) := hF'
      clear hF' HF'
      go_wp2
      go_region
      all_goals
        go_wp2
        go_roundw
        case rel => exact ⟨k + 1, _, by omega, by go_num, hs, HFF, ((hb.setCell (Nat.le_refl _) _).setCell (Nat.le_refl _) _).drew⟩
        case measure => simp [intOf]; omega
    · obtain rfl : k = n := by omega
      have hC : Own wr w.heap.size 32 2 (some ⟨w.heap.size, 0, none⟩) k k (colv (fun i => ss.getD i ByteArray.empty) (fun i => zs.getD i 0)) := ho.congr (fun i hi => hF.out i (by omega))
      clear ho hF
      go_wp2_with fail
      refine (place_any wr.heap.size k k w.heap.size _ _ _ (fun i => ss.getD i ByteArray.empty) (fun i => zs.getD i 0) col _ (by simp) ((hC.alloc _).alloc _) hn).mono ?_
      rintro e w2 ⟨rfl, hb2⟩
      have hb3 : Below w.heap.size w w2 := ((hb.alloc hb.size _).alloc (by simp; have := hb.size; omega) _).trans (hb2.mono (by simp; have := hb.size; omega))
      clear hb2 hC hB
      go_wp2
      go_ret2
      exact ⟨rfl, hb3⟩
end Go.Proofs.Qxb6601618a
