import Derived.Test.Qxb6600074aCovers
namespace Go.Proofs.Qxb6600074a
open Go.RowKit
set_option linter.unusedVariables false

/-- It answers a bool, writes nothing (it may draw), and where it says yes p holds. -/
def RetD (w : World) (p : Prop) (e : Ending) (w' : World) : Prop := ∃ r q, e = .returned (.bool r) ∧ w.drewN q = w' ∧ (r = true → p)

set_option maxRecDepth 100000 in
set_option maxHeartbeats 400000 in
theorem same_any (a b : Option Addr) (n c d : Nat) (F : Nat → Int) (w : World) (ha : Rd w a n (fun i => .int .i32 (F i))) (hb : Rd w b n (fun i => .int .i32 (F i))) (hn : n ≤ 65536) :
    Calls Try.prog 16 #[.slice a n c, .slice b n d] w fun e w' => e = .returned (.bool true) ∧ ∃ q, w.drewN q = w' := by
  go_enter Try.func16, Try.ntmps16
  go_wp2
  go_loopw [5] (fun i wr => ∃ k q : Nat, k ≤ n ∧ i = .int .i64 k ∧ w.drewN q = wr) (fun i _ => n - (intOf i).toNat)
  case atStart => exact ⟨0, 0, Nat.zero_le _, rfl, rfl⟩
  case round =>
    obtain ⟨k, q, hk, rfl, rfl⟩ := hrel
    by_cases hlt : k < n
    · rcases ha with h | ⟨g, o, rfl, hca⟩
      · omega
      rcases hb with h | ⟨g', o', rfl, hcb⟩
      · omega
      have c1 : w.cell? ⟨g, o + k, none⟩ = some (.int .i32 (F k)) := hca k hlt
      have c2 : w.cell? ⟨g', o' + k, none⟩ = some (.int .i32 (F k)) := hcb k hlt
      have hi : (k : Int) < (n : Int) := by omega
      clear hca hcb
      generalize F k = x at c1 c2
      go_wp2
      go_quiet (fail)
      go_wp2
      go_roundw
      case rel => exact ⟨k + 1, _, by omega, by go_num, rfl⟩
      case measure => simp [intOf]; omega
    · go_wp2
      go_ret
      exact ⟨rfl, _, rfl⟩

set_option maxHeartbeats 400000 in
theorem bytes27 (a0 a1 a2 a3 : Option Addr) (n0 c0 n1 c1 n2 c2 n3 c3 : Nat) (w : World) :
    Calls Try.prog 27 #[.slice a0 n0 c0, .slice a1 n1 c1, .slice a2 n2 c2, .slice a3 n3 c3] w fun e w' => ∃ r, e = .returned (.bool r) ∧ w = w' := by
  go_enter Try.func27, Try.ntmps27
  go_wp2
  all_goals (go_ret; exact ⟨_, rfl, rfl⟩)

/-- What a patch needs: the spans of the source, the spans of the target, and that between them the texts are the same. -/
structure Joins (S D : Nat → Int) (N M len : Nat) (p lo hi q fr tt : Nat → Nat) : Prop where
  pz : p 0 = 0
  qz : q 0 = 0
  pn : ∀ k, p (k + 1) = hi k
  qn : ∀ k, q (k + 1) = tt k
  a : ∀ k, k < len → p k ≤ lo k
  b : ∀ k, k < len → lo k ≤ hi k
  c : ∀ k, k < len → hi k ≤ N
  d : ∀ k, k < len → q k ≤ fr k
  e : ∀ k, k < len → fr k ≤ tt k
  f : ∀ k, k < len → tt k ≤ M
  gap : ∀ k, k < len → lo k - p k = fr k - q k
  same : ∀ k, k < len → ∀ i, p k + i < lo k → S (p k + i) = D (q k + i)
  pl : p len ≤ N
  ql : q len ≤ M
  gapl : N - p len = M - q len
  samel : ∀ i, p len + i < N → S (p len + i) = D (q len + i)

def RebPost (w : World) (M : Nat) (D : Nat → Int) (e : Ending) (w' : World) : Prop :=
  e = .returned (.tuple #[.slice (some ⟨w.heap.size, 0, none⟩) M M, .bool true]) ∧ Own w' w.heap.size 21 (some ⟨w.heap.size, 0, none⟩) M M (fun i => .int .i32 (D i)) ∧ Below w.heap.size w w'

theorem snoc_row {w : World} {base g n c : Nat} {D : Nat → Int} {x : Int} (hx : x = D n) (h : w.ownsRow base 21 1 (.slice (some ⟨g, 0, none⟩) (n + 1) c) (n + 1) ((List.range n).map (fun i => Value.int .i32 (D i)) ++ [.int .i32 x])) : Own w base 21 (some ⟨g, 0, none⟩) (n + 1) c (fun i => .int .i32 (D i)) := by
  subst hx
  refine (own_snoc h).congr (fun i hi => ?_)
  by_cases h1 : i < n
  · rw [if_pos h1]
  · obtain rfl : i = n := by omega
    rw [if_neg h1]

set_option maxRecDepth 100000 in
set_option maxHeartbeats 2000000 in
theorem rebuild_f (a b la : Option Addr) (N M c d lc : Nat) (S D : Nat → Int) (l : List Ch) (p q : Nat → Nat) (w : World) (ha : Rd w a N (fun i => .int .i32 (S i))) (hb : Rd w b M (fun i => .int .i32 (D i))) (hl : RdL w la l) (hN : N ≤ 65536) (hM : M ≤ 65536) (hlen : l.length ≤ 1048576)
    (hJ : Joins S D N M l.length p (fun k => (l.getD k ch0).s) (fun k => (l.getD k ch0).e) q (fun k => (l.getD k ch0).f) (fun k => (l.getD k ch0).t)) :
    Calls Try.prog 28 #[.slice a N c, .slice b M d, .slice la l.length lc, .bool true] w fun e w' => RebPost w M D e w' := by
  obtain ⟨i21, hi21, hz0, hz1, hz2⟩ := info_parts Try.info21
  go_enter Try.func28, Try.ntmps28
  go_wp2_with (at_make; refine wpList_make_own _ rfl _ _ 22 rfl w.heap.size 21 i21 (.int .i32 0) 1 Try.underlying22 hi21 hz0 hz1 _ _ _ M rfl rfl rfl (by rw [hz2]; omega) (by unfold maxLen; omega) (Nat.le_refl _) ?_)
  intro w1 hown0 hgrow
  have ho0 : Own w1 w.heap.size 21 (some ⟨w.heap.size, 0, none⟩) 0 M (fun i => .int .i32 (D i)) := hown0
  have hb1 : Below w.heap.size w w1 := (Below.refl _ _).grown hgrow (Nat.le_refl _) (by intro k hk; cases hk)
  clear hown0 hgrow
  go_wp2
  go_loopw [10, 11, 12, 13] (fun v10 v11 v12 v13 wr => ∃ k : Nat, k ≤ l.length ∧ v13 = .int .i64 k ∧ v11 = .int .i64 (p k : Int) ∧ v12 = .int .i64 (q k : Int) ∧ v10 = .slice (some ⟨w.heap.size, 0, none⟩) (q k) M ∧ Own wr w.heap.size 21 (some ⟨w.heap.size, 0, none⟩) (q k) M (fun i => .int .i32 (D i)) ∧ Below w.heap.size w wr) (fun _ _ _ v _ => l.length - (intOf v).toNat)
  case atStart => exact ⟨0, Nat.zero_le _, rfl, by rw [hJ.pz]; rfl, by rw [hJ.qz]; rfl, by rw [hJ.qz], by rw [hJ.qz]; exact ho0, hb1⟩
  case round =>
    obtain ⟨k, hk, rfl, rfl, rfl, rfl, ho, hbw⟩ := hrel
    clear ho0 hb1
    by_cases hlt : k < l.length
    · have hl' := hl
      rcases hl with h0 | ⟨gl, hla, hcell⟩
      · omega
      obtain ⟨e0, e1, e2, e3⟩ := hcell k hlt
      have x0 := cell_later hbw e0
      have x1 := cell_later hbw e1
      have x2 := cell_later hbw e2
      have x3 := cell_later hbw e3
      have y0 : p k ≤ (l.getD k ch0).s := hJ.a k hlt
      have y1 : (l.getD k ch0).s ≤ (l.getD k ch0).e := hJ.b k hlt
      have y2 : (l.getD k ch0).e ≤ N := hJ.c k hlt
      have y3 : q k ≤ (l.getD k ch0).f := hJ.d k hlt
      have y4 : (l.getD k ch0).f ≤ (l.getD k ch0).t := hJ.e k hlt
      have y5 : (l.getD k ch0).t ≤ M := hJ.f k hlt
      have HG : Hid ((l.getD k ch0).s - p k = (l.getD k ch0).f - q k) := hJ.gap k hlt
      have HS : Hid (∀ i, p k + i < (l.getD k ch0).s → S (p k + i) = D (q k + i)) := hJ.same k hlt
      have HPN : Hid (p (k + 1) = (l.getD k ch0).e) := hJ.pn k
      have HQN : Hid (q (k + 1) = (l.getD k ch0).t) := hJ.qn k
      subst hla
      clear e0 e1 e2 e3 hcell
      generalize (l.getD k ch0).s = lo at *
      generalize (l.getD k ch0).e = hi at *
      generalize (l.getD k ch0).f = fr at *
      generalize (l.getD k ch0).t = tt at *
      generalize hP : p k = P at *
      generalize hQ : q k = Q at *
      clear hP hQ
      have t0 : decide (lo < P) = false := decide_eq_false (by omega)
      have t1 : decide (hi < lo) = false := decide_eq_false (by omega)
      have t2 : decide (N < hi) = false := decide_eq_false (by omega)
      have t3 : decide (fr < Q) = false := decide_eq_false (by omega)
      have t4 : decide (tt < fr) = false := decide_eq_false (by omega)
      have t5 : decide (M < tt) = false := decide_eq_false (by omega)
      go_wp2
      clear t0 t1 t2 t3 t4 t5
      obtain ⟨wo, rfl⟩ : ∃ wo : World, wo = wr := ⟨_, rfl⟩
      go_loopg [10, 11] (lo - P) (fun kk v10 v11 wr => ∃ i : Nat, P + i ≤ lo ∧ lo ≤ kk + (P + i) ∧ v11 = .int .i64 ((P + i : Nat) : Int) ∧ v10 = .slice (some ⟨w.heap.size, 0, none⟩) (Q + i) M ∧ Own wr w.heap.size 21 (some ⟨w.heap.size, 0, none⟩) (Q + i) M (fun i => .int .i32 (D i)) ∧ Below w.heap.size w wr)
      case atStart => exact ⟨0, y0, by omega, rfl, rfl, ho, hbw⟩
      case round =>
        clear ho hbw x0 x1 x2 x3
        obtain ⟨i, hi1, hkk, rfl, rfl, ho, hbw⟩ := hrel
        have hgp : Q + (lo - P) = fr := by have := HG.out; omega
        by_cases hx : P + i < lo
        · rcases ha.below hbw with h | ⟨ga, oa, haa, hca⟩
          · omega
          subst haa
          have c1 : wr.cell? ⟨ga, oa + (P + i), none⟩ = some (.int .i32 (S (P + i))) := hca (P + i) (by omega)
          have HX : Hid (S (P + i) = D (Q + i)) := HS.out i hx
          have hPN : ((P + i : Nat) : Int) < (N : Int) := by omega
          clear hca hgp
          generalize S (P + i) = xx at c1 HX
          go_wp2_with (at_builtin; refine wpList_append_fits _ rfl (.tmp 103) (.tmp 108) 22 rfl w.heap.size 21 i21 1 Try.underlying22 hi21 hz1 w.heap.size (Q + i) M _ rfl (ho.alloc _) ⟨wr.heap.size, 0, none⟩ 1 1 [.int .i32 xx] rfl rfl (cell_one_new _ _ _) (by intro u hu; simp at hu; subst hu; rfl) (by have := HG.out; omega) ?_)
          intro w2 hown hg2
          have ho2 := snoc_row HX.out hown
          have hb2 : Below w.heap.size w w2 := (hbw.alloc hbw.size _).grown hg2 (by simp; have := hbw.size; omega) (by intro k hk; cases hk; exact Nat.le_refl _)
          clear hown hg2 ho hbw
          go_wp2
          go_roundg (gk - 1)
          case measure => omega
          case rel => exact ⟨i + 1, by omega, by omega, by go_num, rfl, ho2, hb2⟩
        · have hQi : Q + i = fr := by omega
          have HQi : Hid (Q + i = fr) := hQi
          rw [hQi] at ho
          clear hQi hgp
          go_wp2
          rw [HQi.out]
          obtain ⟨wo2, rfl⟩ : ∃ wo : World, wo = wr := ⟨_, rfl⟩
          go_loopg [10, 18] (tt - fr) (fun kk v10 v18 wr => ∃ j : Nat, fr ≤ j ∧ j ≤ tt ∧ tt ≤ kk + j ∧ v18 = .int .i64 (j : Int) ∧ v10 = .slice (some ⟨w.heap.size, 0, none⟩) j M ∧ Own wr w.heap.size 21 (some ⟨w.heap.size, 0, none⟩) j M (fun i => .int .i32 (D i)) ∧ Below w.heap.size w wr)
          case atStart => exact ⟨fr, Nat.le_refl _, y4, by omega, rfl, rfl, ho, hbw⟩
          case round =>
            clear ho hbw
            obtain ⟨j, hj1, hj2, hkk, rfl, rfl, ho, hbw⟩ := hrel
            by_cases hj : j < tt
            · rcases hb.below hbw with h | ⟨gb, ob, hbb, hcb⟩
              · omega
              subst hbb
              have c1 : wr.cell? ⟨gb, ob + j, none⟩ = some (.int .i32 (D j)) := hcb j (by omega)
              have hjM : (j : Int) < (M : Int) := by omega
              clear hcb
              obtain ⟨xx, HX⟩ : ∃ xx, Hid (xx = D j) := ⟨_, rfl⟩
              rw [← HX.out] at c1
              go_wp2_with (at_builtin; refine wpList_append_fits _ rfl (.tmp 118) (.tmp 123) 22 rfl w.heap.size 21 i21 1 Try.underlying22 hi21 hz1 w.heap.size j M _ rfl (ho.alloc _) ⟨wr.heap.size, 0, none⟩ 1 1 [.int .i32 xx] rfl rfl (cell_one_new _ _ _) (by intro u hu; simp at hu; subst hu; rfl) (by omega) ?_)
              intro w2 hown hg2
              have ho2 := snoc_row HX.out hown
              have hb2 : Below w.heap.size w w2 := (hbw.alloc hbw.size _).grown hg2 (by simp; have := hbw.size; omega) (by intro k hk; cases hk; exact Nat.le_refl _)
              clear hown hg2 ho hbw
              go_wp2
              go_roundg (gk - 1)
              case measure => omega
              case rel => exact ⟨j + 1, by omega, by omega, by omega, by go_num, rfl, ho2, hb2⟩
            · obtain rfl : j = tt := by omega
              go_wp2
              go_roundw
              case rel => exact ⟨k + 1, by omega, by go_num, by rw [HPN.out], by rw [HQN.out], by rw [HQN.out], by rw [HQN.out]; exact ho, hbw⟩
              case measure => simp [intOf]; omega
    · obtain rfl : k = l.length := by omega
      have y0 := hJ.pl
      have y1 := hJ.ql
      have HG : Hid (N - p l.length = M - q l.length) := hJ.gapl
      have HS : Hid (∀ i, p l.length + i < N → S (p l.length + i) = D (q l.length + i)) := hJ.samel
      clear hJ
      generalize p l.length = P at *
      generalize q l.length = Q at *
      go_wp2
      obtain ⟨wo, rfl⟩ : ∃ wo : World, wo = wr := ⟨_, rfl⟩
      go_loopg [10, 11] (N - P) (fun kk v10 v11 wr => ∃ i : Nat, P + i ≤ N ∧ N ≤ kk + (P + i) ∧ v11 = .int .i64 ((P + i : Nat) : Int) ∧ v10 = .slice (some ⟨w.heap.size, 0, none⟩) (Q + i) M ∧ Own wr w.heap.size 21 (some ⟨w.heap.size, 0, none⟩) (Q + i) M (fun i => .int .i32 (D i)) ∧ Below w.heap.size w wr)
      case atStart => exact ⟨0, y0, by omega, rfl, rfl, ho, hbw⟩
      case round =>
        clear ho hbw
        obtain ⟨i, hi1, hkk, rfl, rfl, ho, hbw⟩ := hrel
        by_cases hx : P + i < N
        · rcases ha.below hbw with h | ⟨ga, oa, haa, hca⟩
          · omega
          subst haa
          have c1 : wr.cell? ⟨ga, oa + (P + i), none⟩ = some (.int .i32 (S (P + i))) := hca (P + i) (by omega)
          have HX : Hid (S (P + i) = D (Q + i)) := HS.out i hx
          have hPN : ((P + i : Nat) : Int) < (N : Int) := by omega
          clear hca
          generalize S (P + i) = xx at c1 HX
          go_wp2_with (at_builtin; refine wpList_append_fits _ rfl (.tmp 131) (.tmp 136) 22 rfl w.heap.size 21 i21 1 Try.underlying22 hi21 hz1 w.heap.size (Q + i) M _ rfl (ho.alloc _) ⟨wr.heap.size, 0, none⟩ 1 1 [.int .i32 xx] rfl rfl (cell_one_new _ _ _) (by intro u hu; simp at hu; subst hu; rfl) (by have := HG.out; omega) ?_)
          intro w2 hown hg2
          have ho2 := snoc_row HX.out hown
          have hb2 : Below w.heap.size w w2 := (hbw.alloc hbw.size _).grown hg2 (by simp; have := hbw.size; omega) (by intro k hk; cases hk; exact Nat.le_refl _)
          clear hown hg2 ho hbw
          go_wp2
          go_roundg (gk - 1)
          case measure => omega
          case rel => exact ⟨i + 1, by omega, by omega, by go_num, rfl, ho2, hb2⟩
        · have hQi : Q + i = M := by have := HG.out; omega
          have HQi : Hid (Q + i = M) := hQi
          rw [hQi] at ho
          clear hQi
          go_wp2
          rw [HQi.out]
          go_ret2
          exact ⟨rfl, ho, hbw⟩

set_option maxRecDepth 100000 in
set_option maxHeartbeats 2000000 in
theorem rebuild_b (a b la : Option Addr) (N M c d lc : Nat) (S D : Nat → Int) (l : List Ch) (p q : Nat → Nat) (w : World) (ha : Rd w a N (fun i => .int .i32 (S i))) (hb : Rd w b M (fun i => .int .i32 (D i))) (hl : RdL w la l) (hN : N ≤ 65536) (hM : M ≤ 65536) (hlen : l.length ≤ 1048576)
    (hJ : Joins S D N M l.length p (fun k => (l.getD k ch0).f) (fun k => (l.getD k ch0).t) q (fun k => (l.getD k ch0).s) (fun k => (l.getD k ch0).e)) :
    Calls Try.prog 28 #[.slice a N c, .slice b M d, .slice la l.length lc, .bool false] w fun e w' => RebPost w M D e w' := by
  obtain ⟨i21, hi21, hz0, hz1, hz2⟩ := info_parts Try.info21
  go_enter Try.func28, Try.ntmps28
  go_wp2_with (at_make; refine wpList_make_own _ rfl _ _ 22 rfl w.heap.size 21 i21 (.int .i32 0) 1 Try.underlying22 hi21 hz0 hz1 _ _ _ M rfl rfl rfl (by rw [hz2]; omega) (by unfold maxLen; omega) (Nat.le_refl _) ?_)
  intro w1 hown0 hgrow
  have ho0 : Own w1 w.heap.size 21 (some ⟨w.heap.size, 0, none⟩) 0 M (fun i => .int .i32 (D i)) := hown0
  have hb1 : Below w.heap.size w w1 := (Below.refl _ _).grown hgrow (Nat.le_refl _) (by intro k hk; cases hk)
  clear hown0 hgrow
  go_wp2
  go_loopw [10, 11, 12, 13] (fun v10 v11 v12 v13 wr => ∃ k : Nat, k ≤ l.length ∧ v13 = .int .i64 k ∧ v11 = .int .i64 (p k : Int) ∧ v12 = .int .i64 (q k : Int) ∧ v10 = .slice (some ⟨w.heap.size, 0, none⟩) (q k) M ∧ Own wr w.heap.size 21 (some ⟨w.heap.size, 0, none⟩) (q k) M (fun i => .int .i32 (D i)) ∧ Below w.heap.size w wr) (fun _ _ _ v _ => l.length - (intOf v).toNat)
  case atStart => exact ⟨0, Nat.zero_le _, rfl, by rw [hJ.pz]; rfl, by rw [hJ.qz]; rfl, by rw [hJ.qz], by rw [hJ.qz]; exact ho0, hb1⟩
  case round =>
    obtain ⟨k, hk, rfl, rfl, rfl, rfl, ho, hbw⟩ := hrel
    clear ho0 hb1
    by_cases hlt : k < l.length
    · have hl' := hl
      rcases hl with h0 | ⟨gl, hla, hcell⟩
      · omega
      obtain ⟨e0, e1, e2, e3⟩ := hcell k hlt
      have x0 := cell_later hbw e0
      have x1 := cell_later hbw e1
      have x2 := cell_later hbw e2
      have x3 := cell_later hbw e3
      have y0 : p k ≤ (l.getD k ch0).f := hJ.a k hlt
      have y1 : (l.getD k ch0).f ≤ (l.getD k ch0).t := hJ.b k hlt
      have y2 : (l.getD k ch0).t ≤ N := hJ.c k hlt
      have y3 : q k ≤ (l.getD k ch0).s := hJ.d k hlt
      have y4 : (l.getD k ch0).s ≤ (l.getD k ch0).e := hJ.e k hlt
      have y5 : (l.getD k ch0).e ≤ M := hJ.f k hlt
      have HG : Hid ((l.getD k ch0).f - p k = (l.getD k ch0).s - q k) := hJ.gap k hlt
      have HS : Hid (∀ i, p k + i < (l.getD k ch0).f → S (p k + i) = D (q k + i)) := hJ.same k hlt
      have HPN : Hid (p (k + 1) = (l.getD k ch0).t) := hJ.pn k
      have HQN : Hid (q (k + 1) = (l.getD k ch0).e) := hJ.qn k
      subst hla
      clear e0 e1 e2 e3 hcell
      generalize (l.getD k ch0).f = lo at *
      generalize (l.getD k ch0).t = hi at *
      generalize (l.getD k ch0).s = fr at *
      generalize (l.getD k ch0).e = tt at *
      generalize hP : p k = P at *
      generalize hQ : q k = Q at *
      clear hP hQ
      have t0 : decide (lo < P) = false := decide_eq_false (by omega)
      have t1 : decide (hi < lo) = false := decide_eq_false (by omega)
      have t2 : decide (N < hi) = false := decide_eq_false (by omega)
      have t3 : decide (fr < Q) = false := decide_eq_false (by omega)
      have t4 : decide (tt < fr) = false := decide_eq_false (by omega)
      have t5 : decide (M < tt) = false := decide_eq_false (by omega)
      go_wp2
      clear t0 t1 t2 t3 t4 t5
      obtain ⟨wo, rfl⟩ : ∃ wo : World, wo = wr := ⟨_, rfl⟩
      go_loopg [10, 11] (lo - P) (fun kk v10 v11 wr => ∃ i : Nat, P + i ≤ lo ∧ lo ≤ kk + (P + i) ∧ v11 = .int .i64 ((P + i : Nat) : Int) ∧ v10 = .slice (some ⟨w.heap.size, 0, none⟩) (Q + i) M ∧ Own wr w.heap.size 21 (some ⟨w.heap.size, 0, none⟩) (Q + i) M (fun i => .int .i32 (D i)) ∧ Below w.heap.size w wr)
      case atStart => exact ⟨0, y0, by omega, rfl, rfl, ho, hbw⟩
      case round =>
        clear ho hbw x0 x1 x2 x3
        obtain ⟨i, hi1, hkk, rfl, rfl, ho, hbw⟩ := hrel
        have hgp : Q + (lo - P) = fr := by have := HG.out; omega
        by_cases hx : P + i < lo
        · rcases ha.below hbw with h | ⟨ga, oa, haa, hca⟩
          · omega
          subst haa
          have c1 : wr.cell? ⟨ga, oa + (P + i), none⟩ = some (.int .i32 (S (P + i))) := hca (P + i) (by omega)
          have HX : Hid (S (P + i) = D (Q + i)) := HS.out i hx
          have hPN : ((P + i : Nat) : Int) < (N : Int) := by omega
          clear hca hgp
          generalize S (P + i) = xx at c1 HX
          go_wp2_with (at_builtin; refine wpList_append_fits _ rfl (.tmp 103) (.tmp 108) 22 rfl w.heap.size 21 i21 1 Try.underlying22 hi21 hz1 w.heap.size (Q + i) M _ rfl (ho.alloc _) ⟨wr.heap.size, 0, none⟩ 1 1 [.int .i32 xx] rfl rfl (cell_one_new _ _ _) (by intro u hu; simp at hu; subst hu; rfl) (by have := HG.out; omega) ?_)
          intro w2 hown hg2
          have ho2 := snoc_row HX.out hown
          have hb2 : Below w.heap.size w w2 := (hbw.alloc hbw.size _).grown hg2 (by simp; have := hbw.size; omega) (by intro k hk; cases hk; exact Nat.le_refl _)
          clear hown hg2 ho hbw
          go_wp2
          go_roundg (gk - 1)
          case measure => omega
          case rel => exact ⟨i + 1, by omega, by omega, by go_num, rfl, ho2, hb2⟩
        · have hQi : Q + i = fr := by omega
          have HQi : Hid (Q + i = fr) := hQi
          rw [hQi] at ho
          clear hQi hgp
          go_wp2
          rw [HQi.out]
          obtain ⟨wo2, rfl⟩ : ∃ wo : World, wo = wr := ⟨_, rfl⟩
          go_loopg [10, 18] (tt - fr) (fun kk v10 v18 wr => ∃ j : Nat, fr ≤ j ∧ j ≤ tt ∧ tt ≤ kk + j ∧ v18 = .int .i64 (j : Int) ∧ v10 = .slice (some ⟨w.heap.size, 0, none⟩) j M ∧ Own wr w.heap.size 21 (some ⟨w.heap.size, 0, none⟩) j M (fun i => .int .i32 (D i)) ∧ Below w.heap.size w wr)
          case atStart => exact ⟨fr, Nat.le_refl _, y4, by omega, rfl, rfl, ho, hbw⟩
          case round =>
            clear ho hbw
            obtain ⟨j, hj1, hj2, hkk, rfl, rfl, ho, hbw⟩ := hrel
            by_cases hj : j < tt
            · rcases hb.below hbw with h | ⟨gb, ob, hbb, hcb⟩
              · omega
              subst hbb
              have c1 : wr.cell? ⟨gb, ob + j, none⟩ = some (.int .i32 (D j)) := hcb j (by omega)
              have hjM : (j : Int) < (M : Int) := by omega
              clear hcb
              obtain ⟨xx, HX⟩ : ∃ xx, Hid (xx = D j) := ⟨_, rfl⟩
              rw [← HX.out] at c1
              go_wp2_with (at_builtin; refine wpList_append_fits _ rfl (.tmp 118) (.tmp 123) 22 rfl w.heap.size 21 i21 1 Try.underlying22 hi21 hz1 w.heap.size j M _ rfl (ho.alloc _) ⟨wr.heap.size, 0, none⟩ 1 1 [.int .i32 xx] rfl rfl (cell_one_new _ _ _) (by intro u hu; simp at hu; subst hu; rfl) (by omega) ?_)
              intro w2 hown hg2
              have ho2 := snoc_row HX.out hown
              have hb2 : Below w.heap.size w w2 := (hbw.alloc hbw.size _).grown hg2 (by simp; have := hbw.size; omega) (by intro k hk; cases hk; exact Nat.le_refl _)
              clear hown hg2 ho hbw
              go_wp2
              go_roundg (gk - 1)
              case measure => omega
              case rel => exact ⟨j + 1, by omega, by omega, by omega, by go_num, rfl, ho2, hb2⟩
            · obtain rfl : j = tt := by omega
              go_wp2
              go_roundw
              case rel => exact ⟨k + 1, by omega, by go_num, by rw [HPN.out], by rw [HQN.out], by rw [HQN.out], by rw [HQN.out]; exact ho, hbw⟩
              case measure => simp [intOf]; omega
    · obtain rfl : k = l.length := by omega
      have y0 := hJ.pl
      have y1 := hJ.ql
      have HG : Hid (N - p l.length = M - q l.length) := hJ.gapl
      have HS : Hid (∀ i, p l.length + i < N → S (p l.length + i) = D (q l.length + i)) := hJ.samel
      clear hJ
      generalize p l.length = P at *
      generalize q l.length = Q at *
      go_wp2
      obtain ⟨wo, rfl⟩ : ∃ wo : World, wo = wr := ⟨_, rfl⟩
      go_loopg [10, 11] (N - P) (fun kk v10 v11 wr => ∃ i : Nat, P + i ≤ N ∧ N ≤ kk + (P + i) ∧ v11 = .int .i64 ((P + i : Nat) : Int) ∧ v10 = .slice (some ⟨w.heap.size, 0, none⟩) (Q + i) M ∧ Own wr w.heap.size 21 (some ⟨w.heap.size, 0, none⟩) (Q + i) M (fun i => .int .i32 (D i)) ∧ Below w.heap.size w wr)
      case atStart => exact ⟨0, y0, by omega, rfl, rfl, ho, hbw⟩
      case round =>
        clear ho hbw
        obtain ⟨i, hi1, hkk, rfl, rfl, ho, hbw⟩ := hrel
        by_cases hx : P + i < N
        · rcases ha.below hbw with h | ⟨ga, oa, haa, hca⟩
          · omega
          subst haa
          have c1 : wr.cell? ⟨ga, oa + (P + i), none⟩ = some (.int .i32 (S (P + i))) := hca (P + i) (by omega)
          have HX : Hid (S (P + i) = D (Q + i)) := HS.out i hx
          have hPN : ((P + i : Nat) : Int) < (N : Int) := by omega
          clear hca
          generalize S (P + i) = xx at c1 HX
          go_wp2_with (at_builtin; refine wpList_append_fits _ rfl (.tmp 131) (.tmp 136) 22 rfl w.heap.size 21 i21 1 Try.underlying22 hi21 hz1 w.heap.size (Q + i) M _ rfl (ho.alloc _) ⟨wr.heap.size, 0, none⟩ 1 1 [.int .i32 xx] rfl rfl (cell_one_new _ _ _) (by intro u hu; simp at hu; subst hu; rfl) (by have := HG.out; omega) ?_)
          intro w2 hown hg2
          have ho2 := snoc_row HX.out hown
          have hb2 : Below w.heap.size w w2 := (hbw.alloc hbw.size _).grown hg2 (by simp; have := hbw.size; omega) (by intro k hk; cases hk; exact Nat.le_refl _)
          clear hown hg2 ho hbw
          go_wp2
          go_roundg (gk - 1)
          case measure => omega
          case rel => exact ⟨i + 1, by omega, by omega, by go_num, rfl, ho2, hb2⟩
        · have hQi : Q + i = M := by have := HG.out; omega
          have HQi : Hid (Q + i = M) := hQi
          rw [hQi] at ho
          clear hQi
          go_wp2
          rw [HQi.out]
          go_ret2
          exact ⟨rfl, ho, hbw⟩

end Go.Proofs.Qxb6600074a
