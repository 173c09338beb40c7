import Derived.Test.Qxb6600074aSlide
import Derived.Test.Qxb6600074aPlacesPlain
namespace Go.Proofs.Qxb6600074a
open Go.RowKit
set_option linter.unusedVariables false

theorem Try.info43 : (Try.prog.info? 43).map (fun i => (i.zero, i.size, i.bytes)) = some (some (.agg #[.int .i64 0, .int .i64 0, .int .i64 0, .int .i64 0]), 4, 32) := by kernel_rfl

/-- Changes as cells. -/
def flat (l : List Ch) : List Value := l.flatMap (fun c => [.int .i64 (c.s : Int), .int .i64 (c.e : Int), .int .i64 (c.f : Int), .int .i64 (c.t : Int)])
theorem flat_len (l : List Ch) : (flat l).length = l.length * 4 := by
  induction l with
  | nil => rfl
  | cons c l ih => simp [flat] at *; omega
theorem flat_snoc (l : List Ch) (c : Ch) : flat (l ++ [c]) = flat l ++ [.int .i64 (c.s : Int), .int .i64 (c.e : Int), .int .i64 (c.f : Int), .int .i64 (c.t : Int)] := by simp [flat]
theorem flat_at (l : List Ch) (k : Nat) (h : k < l.length) :
    (flat l)[k * 4]? = some (.int .i64 ((l.getD k ch0).s : Int)) ∧ (flat l)[k * 4 + 1]? = some (.int .i64 ((l.getD k ch0).e : Int)) ∧
    (flat l)[k * 4 + 2]? = some (.int .i64 ((l.getD k ch0).f : Int)) ∧ (flat l)[k * 4 + 3]? = some (.int .i64 ((l.getD k ch0).t : Int)) := by
  induction l generalizing k with
  | nil => simp at h
  | cons c l ih =>
    cases k with
    | zero => simp [flat]
    | succ k =>
      have := ih k (by simpa using h)
      have e : flat (c :: l) = [.int .i64 (c.s : Int), .int .i64 (c.e : Int), .int .i64 (c.f : Int), .int .i64 (c.t : Int)] ++ flat l := by simp [flat]
      rw [e]
      refine ⟨?_, ?_, ?_, ?_⟩
      · rw [List.getElem?_append_right (by simp; omega)]
        simpa [show (k + 1) * 4 - 4 = k * 4 by omega] using this.1
      · rw [List.getElem?_append_right (by simp; omega)]
        simpa [show (k + 1) * 4 + 1 - 4 = k * 4 + 1 by omega] using this.2.1
      · rw [List.getElem?_append_right (by simp; omega)]
        simpa [show (k + 1) * 4 + 2 - 4 = k * 4 + 2 by omega] using this.2.2.1
      · rw [List.getElem?_append_right (by simp; omega)]
        simpa [show (k + 1) * 4 + 3 - 4 = k * 4 + 3 by omega] using this.2.2.2

/-- A list of changes of the call's own. -/
def OwnL (w : World) (base : Nat) (v : Value) (l : List Ch) : Prop := w.ownsRow base 43 4 v l.length (flat l)

theorem OwnL.lower {w : World} {base base' : Nat} {v : Value} {l : List Ch} (h : OwnL w base v l) (hb : base' ≤ base) : OwnL w base' v l := by
  obtain ⟨h1, h2⟩ := h
  refine ⟨h1, ?_⟩
  rcases h2 with h2 | ⟨g, cap, cur, hv, hg, r⟩
  · exact .inl h2
  · exact .inr ⟨g, cap, cur, hv, Nat.le_trans hb hg, r⟩
theorem OwnL.shape {w : World} {base : Nat} {v : Value} {l : List Ch} (h : OwnL w base v l) : ∃ a c, v = .slice a l.length c := by
  rcases h.2 with ⟨h1, h2⟩ | ⟨g, cap, cur, h1, _⟩
  · exact ⟨none, 0, by rw [h1, h2]⟩
  · exact ⟨_, cap, h1⟩

theorem on_snoc {C : Nat → Bool} {a z : Nat} (h : On C a z) (hz : C z = true) : On C a (z + 1) := by
  intro i h1 h2
  by_cases hi : i = z
  · subst hi; exact hz
  · exact h i h1 (by omega)

def PlacesPost (w : World) (baseA baseB : Nat) (La Lb : Nat → Int) (A B : Nat → Bool) (a2 a3 : Option Addr) (n m c2 c3 : Nat) (e : Ending) (w' : World) : Prop :=
  ∃ (v : Value) (l : List Ch) (A' B' : Nat → Bool), e = .returned v ∧ OwnL w' w.heap.size v l ∧ Good A' B' l n m ∧ unm La A' n = unm La A n ∧ unm Lb B' m = unm Lb B m ∧
    Own w' baseA 4 a2 n c2 (cv A') ∧ Own w' baseB 4 a3 m c3 (cv B') ∧ (∀ k, k < w.heap.size → rowOf a2 ≠ some k → rowOf a3 ≠ some k → w'.heap[k]? = w.heap[k]?) ∧
    w'.os = w.os ∧ w'.tape = w.tape ∧ w'.output = w.output ∧ w.heap.size ≤ w'.heap.size

set_option maxRecDepth 100000 in
set_option maxHeartbeats 2000000 in
theorem places_any (baseA baseB : Nat) (a0 a1 a2 a3 : Option Addr) (n m c0 c1 c2 c3 : Nat) (la lb : List Int) (A B : Nat → Bool) (w : World) (h0 : Rd w a0 n (iv la)) (h1 : Rd w a1 m (iv lb)) (h2 : Own w baseA 4 a2 n c2 (cv A)) (h3 : Own w baseB 4 a3 m c3 (cv B))
    (b0 : n ≤ 65536) (b1 : m ≤ 65536) (hcnt : cnt A n = cnt B m) (n02 : ∀ x, a0 = some x → rowOf a2 ≠ some x.block) (n12 : ∀ x, a1 = some x → rowOf a2 ≠ some x.block) (n13 : ∀ x, a1 = some x → rowOf a3 ≠ some x.block) (n32 : ∀ x, a3 = some x → rowOf a2 ≠ some x.block) (n23 : ∀ x, a2 = some x → rowOf a3 ≠ some x.block) :
    Calls Try.prog 31 #[.slice a0 n c0, .slice a1 m c1, .slice a2 n c2, .slice a3 m c3] w fun e w' => PlacesPost w baseA baseB (lv la) (lv lb) A B a2 a3 n m c2 c3 e w' := by
  have HC : Hid (cnt A n = cnt B m) := hcnt
  clear hcnt
  go_enter Try.func31, Try.ntmps31
  go_wp2_with fail
  refine (slide_any baseA a0 a2 a3 n c0 c2 m c3 la A B _ h0 h2 h3.rd b0 b1 (by rw [HC.out]; exact Nat.le_refl _) n02).mono ?_
  rintro e w1 ⟨rfl, A', hA', hu, hg1⟩
  have hcA : cnt A' n = cnt A n := by rw [← cnt_unm (lv la), ← cnt_unm (lv la), hu]
  have HCA : Hid (cnt A' n = cnt B m) := by unfold Hid; rw [hcA]; exact HC.out
  have HU : Hid (unm (lv la) A' n = unm (lv la) A n) := hu
  have h3' := h3.grown hg1 n32
  have h1' := h1.grown hg1 n12
  clear hcA hu
  go_wp2_with fail
  refine (slide_any baseB a1 a3 a2 m c1 c3 n c2 lb B A' _ h1' h3' hA'.rd b1 b0 (by rw [HCA.out]; exact Nat.le_refl _) n13).mono ?_
  rintro e w2 ⟨rfl, B', hB', hu, hg2⟩
  have hcB : cnt B' m = cnt B m := by rw [← cnt_unm (lv lb), ← cnt_unm (lv lb), hu]
  have HCB : Hid (cnt A' n = cnt B' m) := by unfold Hid; rw [hcB]; exact HCA.out
  have HUB : Hid (unm (lv lb) B' m = unm (lv lb) B m) := hu
  have hA2 := hA'.grown hg2 n23
  have hK : ∀ k, k < w.heap.size → rowOf a2 ≠ some k → rowOf a3 ≠ some k → w2.heap[k]? = w.heap[k]? := fun k hk e1 e2 => (hg2.block k (Nat.lt_of_lt_of_le hk hg1.size) (fun h => e2 h.symm)).trans (hg1.block k hk (fun h => e1 h.symm))
  have hos : w2.os = w.os ∧ w2.tape = w.tape ∧ w2.output = w.output ∧ w.heap.size ≤ w2.heap.size := ⟨hg2.os.trans hg1.os, hg2.tape.trans hg1.tape, hg2.output.trans hg1.output, Nat.le_trans hg1.size hg2.size⟩
  clear hcB hu hg1 hg2 h3' h1' hA' HCA HC
  go_wp2
  go_loopg [9, 10, 11] (n + m) (fun k v9 v10 v11 wr => ∃ (x y : Nat) (l : List Ch), v10 = .int .i64 x ∧ v11 = .int .i64 y ∧ x ≤ n ∧ y ≤ m ∧ n + m ≤ k + (x + y) ∧ OwnL wr w2.heap.size v9 l ∧ Good A' B' l x y ∧ Below w2.heap.size w2 wr ∧ Hid (0 < l.length → pe l l.length < x ∨ ((x < n → A' x = false) ∧ (y < m → B' y = false))))
  case atStart => exact ⟨0, 0, [], rfl, rfl, Nat.zero_le _, Nat.zero_le _, by omega, World.ownsRow_nil _ _ _ _, Good.start, Below.refl _ _, fun h => by simp at h⟩
  case round =>
    obtain ⟨x, y, l, rfl, rfl, hxn, hym, hk, hL, hG, hb, hN⟩ := hrel
    have rA := hA2.below hb
    have rB := hB'.below hb
    have HXY : Hid (cnt A' x = cnt B' y) := hG.cnt_xy
    by_cases hor : x < n ∨ y < m
    · by_cases hbo : (x < n ∧ A' x = false) ∧ (y < m ∧ B' y = false)
      · obtain ⟨⟨hx, hAx⟩, hy, hBy⟩ := hbo
        obtain ⟨g2, rfl⟩ := h2.ad (by omega)
        obtain ⟨g3, rfl⟩ := h3.ad (by omega)
        have cA : wr.cell? ⟨g2, x, none⟩ = some (.bool false) := by rw [rA.cell x hx]; unfold cv; rw [hAx]
        have cB : wr.cell? ⟨g3, y, none⟩ = some (.bool false) := by rw [rB.cell y hy]; unfold cv; rw [hBy]
        have HA : Hid (A' x = false) := hAx
        have HB : Hid (B' y = false) := hBy
        clear hAx hBy hor
        go_wp2
        go_roundg (gk - 2)
        case measure => omega
        case rel => exact ⟨x + 1, y + 1, l, by go_num, by go_num, by omega, by omega, by omega, hL, hG.both HA.out HB.out, hb, fun _ => .inl (by have := hG.px; omega)⟩
      · have HN2 : Hid ((x < n → A' x = false) → (y < m → B' y = false) → False) := by
          intro p q
          have := both_left hxn hym HCB.out HXY.out p q
          rcases hor with h | h
          · exact hbo ⟨⟨h, p h⟩, this.1 h, q (this.1 h)⟩
          · exact hbo ⟨⟨this.2 h, p (this.2 h)⟩, h, q h⟩
        have HBO : Hid (¬ ((x < n ∧ A' x = false) ∧ (y < m ∧ B' y = false))) := hbo
        have HOR : Hid (x < n ∨ y < m) := hor
        clear hbo hor
        obtain ⟨wo, rfl⟩ : ∃ wo : World, wo = wr := ⟨_, rfl⟩
        go_upto_region 5 with fail
        go_cut [30] (fun v30 wc => v30 = .bool true ∧ wo = wc)
        case first =>
          by_cases hx : x < n
          · go_wp2_with fail
            go_meet
            exact ⟨rfl, rfl⟩
          · have hy : y < m := by rcases HOR.out with h | h <;> omega
            go_wp2_with fail
            go_meet
            exact ⟨rfl, rfl⟩
        case rest =>
          obtain ⟨rfl, rfl⟩ := hcut
          go_upto_region 6 with fail
          go_cut [54] (fun v54 wc => v54 = .bool false ∧ wo = wc)
          case first =>
            by_cases hx : x < n
            · obtain ⟨g2, rfl⟩ := h2.ad (by omega)
              cases hAx : A' x with
              | true =>
                have cA : wo.cell? ⟨g2, x, none⟩ = some (.bool true) := by rw [rA.cell x hx]; unfold cv; rw [hAx]
                clear hAx
                go_wp2_with fail
                go_meet
                exact ⟨rfl, rfl⟩
              | false =>
                have cA : wo.cell? ⟨g2, x, none⟩ = some (.bool false) := by rw [rA.cell x hx]; unfold cv; rw [hAx]
                have hy : y < m := by
                  by_cases hy : y < m
                  · exact hy
                  · exact (HN2.out (fun _ => hAx) (fun h => absurd h hy)).elim
                obtain ⟨g3, rfl⟩ := h3.ad (by omega)
                have hBy : B' y = true := by
                  cases hBy : B' y with
                  | true => rfl
                  | false => exact (HN2.out (fun _ => hAx) (fun _ => hBy)).elim
                have cB : wo.cell? ⟨g3, y, none⟩ = some (.bool true) := by rw [rB.cell y hy]; unfold cv; rw [hBy]
                clear hAx hBy
                go_wp2_with fail
                go_meet
                exact ⟨rfl, rfl⟩
            · go_wp2_with fail
              go_meet
              exact ⟨rfl, rfl⟩
          case rest =>
            obtain ⟨rfl, rfl⟩ := hcut
            have rA1 := rA.alloc (.cells #[.int .i64 (x : Int), .int .i64 0, .int .i64 (y : Int), .int .i64 0] 43)
            have rB1 := rB.alloc (.cells #[.int .i64 (x : Int), .int .i64 0, .int .i64 (y : Int), .int .i64 0] 43)
            go_upto_block 2 with fail
            go_cut [10] (fun v wc => ∃ z : Nat, v = .int .i64 z ∧ x ≤ z ∧ z ≤ n ∧ On A' x z ∧ Rm n A' z ∧ wo.alloc (.cells #[.int .i64 (x : Int), .int .i64 0, .int .i64 (y : Int), .int .i64 0] 43) = wc)
            case first =>
              go_wp2_with fail
              go_loop [10] (fun v => ∃ z : Nat, v = .int .i64 z ∧ x ≤ z ∧ z ≤ n ∧ On A' x z) (fun v => n - (intOf v).toNat)
              case atStart => exact ⟨x, rfl, Nat.le_refl _, by omega, fun i a b => by omega⟩
              case round =>
                obtain ⟨z, rfl, hxz, hzn, hon⟩ := hrel
                by_cases hz : z < n
                · obtain ⟨g2, rfl⟩ := h2.ad (by omega)
                  cases hAz : A' z with
                  | false =>
                    have cA : (wo.alloc (.cells #[.int .i64 (x : Int), .int .i64 0, .int .i64 (y : Int), .int .i64 0] 43)).cell? ⟨g2, z, none⟩ = some (.bool false) := by rw [rA1.cell z hz]; unfold cv; rw [hAz]
                    have HAz : Hid (A' z = false) := hAz
                    clear hAz
                    go_wp2
                    go_meet
                    exact ⟨z, rfl, hxz, hzn, hon, fun _ => HAz.out, rfl⟩
                  | true =>
                    have cA : (wo.alloc (.cells #[.int .i64 (x : Int), .int .i64 0, .int .i64 (y : Int), .int .i64 0] 43)).cell? ⟨g2, z, none⟩ = some (.bool true) := by rw [rA1.cell z hz]; unfold cv; rw [hAz]
                    have HAz : Hid (A' z = true) := hAz
                    clear hAz
                    go_wp2
                    go_round
                    case rel => exact ⟨z + 1, by go_num, by omega, by omega, on_snoc hon HAz.out⟩
                    case measure => simp [intOf]; omega
                · go_wp2
                  go_meet
                  exact ⟨z, rfl, hxz, hzn, hon, fun h => absurd h hz, rfl⟩
            case rest =>
              obtain ⟨x', rfl, hxx, hxn', honA, hRA, rfl⟩ := hcut
              go_upto_block 4 with fail
              go_cut [11] (fun v wc => ∃ z : Nat, v = .int .i64 z ∧ y ≤ z ∧ z ≤ m ∧ On B' y z ∧ Rm m B' z ∧ wo.alloc (.cells #[.int .i64 (x : Int), .int .i64 0, .int .i64 (y : Int), .int .i64 0] 43) = wc)
              case first =>
                go_wp2_with fail
                go_loop [11] (fun v => ∃ z : Nat, v = .int .i64 z ∧ y ≤ z ∧ z ≤ m ∧ On B' y z) (fun v => m - (intOf v).toNat)
                case atStart => exact ⟨y, rfl, Nat.le_refl _, by omega, fun i a b => by omega⟩
                case round =>
                  obtain ⟨z, rfl, hxz, hzn, hon⟩ := hrel
                  by_cases hz : z < m
                  · obtain ⟨g3, rfl⟩ := h3.ad (by omega)
                    cases hAz : B' z with
                    | false =>
                      have cA : (wo.alloc (.cells #[.int .i64 (x : Int), .int .i64 0, .int .i64 (y : Int), .int .i64 0] 43)).cell? ⟨g3, z, none⟩ = some (.bool false) := by rw [rB1.cell z hz]; unfold cv; rw [hAz]
                      have HAz : Hid (B' z = false) := hAz
                      clear hAz
                      go_wp2
                      go_meet
                      exact ⟨z, rfl, hxz, hzn, hon, fun _ => HAz.out, rfl⟩
                    | true =>
                      have cA : (wo.alloc (.cells #[.int .i64 (x : Int), .int .i64 0, .int .i64 (y : Int), .int .i64 0] 43)).cell? ⟨g3, z, none⟩ = some (.bool true) := by rw [rB1.cell z hz]; unfold cv; rw [hAz]
                      have HAz : Hid (B' z = true) := hAz
                      clear hAz
                      go_wp2
                      go_round
                      case rel => exact ⟨z + 1, by go_num, by omega, by omega, on_snoc hon HAz.out⟩
                      case measure => simp [intOf]; omega
                  · go_wp2
                    go_meet
                    exact ⟨z, rfl, hxz, hzn, hon, fun h => absurd h hz, rfl⟩
              case rest =>
                obtain ⟨y', rfl, hyy, hym', honB, hRB, rfl⟩ := hcut
                have hne : x < x' ∨ y < y' := by
                  by_cases hx1 : x < x'
                  · exact .inl hx1
                  · by_cases hy1 : y < y'
                    · exact .inr hy1
                    · obtain rfl : x = x' := by omega
                      obtain rfl : y = y' := by omega
                      exact (HN2.out hRA hRB).elim
                have hap : 0 < l.length → pe l l.length < x := by
                  intro h
                  rcases hN.out h with h | h
                  · exact h
                  · exact (HN2.out h.1 h.2).elim
                have hG' : Good A' B' (l ++ [⟨x, x', y, y'⟩]) x' y' := hG.snoc hxx hyy hne honA honB hap
                have hlen := hG.len_le
                clear hap honA honB rA1 rB1
                obtain ⟨i43, hi43, hz430, hz431, hz432⟩ := info_parts Try.info43
                have hbs := hb.size
                go_wp2_with (at_builtin; refine wpList_append_own _ rfl (.tmp 90) (.tmp 92) 40 rfl w2.heap.size 43 i43 (.agg #[.int .i64 0, .int .i64 0, .int .i64 0, .int .i64 0]) 4 32 Try.underlying40 hi43 hz430 hz431 hz432 rfl (by decide) _ l.length (flat l) rfl (World.ownsRow.alloc (World.ownsRow.alloc hL _) _) ⟨wo.heap.size + 1, 0, none⟩ 1 1 [.int .i64 (x : Int), .int .i64 (x' : Int), .int .i64 (y : Int), .int .i64 (y' : Int)] rfl rfl ?d1 ?d2 ?d3 ?d4 ?d5 ?_)
                case d1 =>
                  intro j u hj
                  match j, hj with
                  | 0, hj => simp at hj; subst hj; simp [Addr.add]
                  | 1, hj => simp at hj; subst hj; simp [Addr.add]
                  | 2, hj => simp at hj; subst hj; simp [Addr.add]
                  | 3, hj => simp at hj; subst hj; simp [Addr.add]
                case d2 => intro u hu; simp at hu; rcases hu with rfl | rfl | rfl | rfl <;> rfl
                case d3 => unfold maxLen; omega
                case d4 => omega
                case d5 => simp; omega
                intro v' w3 hown' hgrow _
                have hL' : OwnL w3 w2.heap.size v' (l ++ [⟨x, x', y, y'⟩]) := by unfold OwnL; rw [flat_snoc]; simpa using hown'
                have hb3 : Below w2.heap.size w2 w3 := ((hb.alloc (by omega) _).alloc (by simp; omega) _).grown hgrow (by simp; omega) (by intro k hk; exact (World.ownsRow.lt hL k hk).1)
                clear hown' hgrow
                go_wp2
                go_roundg (gk - (x' - x) - (y' - y))
                case measure => omega
                case rel => exact ⟨x', y', l ++ [⟨x, x', y, y'⟩], rfl, rfl, hxn', hym', by omega, hL', hG', hb3, fun _ => .inr ⟨hRA, hRB⟩⟩
    · have hx : ¬ x < n := by omega
      have hy : ¬ y < m := by omega
      obtain rfl : x = n := by omega
      obtain rfl : y = m := by omega
      go_wp2
      go_ret
      exact ⟨_, l, A', B', rfl, hL.lower hos.2.2.2, hG, HU.out, HUB.out, rA, rB, fun k hk e1 e2 => (hb.block k (by omega)).trans (hK k hk e1 e2), hb.os.trans hos.1, hb.tape.trans hos.2.1, hb.output.trans hos.2.2.1, by have := hb.size; omega⟩
end Go.Proofs.Qxb6600074a
