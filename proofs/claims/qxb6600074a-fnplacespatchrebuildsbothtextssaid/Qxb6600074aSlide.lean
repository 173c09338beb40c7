import Derived.Test.Qxb6600074aUp
import Derived.Test.Qxb6600074aPlain2
import Derived.Deep.CutBlock
namespace Go.Proofs.Qxb6600074a
open Go.RowKit
set_option linter.unusedVariables false

/-- What slide leaves. -/
def SlidePost (w : World) (base : Nat) (L : Nat → Int) (C : Nat → Bool) (a1 : Option Addr) (n c1 : Nat) (e : Ending) (w' : World) : Prop :=
  e = .returned (.tuple #[]) ∧ ∃ C', Own w' base 4 a1 n c1 (cv C') ∧ unm L C' n = unm L C n ∧ w.grownBy w' (rowOf a1)

def lv (ls : List Int) (i : Nat) : Int := ls.getD i 0

/-- The world of slide: the marks' row, the box that holds it, the row 'aligned', the lines. -/
structure SW (w : World) (base n c1 : Nat) (a1 : Option Addr) (ga na ca : Nat) (A : Nat → Bool) (a0 : Option Addr) (ls : List Int) (C : Nat → Bool) (wr : World) : Prop where
  row : Own wr base 4 a1 n c1 (cv C)
  box : wr.cell? ⟨w.heap.size, 0, none⟩ = some (.slice a1 n c1)
  al : Own wr (w.heap.size + 1) 4 (some ⟨ga, 0, none⟩) na ca (cv A)
  ln : Rd wr a0 n (iv ls)
  gb : w.grownBy wr (rowOf a1)
  old : ∀ k, rowOf a1 = some k → k < w.heap.size
  ne : ∀ x, a0 = some x → rowOf a1 ≠ some x.block

section
variable {w : World} {base n c1 : Nat} {a1 : Option Addr} {ga na ca : Nat} {A : Nat → Bool} {a0 : Option Addr} {ls : List Int} {C : Nat → Bool} {wr : World}

theorem SW.move {w' : World} {D : Nat → Bool} (h : SW w base n c1 a1 ga na ca A a0 ls C wr) (hr : Own w' base 4 a1 n c1 (cv D)) (hg : wr.grownBy w' (rowOf a1)) : SW w base n c1 a1 ga na ca A a0 ls D w' := by
  refine ⟨hr, hg.cell h.box (fun e => ?_), h.al.grown hg (fun x hx e => ?_), h.ln.grown hg h.ne, gb_step h.gb hg (fun k hk => .inl hk), h.old, h.ne⟩
  · have := h.old _ e.symm; simp at this
  · cases hx; have h1 := h.old _ e; have h2 := h.al.base; simp at h1; omega

theorem SW.drewN (h : SW w base n c1 a1 ga na ca A a0 ls C wr) (q : Nat) : SW w base n c1 a1 ga na ca A a0 ls C (wr.drewN q) :=
  h.move h.row ⟨rfl, rfl, rfl, Nat.le_refl _, fun _ _ _ => rfl⟩
end

theorem lm_zero {C : Nat → Bool} {t : Nat} (h : t = 0) : Lm C t := fun r hr => by omega
theorem lm_succ {C : Nat → Bool} {r : Nat} (h : C r = false) : Lm C (r + 1) := fun q hq => by
  obtain rfl : r = q := by omega
  exact h

theorem own_slice {w : World} {base : Nat} {e : TypeId} {v : Value} {n : Nat} {xs : List Value} (h : w.ownsRow base e 1 v n xs) (hn : 0 < n) : ∃ g c, v = .slice (some ⟨g, 0, none⟩) n c := by
  rcases h.2 with ⟨_, h2⟩ | ⟨g, cap, cur, h1, _⟩
  · omega
  · exact ⟨g, cap, h1⟩

set_option maxRecDepth 100000 in
set_option maxHeartbeats 2000000 in
theorem slide_any (base : Nat) (a0 a1 a2 : Option Addr) (n c0 c1 m c2 : Nat) (ls : List Int) (C O : Nat → Bool) (w : World) (h0 : Rd w a0 n (iv ls)) (h1 : Own w base 4 a1 n c1 (cv C)) (h2 : Rd w a2 m (cv O))
    (b0 : n ≤ 65536) (b2 : m ≤ 65536) (hcnt : cnt C n ≤ cnt O m) (hne : ∀ x, a0 = some x → rowOf a1 ≠ some x.block) :
    Calls Try.prog 30 #[.slice a0 n c0, .slice a1 n c1, .slice a2 m c2] w fun e w' => SlidePost w base (lv ls) C a1 n c1 e w' := by
  have HC : Hid (cnt C n ≤ cnt O m) := hcnt
  clear hcnt
  go_enter Try.func30, Try.ntmps30
  go_upto_block 0 with fail
  go_cut [6] (fun v6 wc => ∃ (ga ca : Nat) (A : Nat → Bool), v6 = .slice (some ⟨ga, 0, none⟩) (cnt O m + 1) ca ∧ Own wc (w.heap.size + 1) 4 (some ⟨ga, 0, none⟩) (cnt O m + 1) ca (cv A) ∧ wc.cell? ⟨w.heap.size, 0, none⟩ = some (.slice a1 n c1) ∧ Below w.heap.size w wc)
  case first =>
    obtain ⟨i4, hi4, hz40, hz41, hz42⟩ := info_parts Try.info4
    go_wp2_with fail
    go_loopg [6, 18] m (fun k v6 v18 wr => ∃ i : Nat, i + k = m ∧ v18 = .int .i64 i ∧ ∃ (ga ca : Nat) (A : Nat → Bool), v6 = .slice (some ⟨ga, 0, none⟩) (cnt O i + 1) ca ∧ Own wr (w.heap.size + 1) 4 (some ⟨ga, 0, none⟩) (cnt O i + 1) ca (cv A) ∧ wr.cell? ⟨w.heap.size, 0, none⟩ = some (.slice a1 n c1) ∧ Below w.heap.size w wr)
    case atStart =>
      refine ⟨0, by omega, rfl, w.heap.size + 1, 1, fun _ => false, rfl, ?_, ?_, ?_⟩
      · have := World.ownsRow_lit (e := 4) (size := 1) (base := w.heap.size + 1) (w.alloc (.cells #[.slice a1 n c1] 23)) #[.bool false] 1 (by simp) (by unfold maxLen; omega) rfl
        simpa [Own, cv, cnt] using this
      · simp
      · exact ((Below.refl _ _).alloc (Nat.le_refl _) _).alloc (by simp) _
    case round =>
      obtain ⟨i, hik, rfl, ga, ca, A, rfl, ho, hbx, hb⟩ := hrel
      have hga := ho.base
      have hci := cnt_le O i
      by_cases hlt : i < m
      · rcases h2.below hb with h | ⟨b, off, ha, hc⟩
        · omega
        subst ha
        cases hO : O i with
        | true =>
          have hc1 : wr.cell? ⟨b, off + i, none⟩ = some (.bool true) := by rw [hc i hlt]; unfold cv; rw [hO]
          have hc2 := ho.cell (cnt O i) (by omega)
          have hf2 := ho.frozen (cnt O i)
          have HO : Hid (O i = true) := hO
          clear hc hO
          go_wp2
          go_roundg (m - (i + 1))
          case measure => omega
          case rel =>
            refine ⟨i + 1, by omega, by go_num, ga, ca, upd A (cnt O i) true, by rw [cnt_on HO.out], by rw [cnt_on HO.out]; exact ho.upd _ _, (gb_set wr ⟨ga, cnt O i, none⟩ (.bool true)).cell hbx (by simp; omega), hb.setCell (p := ⟨ga, cnt O i, none⟩) (by show w.heap.size ≤ ga; omega) _⟩
        | false =>
          have hc1 : wr.cell? ⟨b, off + i, none⟩ = some (.bool false) := by rw [hc i hlt]; unfold cv; rw [hO]
          have HO : Hid (O i = false) := hO
          clear hc hO
          go_wp2_with (at_builtin; refine wpList_append_own _ rfl _ _ 23 rfl (w.heap.size + 1) 4 i4 (.bool false) 1 1 Try.underlying23 hi4 hz40 hz41 hz42 rfl (by decide) _ _ _ rfl (ho.alloc _) ⟨wr.heap.size, 0, none⟩ 1 1 [.bool false] rfl rfl (cell_one_new _ _ _) (by intro u hu; simp at hu; subst hu; rfl) (by unfold maxLen; omega) (by omega) (by simp; omega) ?_)
          intro v' w1 hown' hgrow _
          obtain ⟨g', cap', hv⟩ := own_slice hown' (by omega)
          subst hv
          have hgr : (wr.alloc (.cells #[.bool false] 4)).grownBy w1 (some ga) := hgrow
          have hO1 := own_snoc (n := cnt O i + 1) (f := cv A) (u := .bool false) (by simpa [List.range_succ] using hown')
          have hbx1 : w1.cell? ⟨w.heap.size, 0, none⟩ = some (.slice a1 n c1) := hgr.cell (a := ⟨w.heap.size, 0, none⟩) ((World.cell?_alloc_past _ _ _ (by omega)).trans hbx) (by simp; omega)
          have hb1 : Below w.heap.size w w1 := (hb.alloc (by have := hb.size; omega) _).grown hgr (by simp; omega) (by intro k hk; cases hk; omega)
          clear hown' hgrow hgr ho hbx hb
          go_wp2
          go_roundg (m - (i + 1))
          case measure => omega
          case rel => exact ⟨i + 1, by omega, by go_num, g', cap', fun j => if j < cnt O i + 1 then A j else false, by rw [cnt_off HO.out], by rw [cnt_off HO.out]; exact hO1.congr (fun j _ => by unfold cv; by_cases h : j < cnt O i + 1 <;> simp [h]), hbx1, hb1⟩
      · obtain rfl : i = m := by omega
        go_wp2
        go_meet
        exact ⟨ga, ca, A, rfl, ho, hbx, hb⟩
  case rest =>
    obtain ⟨ga, ca, A, rfl, hal, hbx, hb⟩ := hcut
    have old1 : ∀ k, rowOf a1 = some k → k < w.heap.size := by
      intro k hk
      cases a1 with
      | none => cases hk
      | some x => have := World.ownsRow.lt h1 x.block rfl; simp [rowOf] at hk; omega
    have hW0 : SW w base n c1 a1 ga (cnt O m + 1) ca A a0 ls C wc := ⟨h1.below hb, hbx, hal, h0.below hb, gb_below hb _, old1, hne⟩
    have HU : Hid ((unm (lv ls) C n).length ≤ cnt O m) := by rw [Hid, cnt_unm]; exact HC.out
    obtain ⟨U, hU⟩ : ∃ U, unm (lv ls) C n = U := ⟨_, rfl⟩
    rw [hU] at HU
    have HUU : Hid (unm (lv ls) C n = U) := hU
    have hO0 : Outer (lv ls) n U C 0 0 := ⟨Nat.zero_le _, rfl, hU, fun _ _ t ht => by omega⟩
    clear hal hbx hb hU
    generalize hna : cnt O m + 1 = na at *
    have HNA : Hid (cnt O m + 1 = na) := hna
    clear hna
    go_wp2
    go_loopg [10, 11] (mu n C 0) (fun k v10 v11 wr => ∃ (s g : Nat) (D : Nat → Bool), v10 = .int .i64 g ∧ v11 = .int .i64 s ∧ Hid (k = mu n D s) ∧ Outer (lv ls) n U D s g ∧ SW w base n c1 a1 ga na ca A a0 ls D wr)
    case atStart => exact ⟨0, 0, C, rfl, rfl, rfl, hO0, hW0⟩
    case round =>
      obtain ⟨s, g, D, rfl, rfl, hk, hO, hW⟩ := hrel
      clear hW0 hO0
      have hgs : g ≤ s := by rw [hO.gap]; exact cnt_le _ _
      by_cases hlt : s < n
      · obtain ⟨g1, rfl⟩ := h1.ad (by omega)
        have hbox := hW.box
        cases hD : D s with
        | false =>
          have hcS : wr.cell? ⟨g1, s, none⟩ = some (.bool false) := by rw [hW.row.cell s hlt]; unfold cv; rw [hD]
          have HD : Hid (D s = false) := hD
          clear hD
          go_wp2
          go_roundg (mu n D (s + 1))
          case measure => rw [hk.out]; exact mu_step hlt HD.out
          case rel => exact ⟨s + 1, g + 1, D, by go_num, by go_num, rfl, hO.step hlt HD.out, hW⟩
        | true =>
          have hcS : wr.cell? ⟨g1, s, none⟩ = some (.bool true) := by rw [hW.row.cell s hlt]; unfold cv; rw [hD]
          have HD : Hid (D s = true) := hD
          clear hD
          have hR0 : Run (lv ls) n U (mrk D s) D s (s + 1) g := Run.start hO.um hO.gap hlt HD.out
          have hLm0 : Lm D s := hO.edge hlt HD.out
          have HM : Hid (∀ D' e', e' ≤ n → mrk D s < mrk D' e' → mu n D' e' < gk) := by
            intro D' e' h1 h2; rw [hk.out]; exact mu_run h1 h2
          generalize mrk D s = K at hR0 HM
          obtain ⟨wo, rfl⟩ : ∃ wo : World, wo = wr := ⟨_, rfl⟩
          clear hk hO
          go_upto_block 4 with fail
          go_cut [12] (fun v12 wc => ∃ e : Nat, v12 = .int .i64 e ∧ Run (lv ls) n U K D s e g ∧ Rm n D e ∧ wo = wc)
          case first =>
            go_wp2_with fail
            go_loop [12] (fun v12 => ∃ e : Nat, v12 = .int .i64 e ∧ Run (lv ls) n U K D s e g) (fun v => n - (intOf v).toNat)
            case atStart => exact ⟨s + 1, by go_num, hR0⟩
            case round =>
              obtain ⟨e, rfl, hR⟩ := hrel
              have hen := hR.le
              have hse := hR.lt
              by_cases he : e < n
              · cases hDe : D e with
                | false =>
                  have hcE : wo.cell? ⟨g1, e, none⟩ = some (.bool false) := by rw [hW.row.cell e he]; unfold cv; rw [hDe]
                  have HDe : Hid (D e = false) := hDe
                  clear hDe
                  go_wp2
                  go_meet
                  exact ⟨e, rfl, hR, fun _ => HDe.out, rfl⟩
                | true =>
                  have hcE : wo.cell? ⟨g1, e, none⟩ = some (.bool true) := by rw [hW.row.cell e he]; unfold cv; rw [hDe]
                  have HDe : Hid (D e = true) := hDe
                  clear hDe
                  go_wp2
                  go_round
                  case rel => exact ⟨e + 1, by go_num, hR.right he HDe.out⟩
                  case measure => simp [intOf]; omega
              · go_wp2
                go_meet
                exact ⟨e, rfl, hR, fun h => absurd h he, rfl⟩
          case rest =>
            obtain ⟨e, rfl, hR, hRm, rfl⟩ := hcut
            clear hR0
            go_upto_block 6 with fail
            go_cut [10, 11, 12, 13] (fun v10 v11 v12 v13 wc => ∃ (g s e : Nat) (z : Int) (D : Nat → Bool), v10 = .int .i64 g ∧ v11 = .int .i64 s ∧ v12 = .int .i64 e ∧ v13 = .int .i64 z ∧ Run (lv ls) n U K D s e g ∧ Rm n D e ∧ LastP (lv ls) D z (e - s) e ∧ SW w base n c1 (some ⟨g1, 0, none⟩) ga na ca A a0 ls D wc)
            case first =>
              go_wp2_with fail
              go_loopg [10, 11, 12, 13, 14] (2 * n + 1) (fun k v10 v11 v12 v13 v14 wr => ∃ (g s e len : Nat) (z : Int) (D : Nat → Bool), v10 = .int .i64 g ∧ v11 = .int .i64 s ∧ v12 = .int .i64 e ∧ v13 = .int .i64 z ∧ v14 = .int .i64 len ∧ Hid (2 * (n - (e - s)) + (if len = e - s then 0 else 1) ≤ k) ∧ Run (lv ls) n U K D s e g ∧ Lm D s ∧ Rm n D e ∧ LP (lv ls) D z len s e ∧ SW w base n c1 (some ⟨g1, 0, none⟩) ga na ca A a0 ls D wr)
              case atStart => exact ⟨g, s, e, 0, -1, D, rfl, rfl, rfl, rfl, rfl, by unfold Hid; split <;> omega, hR, hLm0, hRm, LP.neg _ _ _ _ _, hW⟩
              case round =>
                clear hR hRm hLm0 hW
                obtain ⟨g, s, e, len, z, D, rfl, rfl, rfl, rfl, rfl, hk, hR, hLm, hRm, hLP, hW⟩ := hrel
                have hen := hR.le
                have hse := hR.lt
                have hgs := hR.gap_le_s
                have hbox := hW.box
                by_cases hd : len = e - s
                · have hb1 : ((len : Int) != (e : Int) - (s : Int)) = false := by simp; omega
                  have HLa : Hid (LastP (lv ls) D z (e - s) e) := by rw [← hd]; exact hLP hd
                  clear hd
                  go_wp2
                  go_meet
                  exact ⟨g, s, e, z, D, rfl, rfl, rfl, rfl, hR, hRm, HLa.out, hW⟩
                · have hb1 : ((len : Int) != (e : Int) - (s : Int)) = true := by rw [bne_iff_ne]; omega
                  obtain ⟨l2, hl2⟩ : ∃ l2 : Nat, l2 = e - s := ⟨_, rfl⟩
                  have HL2 : Hid ((e : Int) - (s : Int) = (l2 : Int)) := by unfold Hid; omega
                  have HK : Hid (2 * (n - l2) + 1 ≤ gk) := by have := hk.out; rw [if_neg hd] at this; rw [hl2]; exact this
                  have hl2' : l2 ≤ e - s := by omega
                  have hl2n : l2 ≤ n := by omega
                  clear hd hl2 hk hLP
                  go_upto_block 8 with fail
                  go_cut [10, 11, 12] (fun v10 v11 v12 wc => ∃ (g s e : Nat) (D : Nat → Bool), v10 = .int .i64 g ∧ v11 = .int .i64 s ∧ v12 = .int .i64 e ∧ Run (lv ls) n U K D s e g ∧ Lm D s ∧ Rm n D e ∧ l2 ≤ e - s ∧ SW w base n c1 (some ⟨g1, 0, none⟩) ga na ca A a0 ls D wc)
                  case first =>
                    clear hb1 HK
                    go_wp2_with fail
                    go_loopg [10, 11, 12] s (fun k v10 v11 v12 wr => ∃ (g s e : Nat) (D : Nat → Bool), v10 = .int .i64 g ∧ v11 = .int .i64 s ∧ v12 = .int .i64 e ∧ s ≤ k ∧ Run (lv ls) n U K D s e g ∧ Lm D s ∧ Rm n D e ∧ l2 ≤ e - s ∧ SW w base n c1 (some ⟨g1, 0, none⟩) ga na ca A a0 ls D wr)
                    case atStart => exact ⟨g, s, e, D, rfl, rfl, rfl, Nat.le_refl _, hR, hLm, hRm, hl2', hW⟩
                    case round =>
                      clear hR hRm hLm hW hen hse hgs hbox hl2' HL2
                      obtain ⟨g, s, e, D, rfl, rfl, rfl, hk, hR, hLm, hRm, hl2', hW⟩ := hrel
                      have hen := hR.le
                      have hse := hR.lt
                      have hgs := hR.gap_le_s
                      have hbox := hW.box
                      by_cases hs0 : s = 0
                      · have hdd : decide ((0 : Int) < (s : Int)) = false := decide_eq_false (by omega)
                        go_wp2
                        go_quiet (fail)
                        go_wp2
                        go_meet
                        exact ⟨g, s, e, D, rfl, rfl, rfl, hR, hLm, hRm, hl2', hW.drewN _⟩
                      · obtain ⟨t, rfl⟩ : ∃ t, s = t + 1 := ⟨s - 1, by omega⟩
                        obtain ⟨f, rfl⟩ : ∃ f, e = f + 1 := ⟨e - 1, by omega⟩
                        have HT : Hid (D t = false) := hLm t rfl
                        obtain ⟨p, rfl⟩ : ∃ p, g = p + 1 := ⟨g - 1, by have := hR.gap_pos HT.out; omega⟩
                        have hW2 := hW
                        rcases hW.ln with h | ⟨b, off, ha, hc⟩
                        · omega
                        have hcT : wr.cell? ⟨b, off + t, none⟩ = some (.int .i32 (lv ls t)) := hc t (by omega)
                        have hcF : wr.cell? ⟨b, off + f, none⟩ = some (.int .i32 (lv ls f)) := hc f (by omega)
                        clear hc
                        have ht1 : (t : Int) < (n : Int) := by omega
                        have hf1 : (f : Int) < (n : Int) := by omega
                        subst ha
                        by_cases hxy : lv ls t = lv ls f
                        · rw [hxy] at hcT
                          have HXY : Hid (lv ls t = lv ls f) := hxy
                          clear hxy
                          generalize lv ls f = x at hcT hcF
                          go_wp2
                          go_quiet (fail)
                          go_wp2_with fail
                          refine (up_any base g1 w.heap.size n c1 D (t + 1) (f + 1) (p + 1) _ (hW.drewN _).row (hW.drewN _).box (by have := hW.old _ rfl; simp at this; omega) (by omega) (by omega) (by omega) (by omega) (by omega) (by omega)).mono ?_
                          rintro en w1 ⟨rfl, hrow1, hg1⟩
                          simp only [Nat.add_sub_cancel] at hrow1
                          have hup := hR.up HT.out HXY.out
                          simp only [Nat.add_sub_cancel] at hup
                          have hW1 := (hW.drewN _).move hrow1 hg1
                          rw [show (((t + 1 : Nat) : Int) - 1) = (t : Int) by omega, show (((f + 1 : Nat) : Int) - 1) = (f : Int) by omega, show (((p + 1 : Nat) : Int) - 1) = (p : Int) by omega]
                          have hbox1 := hW1.box
                          have hl3 : l2 ≤ f - t := by omega
                          obtain ⟨hRu, hRmu⟩ := hup
                          clear hrow1 hg1 hcT hcF
                          go_wp2
                          go_loop [11] (fun v11 => ∃ t' : Nat, v11 = .int .i64 t' ∧ t' ≤ t ∧ Run (lv ls) n U K (slideUp D t f) t' f p) (fun v => (intOf v).toNat)
                          case atStart => exact ⟨t, rfl, Nat.le_refl _, hRu⟩
                          case round =>
                            obtain ⟨t', rfl, htt, hR'⟩ := hrel
                            by_cases ht0 : t' = 0
                            · have hdd : decide ((0 : Int) < (t' : Int)) = false := decide_eq_false (by omega)
                              have HT0 : Hid (t' = 0) := ht0
                              have hn0 : ¬ 0 < t' := by omega
                              clear ht0
                              go_wp2
                              go_roundg t'
                              case measure => omega
                              case rel => exact ⟨p, t', f, slideUp D t f, rfl, rfl, rfl, Nat.le_refl _, hR', lm_zero HT0.out, hRmu, by omega, hW1⟩
                            · obtain ⟨r, rfl⟩ : ∃ r, t' = r + 1 := ⟨t' - 1, by omega⟩
                              have hr1 : (r : Int) < (n : Int) := by omega
                              cases hDr : slideUp D t f r with
                              | false =>
                                have hcR : w1.cell? ⟨g1, r, none⟩ = some (.bool false) := by rw [hW1.row.cell r (by omega)]; unfold cv; rw [hDr]
                                have HDr : Hid (slideUp D t f r = false) := hDr
                                clear hDr
                                go_wp2
                                go_roundg (r + 1)
                                case measure => omega
                                case rel => exact ⟨p, r + 1, f, slideUp D t f, rfl, rfl, rfl, Nat.le_refl _, hR', lm_succ HDr.out, hRmu, by omega, hW1⟩
                              | true =>
                                have hcR : w1.cell? ⟨g1, r, none⟩ = some (.bool true) := by rw [hW1.row.cell r (by omega)]; unfold cv; rw [hDr]
                                have HDr : Hid (slideUp D t f r = true) := hDr
                                clear hDr
                                go_wp2
                                go_round
                                case rel => exact ⟨r, by go_num, by omega, hR'.left HDr.out⟩
                                case measure => simp [intOf]
                        · have hxb : (lv ls t == lv ls f) = false := beq_eq_false_iff_ne.2 hxy
                          clear hxy
                          go_wp2
                          go_quiet (fail)
                          go_wp2
                          go_meet
                          exact ⟨p + 1, t + 1, f + 1, D, rfl, rfl, rfl, hR, hLm, hRm, hl2', hW.drewN _⟩
                  case rest =>
                    clear hR hRm hLm hW hen hse hgs hbox hl2'
                    obtain ⟨g, s, e, D, rfl, rfl, rfl, hR, hLm, hRm, hl2', hW⟩ := hcut
                    have hgU : g < na := by have h1 := hR.gap_le; have h2 := HU.out; have h3 := HNA.out; omega
                    have hcA : wc.cell? ⟨ga, g, none⟩ = some (.bool (A g)) := hW.al.cell g hgU
                    obtain ⟨wo, rfl⟩ : ∃ wo : World, wo = wc := ⟨_, rfl⟩
                    clear hb1
                    go_upto_if 106 with fail
                    go_cut [13] (fun v13 wc => ∃ z : Int, v13 = .int .i64 z ∧ LP (lv ls) D z l2 s e ∧ wo = wc)
                    case first =>
                      go_wp2_with fail
                      all_goals go_meet
                      · exact ⟨_, rfl, LP.set _ _ hl2', rfl⟩
                      · exact ⟨_, rfl, LP.neg _ _ _ _ _, rfl⟩
                    case rest =>
                      obtain ⟨z, rfl, hLP, rfl⟩ := hcut
                      clear hcA
                      go_wp2
                      go_loopg [10, 11, 12, 13] (n - e) (fun k v10 v11 v12 v13 wr => ∃ (g s e : Nat) (z : Int) (D : Nat → Bool), v10 = .int .i64 g ∧ v11 = .int .i64 s ∧ v12 = .int .i64 e ∧ v13 = .int .i64 z ∧ n - e ≤ k ∧ Run (lv ls) n U K D s e g ∧ Lm D s ∧ Rm n D e ∧ l2 ≤ e - s ∧ LP (lv ls) D z l2 s e ∧ SW w base n c1 (some ⟨g1, 0, none⟩) ga na ca A a0 ls D wr)
                      case atStart => exact ⟨g, s, e, z, D, rfl, rfl, rfl, rfl, Nat.le_refl _, hR, hLm, hRm, hl2', hLP, hW⟩
                      case round =>
                        clear hR hRm hLm hW hLP hl2' hgU
                        obtain ⟨g, s, e, z, D, rfl, rfl, rfl, rfl, hk, hR, hLm, hRm, hl2', hLP, hW⟩ := hrel
                        have hen := hR.le
                        have hse := hR.lt
                        have hgs := hR.gap_le_s
                        have hbox := hW.box
                        have HKK : Hid (2 * (n - (e - s)) + (if l2 = e - s then 0 else 1) < 2 * (n - l2) + 1) := by unfold Hid; split <;> omega
                        by_cases he : e < n
                        · rcases hW.ln with h | ⟨b, off, ha, hc⟩
                          · omega
                          have hcS : wr.cell? ⟨b, off + s, none⟩ = some (.int .i32 (lv ls s)) := hc s (by omega)
                          have hcE : wr.cell? ⟨b, off + e, none⟩ = some (.int .i32 (lv ls e)) := hc e (by omega)
                          clear hc
                          have hs1 : (s : Int) < (n : Int) := by omega
                          have he1 : (e : Int) < (n : Int) := by omega
                          subst ha
                          by_cases hxy : lv ls s = lv ls e
                          · have HDe : Hid (D e = false) := hRm he
                            rw [hxy] at hcS
                            have HXY : Hid (lv ls s = lv ls e) := hxy
                            clear hxy
                            generalize lv ls e = x at hcS hcE
                            have c1s := hW.row.cell s (by omega)
                            have c1e := hW.row.cell e (by omega)
                            have f1s := hW.row.frozen s
                            have f1e := hW.row.frozen e
                            have hgB : g1 ≠ w.heap.size := by have := hW.old _ rfl; simp at this; omega
                            go_wp2
                            go_quiet (fail)
                            go_wp2
                            go_region
                            go_upto_block 14 with fail
                            have hWd := (hW.drewN (nq + 1)).move (((hW.drewN (nq + 1)).row.upd s false).upd e true) (gb_step (gb_set (wr.drewN (nq + 1)) ⟨g1, s, none⟩ (.bool false)) (gb_set _ ⟨g1, e, none⟩ (.bool true)) (fun k hk => .inl hk))
                            have hdn : Run (lv ls) n U K (slideDn D s e) (s + 1) (e + 1) (g + 1) ∧ Lm (slideDn D s e) (s + 1) := hR.down he HDe.out HXY.out
                            have hLPd : LP (lv ls) (slideDn D s e) z l2 (s + 1) (e + 1) := hLP.down hse HXY.out
                            change SW w base n c1 (some ⟨g1, 0, none⟩) ga na ca A _ ls (slideDn D s e) _ at hWd
                            generalize slideDn D s e = D' at hWd hdn hLPd
                            generalize ((wr.drewN (nq + 1)).setCell ⟨g1, s, none⟩ (.bool false)).setCell ⟨g1, e, none⟩ (.bool true) = wo at hWd ⊢
                            obtain ⟨hRd, hLmd⟩ := hdn
                            have hboxd := hWd.box
                            clear c1s c1e f1s f1e hcS hcE hbox hW hR hLm hRm hLP HXY HDe HKK
                            go_cut [12] (fun v12 wc => ∃ e' : Nat, v12 = .int .i64 e' ∧ Run (lv ls) n U K D' (s + 1) e' (g + 1) ∧ Rm n D' e' ∧ l2 ≤ e' - (s + 1) ∧ e < e' ∧ LP (lv ls) D' z l2 (s + 1) e' ∧ wo = wc)
                            case first =>
                              go_wp2_with fail
                              go_loop [12] (fun v12 => ∃ e' : Nat, v12 = .int .i64 e' ∧ Run (lv ls) n U K D' (s + 1) e' (g + 1) ∧ l2 ≤ e' - (s + 1) ∧ e < e' ∧ LP (lv ls) D' z l2 (s + 1) e') (fun v => n - (intOf v).toNat)
                              case atStart => exact ⟨e + 1, by go_num, hRd, by omega, by omega, hLPd⟩
                              case round =>
                                obtain ⟨e', rfl, hR', hl', hee, hLP'⟩ := hrel
                                have hen' := hR'.le
                                by_cases he' : e' < n
                                · cases hDe : D' e' with
                                  | false =>
                                    have hcE : wo.cell? ⟨g1, e', none⟩ = some (.bool false) := by rw [hWd.row.cell e' he']; unfold cv; rw [hDe]
                                    have HDe : Hid (D' e' = false) := hDe
                                    clear hDe
                                    go_wp2
                                    go_meet
                                    exact ⟨e', rfl, hR', fun _ => HDe.out, hl', hee, hLP', rfl⟩
                                  | true =>
                                    have hcE : wo.cell? ⟨g1, e', none⟩ = some (.bool true) := by rw [hWd.row.cell e' he']; unfold cv; rw [hDe]
                                    have HDe : Hid (D' e' = true) := hDe
                                    clear hDe
                                    go_wp2
                                    go_round
                                    case rel => exact ⟨e' + 1, by go_num, hR'.right he' HDe.out, by omega, by omega, LP.off _ _ _ (by omega)⟩
                                    case measure => simp [intOf]; omega
                                · go_wp2
                                  go_meet
                                  exact ⟨e', rfl, hR', fun h => absurd h he', hl', hee, hLP', rfl⟩
                            case rest =>
                              obtain ⟨e', rfl, hR', hRm', hl', hee, hLP', rfl⟩ := hcut
                              clear hRd hLPd
                              have hen' := hR'.le
                              have hgU : g + 1 < na := by have h1 := hR'.gap_le; have h2 := HU.out; have h3 := HNA.out; omega
                              have hcA : wo.cell? ⟨ga, g + 1, none⟩ = some (.bool (A (g + 1))) := hWd.al.cell (g + 1) hgU
                              go_wp2
                              · go_roundg (n - e')
                                case measure => omega
                                case rel => exact ⟨g + 1, s + 1, e', (e' : Int), D', by go_num, by go_num, rfl, rfl, Nat.le_refl _, hR', hLmd, hRm', hl', LP.set _ _ hl', hWd⟩
                              · go_roundg (n - e')
                                case measure => omega
                                case rel => exact ⟨g + 1, s + 1, e', z, D', by go_num, by go_num, rfl, rfl, Nat.le_refl _, hR', hLmd, hRm', hl', hLP', hWd⟩
                          · have hxb : (lv ls s == lv ls e) = false := beq_eq_false_iff_ne.2 hxy
                            clear hxy
                            go_wp2
                            go_quiet (fail)
                            go_wp2
                            go_roundg (2 * (n - (e - s)) + (if l2 = e - s then 0 else 1))
                            case measure => have h1 := HKK.out; have h2 := HK.out; omega
                            case rel => exact ⟨g, s, e, l2, z, D, rfl, rfl, rfl, rfl, by rw [HL2.out], Nat.le_refl _, hR, hLm, hRm, hLP, hW.drewN _⟩
                        · have hdd : decide ((e : Int) < (n : Int)) = false := decide_eq_false (by omega)
                          go_wp2
                          go_quiet (fail)
                          go_wp2
                          go_roundg (2 * (n - (e - s)) + (if l2 = e - s then 0 else 1))
                          case measure => have h1 := HKK.out; have h2 := HK.out; omega
                          case rel => exact ⟨g, s, e, l2, z, D, rfl, rfl, rfl, rfl, by rw [HL2.out], Nat.le_refl _, hR, hLm, hRm, hLP, hW.drewN _⟩
            case rest =>
              clear hR hRm hLm0 hW
              obtain ⟨g, s, e, z, D, rfl, rfl, rfl, rfl, hR, hRm, hLa, hW⟩ := hcut
              obtain ⟨l, hl⟩ : ∃ l : Nat, l = e - s := ⟨_, rfl⟩
              rw [← hl] at hLa
              have HL : Hid (l = e - s) := hl
              clear hl
              go_wp2
              go_loopg [10, 11, 12] e (fun k v10 v11 v12 wr => ∃ (g s e : Nat) (D : Nat → Bool), v10 = .int .i64 g ∧ v11 = .int .i64 s ∧ v12 = .int .i64 e ∧ e ≤ k ∧ Run (lv ls) n U K D s e g ∧ Rm n D e ∧ Hid (l = e - s) ∧ LastP (lv ls) D z l e ∧ SW w base n c1 (some ⟨g1, 0, none⟩) ga na ca A a0 ls D wr)
              case atStart => exact ⟨g, s, e, D, rfl, rfl, rfl, Nat.le_refl _, hR, hRm, HL, hLa, hW⟩
              case round =>
                clear hR hRm hW hLa HL
                obtain ⟨g, s, e, D, rfl, rfl, rfl, hk, hR, hRm, HL, hLa, hW⟩ := hrel
                have hen := hR.le
                have hse := hR.lt
                have hgs := hR.gap_le_s
                have hbox := hW.box
                rcases hLa with rfl | ⟨q, rfl, hlq, hqe, hj⟩
                · go_wp2
                  go_roundg (mu n D e)
                  case measure => exact HM.out D e hen hR.top
                  case rel => exact ⟨e, g, D, rfl, rfl, rfl, hR.out hRm, hW⟩
                · by_cases hq : q < e
                  · obtain ⟨t, rfl⟩ : ∃ t, s = t + 1 := ⟨s - 1, by have := HL.out; omega⟩
                    obtain ⟨f, rfl⟩ : ∃ f, e = f + 1 := ⟨e - 1, by omega⟩
                    have hl1 : l = f - t := by have := HL.out; omega
                    have HJ : Hid (∀ j, q ≤ j → j < f + 1 → lv ls (j - l) = lv ls j ∧ D (j - l) = false) := hj
                    have HJf := HJ.out f (by omega) (by omega)
                    rw [show f - l = t by omega] at HJf
                    have HT : Hid (D t = false) := HJf.2
                    have HXY : Hid (lv ls t = lv ls f) := HJf.1
                    have HL1 : Hid (l = f - t) := hl1
                    obtain ⟨p, rfl⟩ : ∃ p, g = p + 1 := ⟨g - 1, by have := hR.gap_pos HT.out; omega⟩
                    clear hj HJf hl1
                    go_wp2_with fail
                    refine (up_any base g1 w.heap.size n c1 D (t + 1) (f + 1) (p + 1) _ hW.row hW.box (by have := hW.old _ rfl; simp at this; omega) (by omega) (by omega) (by omega) (by omega) (by omega) (by omega)).mono ?_
                    rintro en w1 ⟨rfl, hrow1, hg1⟩
                    simp only [Nat.add_sub_cancel] at hrow1
                    have hup := hR.up HT.out HXY.out
                    simp only [Nat.add_sub_cancel] at hup
                    have hW1 := hW.move hrow1 hg1
                    rw [show (((t + 1 : Nat) : Int) - 1) = (t : Int) by omega, show (((f + 1 : Nat) : Int) - 1) = (f : Int) by omega, show (((p + 1 : Nat) : Int) - 1) = (p : Int) by omega]
                    obtain ⟨hRu, hRmu⟩ := hup
                    clear hrow1 hg1
                    go_wp2
                    go_roundg f
                    case measure => omega
                    case rel => exact ⟨p, t, f, slideUp D t f, rfl, rfl, rfl, Nat.le_refl _, hRu, hRmu, HL1, .inr ⟨q, rfl, hlq, by omega, LastP.up HJ.out HL1.out (by omega) hlq⟩, hW1⟩
                  · go_wp2
                    go_roundg (mu n D e)
                    case measure => exact HM.out D e hen hR.top
                    case rel => exact ⟨e, g, D, rfl, rfl, rfl, hR.out hRm, hW⟩
      · have hsn := hO.le
        obtain rfl : s = n := by omega
        go_wp2
        go_end0
        exact ⟨rfl, D, hW.row, hO.um.trans HUU.out.symm, hW.gb⟩
end Go.Proofs.Qxb6600074a
