import Derived.Test.Qxb6600074aCovers
namespace Go.Proofs.Qxb6600074a
open Go.RowKit
set_option linter.unusedVariables false

def bf (bs : List Bool) (i : Nat) : Bool := bs.getD i false

theorem own_ne2 {w w' : World} {base base' : Nat} {e e' : TypeId} {a a' : Option Addr} {n c n' c' : Nat} {f f' : Nat → Value} (h : Own w base e a n c f) (h' : Own w' base' e' a' n' c' f') (hb : w.heap.size ≤ base') : (∀ x, a = some x → rowOf a' ≠ some x.block) ∧ (∀ x, a' = some x → rowOf a ≠ some x.block) := by
  constructor
  · intro x hx he
    subst hx
    have h1 := World.ownsRow.lt h x.block rfl
    cases a' with
    | none => cases he
    | some y =>
      have h2 := World.ownsRow.lt h' y.block rfl
      simp [rowOf] at he
      omega
  · intro x hx he
    subst hx
    have h1 := World.ownsRow.lt h' x.block rfl
    cases a with
    | none => cases he
    | some y =>
      have h2 := World.ownsRow.lt h y.block rfl
      simp [rowOf] at he
      omega

theorem own_row_ge {w : World} {base : Nat} {e : TypeId} {a : Option Addr} {n c : Nat} {f : Nat → Value} (h : Own w base e a n c f) : ∀ k, rowOf a = some k → base ≤ k := by
  intro k hk
  cases a with
  | none => cases hk
  | some x => have := World.ownsRow.lt h x.block rfl; simp [rowOf] at hk; omega

theorem OwnL.below {w w' : World} {base : Nat} {v : Value} {l : List Ch} (h : OwnL w base v l) (hb : Below w.heap.size w w') : OwnL w' base v l := by
  obtain ⟨h1, h2⟩ := h
  refine ⟨h1, ?_⟩
  rcases h2 with h2 | ⟨g, cap, cur, hv, hg, hh, r⟩
  · exact .inl h2
  · have hlt : g < w.heap.size := by
      by_cases hlt : g < w.heap.size
      · exact hlt
      · rw [Array.getElem?_eq_none (by omega)] at hh; cases hh
    exact .inr ⟨g, cap, cur, hv, hg, by rw [hb.block g hlt]; exact hh, r⟩

set_option maxRecDepth 100000 in
set_option maxHeartbeats 4000000 in
theorem walk7 (a0 a1 a2 a3 : Option Addr) (n c0 m c1 n2 c2 m2 c3 : Nat) (la lb : List Int) (ba bb : List Bool) (w : World) (r0 : Rd w a0 n (iv la)) (r1 : Rd w a1 m (iv lb)) (r2 : Rd w a2 n2 (bv ba)) (r3 : Rd w a3 m2 (bv bb))
    (z0 : NilZ a0 n) (z1 : NilZ a1 m) (z2 : NilZ a2 n2) (z3 : NilZ a3 m2) (m0 : n ≤ maxLen) (m1 : m ≤ maxLen) (m2' : n2 ≤ maxLen) (m3 : m2 ≤ maxLen) :
    Calls Try.prog 7 #[.slice a0 n c0, .slice a1 m c1, .slice a2 n2 c2, .slice a3 m2 c3] w fun e w' => e = .returned (.bool true) ∧ Below w.heap.size w w' := by
  unfold maxLen at m0 m1 m2' m3
  go_enter Try.func7, Try.ntmps7
  go_wp2_with fail
  refine (bytes24 _ _ _ _ _ _ _ _ _ _ _ _ _).mono ?_
  rintro e w' ⟨r, rfl, rfl⟩
  cases r with
  | false =>
    go_wp2
    go_ret
    exact ⟨rfl, Below.refl _ _⟩
  | true =>
  by_cases g0 : 65536 < n
  · go_wp2
    go_ret
    exact ⟨rfl, Below.refl _ _⟩
  by_cases g1 : 65536 < m
  · go_wp2
    go_ret
    exact ⟨rfl, Below.refl _ _⟩
  by_cases g2 : 65536 < n2
  · go_wp2
    go_ret
    exact ⟨rfl, Below.refl _ _⟩
  by_cases g3 : 65536 < m2
  · go_wp2
    go_ret
    exact ⟨rfl, Below.refl _ _⟩
  have d0 : decide ((65536 : Int) < (n : Int)) = false := decide_eq_false (by omega)
  have d1 : decide ((65536 : Int) < (m : Int)) = false := decide_eq_false (by omega)
  have d2 : decide ((65536 : Int) < (n2 : Int)) = false := decide_eq_false (by omega)
  have d3 : decide ((65536 : Int) < (m2 : Int)) = false := decide_eq_false (by omega)
  by_cases q0 : n2 = n
  · by_cases q1 : m2 = m
    · subst q0
      subst q1
      have r2c : Rd w a2 n2 (cv (bf ba)) := r2
      have r3c : Rd w a3 m2 (cv (bf bb)) := r3
      go_wp2_with fail
      clear d0 d1 d2 d3
      refine (count_any _ _ _ _ (bf ba) _ r2c (Nat.le_refl _) (by omega)).mono ?_
      rintro e w' ⟨rfl, rfl⟩
      go_wp2_with fail
      refine (count_any _ _ _ _ (bf bb) _ r3c (Nat.le_refl _) (by omega)).mono ?_
      rintro e w' ⟨rfl, rfl⟩
      by_cases hcc : cnt (bf ba) n2 = cnt (bf bb) m2
      · have heq : ((cnt (bf ba) n2 : Int) != (cnt (bf bb) m2 : Int)) = false := by simp; omega
        have HCC : Hid (cnt (bf ba) n2 = cnt (bf bb) m2) := hcc
        have hcn := cnt_le (bf ba) n2
        have hcm := cnt_le (bf bb) m2
        clear hcc
        go_wp2_with fail
        clear heq
        refine (cloneI _ _ _ la _ r0 (by omega) z0).mono ?_
        rintro e w1 ⟨a0', c0', rfl, o0, nz0, b1⟩
        have r1' := r1.below b1
        go_wp2_with fail
        refine (cloneI _ _ _ lb _ r1' (by omega) z1).mono ?_
        rintro e w2 ⟨a1', c1', rfl, o1, nz1, b2⟩
        have r2' := (r2.below b1).below b2
        go_wp2_with fail
        refine (cloneB _ _ _ ba _ r2' (by omega) z2).mono ?_
        rintro e w3 ⟨a2', c2', rfl, o2, nz2, b3⟩
        have r3' := ((r3.below b1).below b2).below b3
        go_wp2_with fail
        refine (cloneB _ _ _ bb _ r3' (by omega) z3).mono ?_
        rintro e w4 ⟨a3', c3', rfl, o3, nz3, b4⟩
        have s1 := b1.size
        have s2 := b2.size
        have s3 := b3.size
        have s4 := b4.size
        have p0 : Own w4 w.heap.size 21 a0' n2 c0' (iv la) := ((o0.below b2).below b3).below b4
        have p1 : Own w4 w1.heap.size 21 a1' m2 c1' (iv lb) := (o1.below b3).below b4
        have p2 : Own w4 w2.heap.size 4 a2' n2 c2' (cv (bf ba)) := o2.below b4
        have p3 : Own w4 w3.heap.size 4 a3' m2 c3' (cv (bf bb)) := o3
        have B4 : Below w.heap.size w w4 := ((b1.trans (b2.mono (by omega))).trans (b3.mono (by omega))).trans (b4.mono (by omega))
        have n02 := (own_ne2 o0 o2 (by omega)).1
        have n12 := (own_ne2 o1 o2 (by omega)).1
        have n13 := (own_ne2 o1 o3 (by omega)).1
        have n23 := own_ne2 o2 o3 (by omega)
        have ge2 := own_row_ge o2
        have ge3 := own_row_ge o3
        clear o0 o1 o2 o3 b1 b2 b3 b4 r0 r1 r2 r3 r1' r2' r3' r2c r3c z0 z1 z2 z3 nz0 nz1 nz2 nz3
        go_wp2_with fail
        refine (count_any _ _ _ _ (bf ba) _ p2.rd (Nat.le_refl _) (by omega)).mono ?_
        rintro e w' ⟨rfl, rfl⟩
        go_wp2_with fail
        refine (count_any _ _ _ _ (bf bb) _ p3.rd (Nat.le_refl _) (by omega)).mono ?_
        rintro e w' ⟨rfl, rfl⟩
        go_wp2_with fail
        refine (zzplaces _ _ _ _ _ _ _ _ _ _ _ _ la lb (bf ba) (bf bb) _ p0.rd p1.rd p2 p3 (by omega) (by omega) HCC.out n02 n12 n13 n23.2 n23.1).mono ?_
        rintro e w5 ⟨v, l, A, B, rfl, oL, hG, uA, uB, oA, oB, hK, hos, htp, hout, hsz⟩
        obtain ⟨al, cl, hv⟩ := oL.shape
        subst hv
        have B5 : Below w.heap.size w w5 := B4.trans ⟨hos, htp, hout, hsz, fun k hk => hK k (by omega) (fun e => by have := ge2 k e; omega) (fun e => by have := ge3 k e; omega)⟩
        have HA : Hid (cnt A n2 = cnt (bf ba) n2) := by unfold Hid; rw [← cnt_unm (lv la), ← cnt_unm (lv la), uA]
        have HB : Hid (cnt B m2 = cnt (bf bb) m2) := by unfold Hid; rw [← cnt_unm (lv lb), ← cnt_unm (lv lb), uB]
        have hlen := hG.len_le
        clear p0 p1 p2 p3 n02 n12 n13 n23 ge2 ge3 hK hos htp hout hsz uA uB B4
        go_wp2
        go_loopw [12, 13, 14, 15, 16] (fun v12 v13 v14 v15 v16 wr => ∃ k : Nat, k ≤ l.length ∧ v16 = .int .i64 k ∧ v12 = .int .i64 (mrk A (pe l k) : Int) ∧ v13 = .int .i64 (mrk B (pt l k) : Int) ∧ v14 = .int .i64 (pe l k : Int) ∧ v15 = .int .i64 (pt l k : Int) ∧ Below w5.heap.size w5 wr) (fun _ _ _ _ v _ => l.length - (intOf v).toNat)
        case atStart => exact ⟨0, Nat.zero_le _, rfl, rfl, rfl, rfl, rfl, Below.refl _ _⟩
        case round =>
          obtain ⟨k, hk, rfl, rfl, rfl, rfl, rfl, hb⟩ := hrel
          by_cases hlt : k < l.length
          · have g := hG.each k hlt
            rcases oL.rd with h0 | ⟨gl, ha, hcell⟩
            · omega
            obtain ⟨e0, e1, e2, e3⟩ := hcell k hlt
            have x0 := cell_later hb e0
            have x1 := cell_later hb e1
            have x2 := cell_later hb e2
            have x3 := cell_later hb e3
            have y0 := g.s0
            have y1 := g.s1
            have y2 := g.s2
            have y3 := g.t0
            have y4 := g.t1
            have y5 := g.t2
            have y6 := g.ne
            have y7 := g.gap
            have y8 := g.apart
            have HMA : Hid (mrk A (pe l (k + 1)) = mrk A (pe l k) + ((l.getD k ch0).e - (l.getD k ch0).s)) := hG.mrkA hlt
            have HMB : Hid (mrk B (pt l (k + 1)) = mrk B (pt l k) + ((l.getD k ch0).t - (l.getD k ch0).f)) := hG.mrkB hlt
            have HPE : Hid (pe l (k + 1) = (l.getD k ch0).e) := rfl
            have HPT : Hid (pt l (k + 1) = (l.getD k ch0).t) := rfl
            have kA := mrk_le A (pe l k)
            have kB := mrk_le B (pt l k)
            clear e0 e1 e2 e3 hcell g
            generalize (l.getD k ch0).s = cs at *
            generalize (l.getD k ch0).e = ce at *
            generalize (l.getD k ch0).f = cf at *
            generalize (l.getD k ch0).t = ct at *
            generalize hP : pe l k = P at *
            generalize hQ : pt l k = Q at *
            have hgp : (((cs : Int) - (P : Int)) != ((cf : Int) - (Q : Int))) = false := by simp; omega
            subst ha
            clear hP hQ y7
            have hbs := hb.size
            by_cases hse : cs = ce
            · have q1 : ((ce : Int) == (cs : Int)) = true := beq_iff_eq.2 (by omega)
              have q2 : ((ct : Int) == (cf : Int)) = false := beq_eq_false_iff_ne.2 (by omega)
              have y9 : ce ≤ cs := by omega
              have y10 : cf < ct := by omega
              by_cases hk0 : 0 < k
              · have y11 := y8 hk0
                clear hse y6 y8
                go_wp2
                go_roundw
                case rel => exact ⟨k + 1, by omega, by go_num, by rw [HMA.out]; go_num, by rw [HMB.out]; go_num, by rw [HPE.out], by rw [HPT.out], hb.alloc (by omega) _⟩
                case measure => simp [intOf]; omega
              · clear hse y6 y8
                go_wp2
                go_roundw
                case rel => exact ⟨k + 1, by omega, by go_num, by rw [HMA.out]; go_num, by rw [HMB.out]; go_num, by rw [HPE.out], by rw [HPT.out], hb.alloc (by omega) _⟩
                case measure => simp [intOf]; omega
            · have q1 : ((ce : Int) == (cs : Int)) = false := beq_eq_false_iff_ne.2 (by omega)
              have y9 : cs < ce := by omega
              by_cases hk0 : 0 < k
              · have y11 := y8 hk0
                clear hse y6 y8
                go_wp2
                go_roundw
                case rel => exact ⟨k + 1, by omega, by go_num, by rw [HMA.out]; go_num, by rw [HMB.out]; go_num, by rw [HPE.out], by rw [HPT.out], hb.alloc (by omega) _⟩
                case measure => simp [intOf]; omega
              · clear hse y6 y8
                go_wp2
                go_roundw
                case rel => exact ⟨k + 1, by omega, by go_num, by rw [HMA.out]; go_num, by rw [HMB.out]; go_num, by rw [HPE.out], by rw [HPT.out], hb.alloc (by omega) _⟩
                case measure => simp [intOf]; omega
          · obtain rfl : k = l.length := by omega
            have y0 := hG.px
            have y1 := hG.py
            have y2 := hG.gap
            have hgp : (((n2 : Int) - (pe l l.length : Int)) != ((m2 : Int) - (pt l l.length : Int))) = false := by simp; omega
            have hsa : ((mrk A (pe l l.length) : Int) == (n2 : Int) - (cnt (bf ba) n2 : Int)) = true := by
              have h1 := mrk_offs hG.px hG.offA; have h2 := cnt_mrk A n2; have h3 := HA.out
              exact beq_iff_eq.2 (by omega)
            have hsb : ((mrk B (pt l l.length) : Int) == (m2 : Int) - (cnt (bf bb) m2 : Int)) = true := by
              have h1 := mrk_offs hG.py hG.offB; have h2 := cnt_mrk B m2; have h3 := HB.out
              exact beq_iff_eq.2 (by omega)
            have rA := (oA.below hb).rd
            have rB := (oB.below hb).rd
            have rL : RdL wr al l := (OwnL.below oL hb).rd
            clear y2
            go_wp2_with fail
            refine (covers_a _ _ _ _ _ A l (pe l) _ rA rL (by omega) (by omega) hG.spansA).mono ?_
            rintro e w' ⟨rfl, rfl⟩
            go_wp2_with fail
            refine (covers_b _ _ _ _ _ B l (pt l) _ rB rL (by omega) (by omega) hG.spansB).mono ?_
            rintro e w' ⟨rfl, rfl⟩
            go_wp2
            go_ret
            exact ⟨rfl, B5.trans (hb.mono B5.size)⟩
      · have hne : ((cnt (bf ba) n2 : Int) != (cnt (bf bb) m2 : Int)) = true := by rw [bne_iff_ne]; omega
        clear hcc
        go_wp2
        go_ret
        exact ⟨rfl, Below.refl _ _⟩
    · have hne : ((m2 : Int) != (m : Int)) = true := by rw [bne_iff_ne]; omega
      subst q0
      clear q1
      go_wp2
      go_ret
      exact ⟨rfl, Below.refl _ _⟩
  · have hne : ((n2 : Int) != (n : Int)) = true := by rw [bne_iff_ne]; omega
    clear q0
    go_wp2
    go_ret
    exact ⟨rfl, Below.refl _ _⟩
end Go.Proofs.Qxb6600074a
