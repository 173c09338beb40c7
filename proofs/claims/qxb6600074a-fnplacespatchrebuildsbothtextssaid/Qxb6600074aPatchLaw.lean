import Derived.Test.Qxb6600074aUnm
namespace Go.Proofs.Qxb6600074a
open Go.RowKit
set_option linter.unusedVariables false

def bf (bs : List Bool) (i : Nat) : Bool := bs.getD i false

theorem own_ne2 {w w' : World} {base base' : Nat} {e e' : TypeId} {a a' : Option Addr} {n c n' c' : Nat} {f f' : Nat → Value} (h : Own w base e a n c f) (h' : Own w' base' e' a' n' c' f') (hb : w.heap.size ≤ base') : (∀ x, a = some x → rowOf a' ≠ some x.block) ∧ (∀ x, a' = some x → rowOf a ≠ some x.block) := by
  constructor
  · intro x hx he
    subst hx
    have h1 := World.ownsRow.lt h x.block rfl
    cases a' with
    | none => cases he
    | some y =>
      have h2 := World.ownsRow.lt h' y.block rfl
      simp [rowOf] at he
      omega
  · intro x hx he
    subst hx
    have h1 := World.ownsRow.lt h' x.block rfl
    cases a with
    | none => cases he
    | some y =>
      have h2 := World.ownsRow.lt h y.block rfl
      simp [rowOf] at he
      omega

theorem own_row_ge {w : World} {base : Nat} {e : TypeId} {a : Option Addr} {n c : Nat} {f : Nat → Value} (h : Own w base e a n c f) : ∀ k, rowOf a = some k → base ≤ k := by
  intro k hk
  cases a with
  | none => cases hk
  | some x => have := World.ownsRow.lt h x.block rfl; simp [rowOf] at hk; omega

theorem OwnL.below {w w' : World} {base : Nat} {v : Value} {l : List Ch} (h : OwnL w base v l) (hb : Below w.heap.size w w') : OwnL w' base v l := by
  obtain ⟨h1, h2⟩ := h
  refine ⟨h1, ?_⟩
  rcases h2 with h2 | ⟨g, cap, cur, hv, hg, hh, r⟩
  · exact .inl h2
  · have hlt : g < w.heap.size := by
      by_cases hlt : g < w.heap.size
      · exact hlt
      · rw [Array.getElem?_eq_none (by omega)] at hh; cases hh
    exact .inr ⟨g, cap, cur, hv, hg, by rw [hb.block g hlt]; exact hh, r⟩

/-- A forward patch. -/
theorem joins_f {A B : Nat → Bool} {l : List Ch} {n m : Nat} {La Lb : Nat → Int} (h : Good A B l n m) (hu : unm La A n = unm Lb B m) : Joins La Lb n m l.length (pe l) (fun k => (l.getD k ch0).s) (fun k => (l.getD k ch0).e) (pt l) (fun k => (l.getD k ch0).f) (fun k => (l.getD k ch0).t) :=
  ⟨rfl, rfl, fun _ => rfl, fun _ => rfl, fun k hk => (h.each k hk).s0, fun k hk => (h.each k hk).s1, fun k hk => (h.each k hk).s2, fun k hk => (h.each k hk).t0, fun k hk => (h.each k hk).t1, fun k hk => (h.each k hk).t2, fun k hk => (h.each k hk).gap,
    fun k hk i hi => h.same hu (Nat.le_of_lt hk) (fun _ => hi) (fun e => by omega), h.px, h.py, h.gap, fun i hi => h.same hu (Nat.le_refl _) (fun e => by omega) (fun _ => hi)⟩
/-- The same read backwards. -/
theorem joins_b {A B : Nat → Bool} {l : List Ch} {n m : Nat} {La Lb : Nat → Int} (h : Good A B l n m) (hu : unm La A n = unm Lb B m) : Joins Lb La m n l.length (pt l) (fun k => (l.getD k ch0).f) (fun k => (l.getD k ch0).t) (pe l) (fun k => (l.getD k ch0).s) (fun k => (l.getD k ch0).e) :=
  ⟨rfl, rfl, fun _ => rfl, fun _ => rfl, fun k hk => (h.each k hk).t0, fun k hk => (h.each k hk).t1, fun k hk => (h.each k hk).t2, fun k hk => (h.each k hk).s0, fun k hk => (h.each k hk).s1, fun k hk => (h.each k hk).s2, fun k hk => (h.each k hk).gap.symm,
    fun k hk i hi => (h.same hu (Nat.le_of_lt hk) (fun _ => by have := (h.each k hk).gap; have := (h.each k hk).s0; have := (h.each k hk).t0; omega) (fun e => by omega)).symm, h.py, h.px, h.gap.symm,
    fun i hi => (h.same hu (Nat.le_refl _) (fun e => by omega) (fun _ => by have := h.gap; have := h.px; have := h.py; omega)).symm⟩

/-- A slice whose block has not turned. -/
theorem rd_kept {w w' : World} {a : Option Addr} {n : Nat} {f : Nat → Value} (h : Rd w a n f) (hk : ∀ k, k < w.heap.size → ∀ x : Addr, a = some x → x.block = k → w'.heap[k]? = w.heap[k]?) : Rd w' a n f := by
  rcases h with h | ⟨b, off, ha, hc⟩
  · exact .inl h
  · refine .inr ⟨b, off, ha, fun i hi => ?_⟩
    have hlt : b < w.heap.size := World.block_lt_of_cell? _ _ (hc i hi)
    rw [← hc i hi]
    exact World.cell?_of_block (w := w) (hk b hlt _ ha rfl)
theorem rdl_below {w w' : World} {a : Option Addr} {l : List Ch} (h : RdL w a l) (hb : Below w.heap.size w w') : RdL w' a l := by
  rcases h with h | ⟨g, ha, hc⟩
  · exact .inl h
  · refine .inr ⟨g, ha, fun k hk => ?_⟩
    obtain ⟨e0, e1, e2, e3⟩ := hc k hk
    exact ⟨cell_later hb e0, cell_later hb e1, cell_later hb e2, cell_later hb e3⟩

set_option maxRecDepth 100000 in
set_option maxHeartbeats 2000000 in
theorem walk8 (a0 a1 a2 a3 : Option Addr) (n c0 m c1 n2 c2 m2 c3 : Nat) (la lb : List Int) (ba bb : List Bool) (w : World) (r0 : Rd w a0 n (iv la)) (r1 : Rd w a1 m (iv lb)) (r2 : Rd w a2 n2 (bv ba)) (r3 : Rd w a3 m2 (bv bb))
    (z0 : NilZ a0 n) (z1 : NilZ a1 m) (z2 : NilZ a2 n2) (z3 : NilZ a3 m2) (m0 : n ≤ maxLen) (m1 : m ≤ maxLen) (m2' : n2 ≤ maxLen) (m3 : m2 ≤ maxLen) :
    Calls Try.prog 8 #[.slice a0 n c0, .slice a1 m c1, .slice a2 n2 c2, .slice a3 m2 c3] w fun e w' => e = .returned (.bool true) ∧ Below w.heap.size w w' := by
  unfold maxLen at m0 m1 m2' m3
  go_enter Try.func8, Try.ntmps8
  go_wp2_with fail
  refine (bytes27 _ _ _ _ _ _ _ _ _ _ _ _ _).mono ?_
  rintro e w' ⟨r, rfl, rfl⟩
  cases r with
  | false =>
    go_wp2
    go_ret
    exact ⟨rfl, Below.refl _ _⟩
  | true =>
  by_cases g0 : 65536 < n
  · go_wp2
    go_ret
    exact ⟨rfl, Below.refl _ _⟩
  by_cases g1 : 65536 < m
  · go_wp2
    go_ret
    exact ⟨rfl, Below.refl _ _⟩
  by_cases g2 : 65536 < n2
  · go_wp2
    go_ret
    exact ⟨rfl, Below.refl _ _⟩
  by_cases g3 : 65536 < m2
  · go_wp2
    go_ret
    exact ⟨rfl, Below.refl _ _⟩
  have d0 : decide ((65536 : Int) < (n : Int)) = false := decide_eq_false (by omega)
  have d1 : decide ((65536 : Int) < (m : Int)) = false := decide_eq_false (by omega)
  have d2 : decide ((65536 : Int) < (n2 : Int)) = false := decide_eq_false (by omega)
  have d3 : decide ((65536 : Int) < (m2 : Int)) = false := decide_eq_false (by omega)
  by_cases q0 : n2 = n
  · by_cases q1 : m2 = m
    · subst q0
      subst q1
      have r2c : Rd w a2 n2 (cv (bf ba)) := r2
      have r3c : Rd w a3 m2 (cv (bf bb)) := r3
      go_wp2_with fail
      clear d0 d1 d2 d3
      refine (unm_any _ _ _ _ _ _ _ _ _ _ la lb (bf ba) (bf bb) _ r0 r2c r1 r3c (by omega) (by omega)).mono ?_
      rintro e w0 ⟨r, q0, rfl, rfl, hu⟩
      cases r with
      | false =>
        go_wp2
        go_ret
        exact ⟨rfl, below_drewN (Below.refl _ _) _⟩
      | true =>
        have HU : Hid (unm (lv la) (bf ba) n2 = unm (lv lb) (bf bb) m2) := hu rfl
        have HCC : Hid (cnt (bf ba) n2 = cnt (bf bb) m2) := by unfold Hid; rw [← cnt_unm (lv la), ← cnt_unm (lv lb), HU.out]
        clear hu
        have B0 : Below w.heap.size w (w.drewN q0) := below_drewN (Below.refl _ _) _
        have r0' : Rd (w.drewN q0) a0 n2 (iv la) := r0
        have r1' : Rd (w.drewN q0) a1 m2 (iv lb) := r1
        have r2' : Rd (w.drewN q0) a2 n2 (bv ba) := r2
        have r3' : Rd (w.drewN q0) a3 m2 (bv bb) := r3
        have hsz0 : (w.drewN q0).heap.size = w.heap.size := rfl
        generalize w.drewN q0 = wx at *
        clear r0 r1 r2 r3 r2c r3c
        have r0 := r0'
        have r1 := r1'
        have r2 := r2'
        have r3 := r3'
        clear r0' r1' r2' r3'
        go_wp2_with fail
        refine (cloneI _ _ _ la _ r0 (by omega) z0).mono ?_
        rintro e w1 ⟨a0', c0', rfl, o0, nz0, b1⟩
        have r1' := r1.below b1
        go_wp2_with fail
        refine (cloneI _ _ _ lb _ r1' (by omega) z1).mono ?_
        rintro e w2 ⟨a1', c1', rfl, o1, nz1, b2⟩
        have r2' := (r2.below b1).below b2
        go_wp2_with fail
        refine (cloneB _ _ _ ba _ r2' (by omega) z2).mono ?_
        rintro e w3 ⟨a2', c2', rfl, o2, nz2, b3⟩
        have r3' := ((r3.below b1).below b2).below b3
        go_wp2_with fail
        refine (cloneB _ _ _ bb _ r3' (by omega) z3).mono ?_
        rintro e w4 ⟨a3', c3', rfl, o3, nz3, b4⟩
        have s1 := b1.size
        have s2 := b2.size
        have s3 := b3.size
        have s4 := b4.size
        have p0 : Own w4 wx.heap.size 21 a0' n2 c0' (iv la) := ((o0.below b2).below b3).below b4
        have p1 : Own w4 w1.heap.size 21 a1' m2 c1' (iv lb) := (o1.below b3).below b4
        have p2 : Own w4 w2.heap.size 4 a2' n2 c2' (cv (bf ba)) := o2.below b4
        have p3 : Own w4 w3.heap.size 4 a3' m2 c3' (cv (bf bb)) := o3
        have B4 : Below w.heap.size w w4 := B0.trans ((((b1.trans (b2.mono (by omega))).trans (b3.mono (by omega))).trans (b4.mono (by omega))).mono (by omega))
        have n02 := (own_ne2 o0 o2 (by omega)).1
        have n12 := (own_ne2 o1 o2 (by omega)).1
        have n13 := (own_ne2 o1 o3 (by omega)).1
        have n23 := own_ne2 o2 o3 (by omega)
        have n03 := own_ne2 o0 o3 (by omega)
        have ge2 := own_row_ge o2
        have ge3 := own_row_ge o3
        clear o0 o1 o2 o3 b1 b2 b3 b4 r0 r1 r2 r3 r1' r2' r3' z0 z1 z2 z3 nz0 nz1 nz2 nz3
        go_wp2_with fail
        refine (zzplaces _ _ _ _ _ _ _ _ _ _ _ _ la lb (bf ba) (bf bb) _ p0.rd p1.rd p2 p3 (by omega) (by omega) HCC.out n02 n12 n13 n23.2 n23.1).mono ?_
        rintro e w5 ⟨v, l, A, B, rfl, oL, hG, uA, uB, oA, oB, hK, hos, htp, hout, hsz⟩
        obtain ⟨al, cl, hv⟩ := oL.shape
        subst hv
        have B5 : Below w.heap.size w w5 := B4.trans ⟨hos, htp, hout, hsz, fun k hk => hK k (by omega) (fun e => by have := ge2 k e; omega) (fun e => by have := ge3 k e; omega)⟩
        have hUU : unm (lv la) A n2 = unm (lv lb) B m2 := by rw [uA, uB]; exact HU.out
        have hJ : Joins (lv la) (lv lb) n2 m2 l.length (pe l) (fun k => (l.getD k ch0).s) (fun k => (l.getD k ch0).e) (pt l) (fun k => (l.getD k ch0).f) (fun k => (l.getD k ch0).t) := joins_f hG hUU
        have hJ' : Joins (lv lb) (lv la) m2 n2 l.length (pt l) (fun k => (l.getD k ch0).f) (fun k => (l.getD k ch0).t) (pe l) (fun k => (l.getD k ch0).s) (fun k => (l.getD k ch0).e) := joins_b hG hUU
        have hlen := hG.len_le
        have t0 : Rd w5 a0' n2 (fun i => .int .i32 (lv la i)) := rd_kept p0.rd (fun k hk x e hx => hK k hk (fun h => n02 _ e (by rw [hx]; exact h)) (fun h => n03.1 _ e (by rw [hx]; exact h)))
        have t1 : Rd w5 a1' m2 (fun i => .int .i32 (lv lb i)) := rd_kept p1.rd (fun k hk x e hx => hK k hk (fun h => n12 _ e (by rw [hx]; exact h)) (fun h => n13 _ e (by rw [hx]; exact h)))
        have tL := oL.rd
        clear p0 p1 p2 p3 n02 n12 n13 n23 n03 ge2 ge3 hK hos htp hout hsz uA uB B4 oA oB oL hG hUU
        go_wp2_with fail
        refine (rebuild_f _ _ _ _ _ _ _ _ (lv la) (lv lb) l (pe l) (pt l) _ t0 t1 tL (by omega) (by omega) (by omega) hJ).mono ?_
        rintro e w6 ⟨rfl, o6, b6⟩
        have u1 := t1.below b6
        have u0 := t0.below b6
        have uL := rdl_below tL b6
        have s6 := b6.size
        have B6 : Below w.heap.size w w6 := B5.trans (b6.mono B5.size)
        clear t0 t1 tL b6 B5
        go_wp2_with fail
        refine (same_any _ _ _ _ _ (lv lb) _ o6.rd u1 (by omega)).mono ?_
        rintro e w7 ⟨rfl, q7, rfl⟩
        go_wp2_with fail
        refine (rebuild_b _ _ _ _ _ _ _ _ (lv lb) (lv la) l (pt l) (pe l) (w6.drewN q7) u1 u0 uL (by omega) (by omega) (by omega) hJ').mono ?_
        rintro e w8 ⟨rfl, o8, b8⟩
        have v0 := Rd.below (w := w6.drewN q7) u0 b8
        have B8 : Below w.heap.size w w8 := (below_drewN B6 q7).trans (b8.mono (below_drewN B6 q7).size)
        clear u0 u1 uL b8 B6 o6
        go_wp2_with fail
        refine (same_any _ _ _ _ _ (lv la) _ o8.rd v0 (by omega)).mono ?_
        rintro e w9 ⟨rfl, q9, rfl⟩
        go_wp2
        go_ret
        exact ⟨rfl, below_drewN B8 _⟩
    · have hne : ((m2 : Int) != (m : Int)) = true := by rw [bne_iff_ne]; omega
      subst q0
      clear q1
      go_wp2
      go_ret
      exact ⟨rfl, Below.refl _ _⟩
  · have hne : ((n2 : Int) != (n : Int)) = true := by rw [bne_iff_ne]; omega
    clear q0
    go_wp2
    go_ret
    exact ⟨rfl, Below.refl _ _⟩
end Go.Proofs.Qxb6600074a
