import Derived.Test.Qxb6601298aRecLaw
namespace Go.Proofs.Qxb6601298a
open Go.RowKit
set_option linter.unusedVariables false

theorem Try.info5 : (Try.prog.info? 5).map (fun i => (i.zero, i.size, i.bytes)) = some (some (.int .u8 0), 1, 1) := by kernel_rfl

theorem own_made {w : World} {base g n : Nat} (h : w.ownsRow base 5 1 (.slice (some ⟨g, 0, none⟩) n n) n (madeCells #[.int .u8 0] n).toList) : Own w base g n (fun _ => 0) := by
  unfold Own
  rw [toList_madeCells_one] at h
  have : (List.range n).map (fun i => Value.int .u8 (((fun _ => 0 : Nat → Nat) i : Nat) : Int)) = List.replicate n (.int .u8 0) := by
    apply List.ext_getElem?; intro j; by_cases hj : j < n <;> simp [hj]
  rw [this]; exact h

set_option maxHeartbeats 400000 in
theorem bytes21 (v0 v1 v2 v3 v4 v5 v6 v7 v8 v9 v10 : Value) (s : ByteArray) (hs : s.size ≤ maxLen) (w : World) :
    Calls Try.prog 21 #[v0, v1, v2, v3, v4, v5, v6, v7, v8, v9, v10, .string s] w fun e w' => ∃ r, e = .returned (.bool r) ∧ w = w' := by
  unfold maxLen at hs
  go_enter Try.func21, Try.ntmps21
  go_wp2
  all_goals (go_ret; exact ⟨_, rfl, rfl⟩)

/-- The record, laid down. -/
def rec38 (p0 p1 p2 p3 p4 p5 p6 p7 p8 p9 p10 : Nat) : Nat → Nat :=
  put (put (upd (put (put (upd (put (put (put (put (put (fun _ => 0) 0 p0) 4 p1) 8 p2) 12 p3) 16 p4) 20 p5) 21 p6) 25 p7) 29 p8) 30 p9) 34 p10

theorem upd_lt {F : Nat → Nat} (hF : ∀ i, F i < 256) {k b : Nat} (hb : b < 256) : ∀ i, upd F k b i < 256 := by
  intro i; unfold upd; split
  · exact hb
  · exact hF i
theorem put_lt {F : Nat → Nat} (hF : ∀ i, F i < 256) {k v : Nat} (hv : v < 4294967296) : ∀ i, put F k v i < 256 := by
  unfold put
  exact upd_lt (upd_lt (upd_lt (upd_lt hF (by omega)) (by omega)) (by omega)) (by omega)

theorem node_val (p0 p1 p2 p3 p4 p5 p6 p7 p8 p9 p10 : Nat) (s : ByteArray) (h0 : p0 < 4294967296) (h1 : p1 < 4294967296) (h2 : p2 < 4294967296) (h3 : p3 < 4294967296) (h4 : p4 < 4294967296) (h5 : p5 < 256) (h6 : p6 < 4294967296) (h7 : p7 < 4294967296) (h8 : p8 < 256) (h9 : p9 < 4294967296) (h10 : p10 < 4294967296) :
    nodeV (strOfNums ((List.range 38).map (fun i => (rec38 p0 p1 p2 p3 p4 p5 p6 p7 p8 p9 p10 i : Int))) ++ s) = .agg #[.int .u32 (p0 : Int), .int .u32 (p1 : Int), .int .u32 (p2 : Int), .int .u32 (p3 : Int), .int .u32 (p4 : Int), .int .u8 (p5 : Int), .int .u32 (p6 : Int), .int .u32 (p7 : Int), .int .u8 (p8 : Int), .int .u32 (p9 : Int), .int .u32 (p10 : Int)] := by
  have hlt : ∀ i, rec38 p0 p1 p2 p3 p4 p5 p6 p7 p8 p9 p10 i < 256 := by
    unfold rec38
    exact put_lt (put_lt (upd_lt (put_lt (put_lt (upd_lt (put_lt (put_lt (put_lt (put_lt (put_lt (fun _ => by omega) h0) h1) h2) h3) h4) h5) h6) h7) h8) h9) h10
  have hb : ∀ i, i < 38 → by8 (strOfNums ((List.range 38).map (fun i => (rec38 p0 p1 p2 p3 p4 p5 p6 p7 p8 p9 p10 i : Int))) ++ s) i = rec38 p0 p1 p2 p3 p4 p5 p6 p7 p8 p9 p10 i := fun i hi => by8_row _ 38 s i hi (hlt i)
  generalize strOfNums ((List.range 38).map (fun i => (rec38 p0 p1 p2 p3 p4 p5 p6 p7 p8 p9 p10 i : Int))) ++ s = r at hb
  unfold nodeV
  rw [le_of r 0 p0, le_of r 4 p1, le_of r 8 p2, le_of r 12 p3, le_of r 16 p4, le_of r 21 p6, le_of r 25 p7, le_of r 30 p9, le_of r 34 p10, hb 20 (by omega), hb 29 (by omega)]
  · simp [rec38, put, upd]
  all_goals (rw [hb _ (by omega)]; simp [rec38, put, upd])

set_option maxRecDepth 100000 in
set_option maxHeartbeats 2000000 in
theorem walk8 (p0 p1 p2 p3 p4 p5 p6 p7 p8 p9 p10 : Nat) (s : ByteArray) (hs : s.size ≤ maxLen) (h0 : p0 < 4294967296) (h1 : p1 < 4294967296) (h2 : p2 < 4294967296) (h3 : p3 < 4294967296) (h4 : p4 < 4294967296) (h5 : p5 < 256) (h6 : p6 < 4294967296) (h7 : p7 < 4294967296) (h8 : p8 < 256) (h9 : p9 < 4294967296) (h10 : p10 < 4294967296) (w : World) :
    Calls Try.prog 8 #[.int .u32 (p0 : Int), .int .u32 (p1 : Int), .int .u32 (p2 : Int), .int .u32 (p3 : Int), .int .u32 (p4 : Int), .int .u8 (p5 : Int), .int .u32 (p6 : Int), .int .u32 (p7 : Int), .int .u8 (p8 : Int), .int .u32 (p9 : Int), .int .u32 (p10 : Int), .string s] w fun e w' => e = .returned (.bool true) ∧ Below w.heap.size w w' := by
  have hs' := hs
  unfold maxLen at hs
  obtain ⟨i5, hi5, hz50, hz51, hz52⟩ := info_parts Try.info5
  go_enter Try.func8, Try.ntmps8
  go_wp2_with fail
  refine (bytes21 _ _ _ _ _ _ _ _ _ _ _ s hs' _).mono ?_
  rintro e w' ⟨r, rfl, rfl⟩
  cases r with
  | false =>
    go_wp2
    go_ret
    exact ⟨rfl, Below.refl _ _⟩
  | true =>
  by_cases hbig : 65536 < s.size
  · go_wp2
    go_ret
    exact ⟨rfl, Below.refl _ _⟩
  go_wp2_with (at_make; refine wpList_make_full _ rfl _ _ 32 rfl w.heap.size 5 i5 (.int .u8 0) 1 Try.underlying32 hi5 hz50 hz51 _ _ _ _ 38 rfl rfl rfl rfl (by rw [hz52]; omega) (by unfold maxLen; omega) (Nat.le_refl _) ?_)
  intro w1 hown0 hgrow
  have o := own_made hown0
  have B : Below w.heap.size w w1 := (Below.refl _ _).grown hgrow (Nat.le_refl _) (by intro k hk; cases hk)
  clear hown0 hgrow
  go_wp2_with fail
  refine (put_any w.heap.size w.heap.size 38 0 p0 _ _ _ o rfl (by omega) (by omega) h0).mono ?_
  rintro e w2 ⟨rfl, o', g'⟩
  have B' : Below w.heap.size w w2 := B.grown g' B.size (by intro k hk; cases hk; omega)
  clear o B g'
  have o := o'
  have B := B'
  clear o' B'
  go_wp2_with fail
  refine (put_any w.heap.size w.heap.size 38 4 p1 _ _ _ o rfl (by omega) (by omega) h1).mono ?_
  rintro e w3 ⟨rfl, o', g'⟩
  have B' : Below w.heap.size w w3 := B.grown g' B.size (by intro k hk; cases hk; omega)
  clear o B g'
  have o := o'
  have B := B'
  clear o' B'
  go_wp2_with fail
  refine (put_any w.heap.size w.heap.size 38 8 p2 _ _ _ o rfl (by omega) (by omega) h2).mono ?_
  rintro e w4 ⟨rfl, o', g'⟩
  have B' : Below w.heap.size w w4 := B.grown g' B.size (by intro k hk; cases hk; omega)
  clear o B g'
  have o := o'
  have B := B'
  clear o' B'
  go_wp2_with fail
  refine (put_any w.heap.size w.heap.size 38 12 p3 _ _ _ o rfl (by omega) (by omega) h3).mono ?_
  rintro e w5 ⟨rfl, o', g'⟩
  have B' : Below w.heap.size w w5 := B.grown g' B.size (by intro k hk; cases hk; omega)
  clear o B g'
  have o := o'
  have B := B'
  clear o' B'
  go_wp2_with fail
  refine (put_any w.heap.size w.heap.size 38 16 p4 _ _ _ o rfl (by omega) (by omega) h4).mono ?_
  rintro e w6 ⟨rfl, o', g'⟩
  have B' : Below w.heap.size w w6 := B.grown g' B.size (by intro k hk; cases hk; omega)
  clear o B g'
  have o := o'
  have B := B'
  clear o' B'
  have c20 := o.cell 20 (by omega)
  have f20 := o.frozen 20
  have o' := o.upd 20 p5
  have B' : Below w.heap.size w (w6.setCell ⟨w.heap.size, 20, none⟩ (.int .u8 (p5 : Int))) := B.setCell (Nat.le_refl _) _
  go_wp2_with fail
  clear c20 f20 o B
  generalize w6.setCell ⟨w.heap.size, 20, none⟩ (.int .u8 (p5 : Int)) = w7 at o' B' ⊢
  have o := o'
  have B := B'
  clear o' B'
  go_wp2_with fail
  refine (put_any w.heap.size w.heap.size 38 21 p6 _ _ _ o rfl (by omega) (by omega) h6).mono ?_
  rintro e w8 ⟨rfl, o', g'⟩
  have B' : Below w.heap.size w w8 := B.grown g' B.size (by intro k hk; cases hk; omega)
  clear o B g'
  have o := o'
  have B := B'
  clear o' B'
  go_wp2_with fail
  refine (put_any w.heap.size w.heap.size 38 25 p7 _ _ _ o rfl (by omega) (by omega) h7).mono ?_
  rintro e w9 ⟨rfl, o', g'⟩
  have B' : Below w.heap.size w w9 := B.grown g' B.size (by intro k hk; cases hk; omega)
  clear o B g'
  have o := o'
  have B := B'
  clear o' B'
  have c29 := o.cell 29 (by omega)
  have f29 := o.frozen 29
  have o' := o.upd 29 p8
  have B' : Below w.heap.size w (w9.setCell ⟨w.heap.size, 29, none⟩ (.int .u8 (p8 : Int))) := B.setCell (Nat.le_refl _) _
  go_wp2_with fail
  clear c29 f29 o B
  generalize w9.setCell ⟨w.heap.size, 29, none⟩ (.int .u8 (p8 : Int)) = w10 at o' B' ⊢
  have o := o'
  have B := B'
  clear o' B'
  go_wp2_with fail
  refine (put_any w.heap.size w.heap.size 38 30 p9 _ _ _ o rfl (by omega) (by omega) h9).mono ?_
  rintro e w11 ⟨rfl, o', g'⟩
  have B' : Below w.heap.size w w11 := B.grown g' B.size (by intro k hk; cases hk; omega)
  clear o B g'
  have o := o'
  have B := B'
  clear o' B'
  go_wp2_with fail
  refine (put_any w.heap.size w.heap.size 38 34 p10 _ _ _ o rfl (by omega) (by omega) h10).mono ?_
  rintro e w12 ⟨rfl, o', g'⟩
  have B' : Below w.heap.size w w12 := B.grown g' B.size (by intro k hk; cases hk; omega)
  clear o B g'
  have o := o'
  have B := B'
  clear o' B'
  change Own w12 w.heap.size w.heap.size 38 (rec38 p0 p1 p2 p3 p4 p5 p6 p7 p8 p9 p10) at o
  have hcv := run_convert_bytes_arg (P := Try.prog) w12 32 5 Try.underlying32 Try.underlying5 w.heap.size 0 38 38 ((List.range 38).map (fun i => (rec38 p0 p1 p2 p3 p4 p5 p6 p7 p8 p9 p10 i : Int))) (by simp) (fun i hi => by rw [Nat.zero_add, o.cell i hi]; simp [hi]) 9 Try.underlying9
  obtain ⟨R, hR⟩ : ∃ R, strOfNums ((List.range 38).map (fun i => (rec38 p0 p1 p2 p3 p4 p5 p6 p7 p8 p9 p10 i : Int))) = R := ⟨_, rfl⟩
  rw [hR] at hcv
  have HR : Hid (strOfNums ((List.range 38).map (fun i => (rec38 p0 p1 p2 p3 p4 p5 p6 p7 p8 p9 p10 i : Int))) = R) := hR
  have hRs : R.size = 38 := by rw [← hR, strOfNums_size]; simp
  clear hR
  go_wp2_with fail
  have hsz : (R ++ s).size = 38 + s.size := by rw [ByteArray.size_append, hRs]
  refine (zznode_any (R ++ s) _ (by omega) (by omega)).mono ?_
  rintro e w13 ⟨rfl, hb⟩
  have hv : nodeV (R ++ s) = .agg #[.int .u32 (p0 : Int), .int .u32 (p1 : Int), .int .u32 (p2 : Int), .int .u32 (p3 : Int), .int .u32 (p4 : Int), .int .u8 (p5 : Int), .int .u32 (p6 : Int), .int .u32 (p7 : Int), .int .u8 (p8 : Int), .int .u32 (p9 : Int), .int .u32 (p10 : Int)] := by
    rw [← HR.out]; exact node_val p0 p1 p2 p3 p4 p5 p6 p7 p8 p9 p10 s h0 h1 h2 h3 h4 h5 h6 h7 h8 h9 h10
  rw [hv]
  have B13 : Below w.heap.size w w13 := B.trans (hb.mono B.size)
  clear hb B o hcv hv hsz
  go_wp2
  go_ret
  exact ⟨rfl, below_alloc B13⟩
end Go.Proofs.Qxb6601298a
