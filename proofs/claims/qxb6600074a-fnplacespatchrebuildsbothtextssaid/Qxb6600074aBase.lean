import Derived.Test.Qxb6600074aProg
import Derived.WalkKit
import Derived.WalkSpells
import Derived.WalkLawsBesides
namespace Go.Proofs.Qxb6600074a
open Go.RowKit

/-- A slice of n elements that is read: its i-th cell holds f i. Of an empty slice nothing is said. -/
def Rd (w : World) (a : Option Addr) (n : Nat) (f : Nat → Value) : Prop :=
  n = 0 ∨ ∃ b off, a = some ⟨b, off, none⟩ ∧ ∀ i, i < n → w.cell? ⟨b, off + i, none⟩ = some (f i)

/-- Where there is no address there is no element. -/
def NilZ (a : Option Addr) (n : Nat) : Prop := a = none → n = 0
def hasB (zs : List Int) (v : Int) : Bool := zs.contains v

def iv (zs : List Int) (i : Nat) : Value := .int .i32 (zs.getD i 0)
def bv (bs : List Bool) (i : Nat) : Value := .bool (bs.getD i false)

/-- What the call itself has made, n elements: nil, or the head of a row of its own. -/
def Own (w : World) (base : Nat) (e : TypeId) (a : Option Addr) (n c : Nat) (f : Nat → Value) : Prop :=
  w.ownsRow base e 1 (.slice a n c) n ((List.range n).map f)

theorem Own.rd {w : World} {base : Nat} {e : TypeId} {a : Option Addr} {n c : Nat} {f : Nat → Value} (h : Own w base e a n c f) : Rd w a n f := by
  rcases h.2 with ⟨h1, h2⟩ | ⟨g, cap, cur, h1, _⟩
  · exact .inl h2
  · have hh := h
    unfold Own at hh
    rw [h1] at hh
    simp only [Value.slice.injEq] at h1
    refine .inr ⟨g, 0, h1.1, fun i hi => ?_⟩
    have := hh.cellAt i (by omega)
    rw [Nat.zero_add, this]
    simp [hi]

theorem Own.congr {w : World} {base : Nat} {e : TypeId} {a : Option Addr} {n c : Nat} {f g : Nat → Value} (h : Own w base e a n c f) (hfg : ∀ i, i < n → f i = g i) : Own w base e a n c g := by
  unfold Own
  rw [show (List.range n).map g = (List.range n).map f from List.map_congr_left fun i hi => (hfg i (List.mem_range.1 hi)).symm]
  exact h

theorem Rd.congr {w : World} {a : Option Addr} {n : Nat} {f g : Nat → Value} (h : Rd w a n f) (hfg : ∀ i, i < n → f i = g i) : Rd w a n g := by
  rcases h with h | ⟨b, off, ha, hc⟩
  · exact .inl h
  · exact .inr ⟨b, off, ha, fun i hi => by rw [hc i hi, hfg i hi]⟩

theorem set_range_map (n k : Nat) (f : Nat → Value) (u : Value) : ((List.range n).map f).set k u = (List.range n).map (fun i => if i = k then u else f i) := by
  apply List.ext_getElem?
  intro j
  rw [List.getElem?_set]
  by_cases hj : j < n
  · by_cases hjk : k = j
    · subst hjk; simp [hj]
    · simp [hj, hjk, Ne.symm hjk]
  · by_cases hjk : k = j
    · subst hjk; simp [hj]
    · simp [hj, hjk]

/-- A store into one's own row. -/
theorem Own.stored {w : World} {base : Nat} {e : TypeId} {g : Nat} {n c : Nat} {f : Nat → Value} (h : Own w base e (some ⟨g, 0, none⟩) n c f) (k : Nat) (u : Value) :
    Own (w.setCell ⟨g, k, none⟩ u) base e (some ⟨g, 0, none⟩) n c (fun i => if i = k then u else f i) := by
  have := (World.ownsRow.stored h k u).1
  rw [set_range_map] at this
  exact this

theorem Own.base {w : World} {base : Nat} {e : TypeId} {g : Nat} {n c : Nat} {f : Nat → Value} (h : Own w base e (some ⟨g, 0, none⟩) n c f) : base ≤ g ∧ g < w.heap.size := World.ownsRow.lt h g rfl

theorem Own.cell {w : World} {base : Nat} {e : TypeId} {g : Nat} {n c : Nat} {f : Nat → Value} (h : Own w base e (some ⟨g, 0, none⟩) n c f) (k : Nat) (hk : k < n) : w.cell? ⟨g, k, none⟩ = some (f k) := by
  have := World.ownsRow.cellAt h k (by omega)
  rw [this]; simp [hk]

theorem Own.frozen {w : World} {base : Nat} {e : TypeId} {g : Nat} {n c : Nat} {f : Nat → Value} (h : Own w base e (some ⟨g, 0, none⟩) n c f) (k : Nat) : w.frozen? ⟨g, k, none⟩ = false := World.ownsRow.frozenAt h k

theorem Try.info21 : (Try.prog.info? 21).map (fun i => (i.zero, i.size, i.bytes)) = some (some (.int .i32 0), 1, 4) := by kernel_rfl
theorem Try.info4 : (Try.prog.info? 4).map (fun i => (i.zero, i.size, i.bytes)) = some (some (.bool false), 1, 1) := by kernel_rfl

theorem own_made {w : World} {base : Nat} {e : TypeId} {a : Option Addr} {n c : Nat} {z : Value} (h : w.ownsRow base e 1 (.slice a n c) n (madeCells #[z] n).toList) : Own w base e a n c (fun _ => z) := by
  unfold Own
  rw [toList_madeCells_one] at h
  have : (List.range n).map (fun _ => z) = List.replicate n z := by
    apply List.ext_getElem?; intro j; by_cases hj : j < n <;> simp [hj]
  rw [this]; exact h

theorem q22 : ∀ (w : World) (a : Option Addr) (n c n' c' : Nat), (binOp .eql 22 (.slice a n c) (.slice none n' c')).run Try.prog w = .ok (.bool a.isNone) w := fun w a n c n' c' => Lib.run_eql_slice_nil w _ _ a n c n' c' Try.underlying22
theorem q23 : ∀ (w : World) (a : Option Addr) (n c n' c' : Nat), (binOp .eql 23 (.slice a n c) (.slice none n' c')).run Try.prog w = .ok (.bool a.isNone) w := fun w a n c n' c' => Lib.run_eql_slice_nil w _ _ a n c n' c' Try.underlying23

theorem own_nil (w : World) (base : Nat) (e : TypeId) (f : Nat → Value) : Own w base e none 0 0 f := World.ownsRow_nil _ _ _ _

theorem Own.below {w w' : World} {base : Nat} {e : TypeId} {a : Option Addr} {n c : Nat} {f : Nat → Value} (h : Own w base e a n c f) (hb : Below w.heap.size w w') : Own w' base e a n c f := by
  obtain ⟨h1, h2⟩ := h
  refine ⟨h1, ?_⟩
  rcases h2 with h2 | ⟨g, cap, cur, hv, hg, hh, r⟩
  · exact .inl h2
  · have hlt : g < w.heap.size := by
      by_cases hlt : g < w.heap.size
      · exact hlt
      · rw [Array.getElem?_eq_none (by omega)] at hh; cases hh
    exact .inr ⟨g, cap, cur, hv, hg, by rw [hb.block g hlt]; exact hh, r⟩

theorem Own.lower {w : World} {base base' : Nat} {e : TypeId} {a : Option Addr} {n c : Nat} {f : Nat → Value} (h : Own w base e a n c f) (hb : base' ≤ base) : Own w base' e a n c f := by
  obtain ⟨h1, h2⟩ := h
  refine ⟨h1, ?_⟩
  rcases h2 with h2 | ⟨g, cap, cur, hv, hg, r⟩
  · exact .inl h2
  · exact .inr ⟨g, cap, cur, hv, Nat.le_trans hb hg, r⟩

/-- A row of one's own that is not the one that was written. -/
theorem Own.grown {w w' : World} {base : Nat} {row : Option Nat} {e : TypeId} {a : Option Addr} {n c : Nat} {f : Nat → Value} (h : Own w base e a n c f) (hg : w.grownBy w' row) (hne : ∀ x, a = some x → row ≠ some x.block) : Own w' base e a n c f := by
  refine World.ownsRow.kept h hg ?_
  cases a with
  | none => exact .inl rfl
  | some x => exact .inr (fun he => hne x rfl he.symm)

theorem Rd.below {w w' : World} {a : Option Addr} {n : Nat} {f : Nat → Value} (h : Rd w a n f) (hb : Below w.heap.size w w') : Rd w' a n f := by
  rcases h with h | ⟨b, off, ha, hc⟩
  · exact .inl h
  · exact .inr ⟨b, off, ha, fun i hi => cell_later hb (hc i hi)⟩

def rowOf (a : Option Addr) : Option Nat := a.map (·.block)
theorem rowOf_some (x : Addr) : rowOf (some x) = some x.block := rfl

/-- What was written is the named row, or a block of the call's own. -/
theorem gb_step {w wr wr' : World} {row row' : Option Nat} (h : w.grownBy wr row) (hg : wr.grownBy wr' row') (hr : ∀ k, row' = some k → row = some k ∨ w.heap.size ≤ k) : w.grownBy wr' row := by
  refine ⟨hg.os.trans h.os, hg.tape.trans h.tape, hg.output.trans h.output, Nat.le_trans h.size hg.size, fun k hk hne => ?_⟩
  rw [hg.block k (Nat.lt_of_lt_of_le hk h.size) ?_, h.block k hk hne]
  intro he
  rcases hr k he.symm with h1 | h1
  · exact hne h1.symm
  · omega

theorem gb_set (w : World) (p : Addr) (u : Value) : w.grownBy (w.setCell p u) (some p.block) :=
  ⟨rfl, rfl, rfl, by simp [World.setCell], fun k _ hne => Below.heap_setCell _ _ _ _ (fun e => hne (by rw [e]))⟩

theorem gb_below {w w' : World} (h : Below w.heap.size w w') (row : Option Nat) : w.grownBy w' row := ⟨h.os, h.tape, h.output, h.size, fun k hk _ => h.block k hk⟩

theorem gb_drew (w : World) (row : Option Nat) : w.grownBy w.drew row := ⟨rfl, rfl, rfl, Nat.le_refl _, fun _ _ _ => rfl⟩

theorem below_gb {w w' : World} {row : Option Nat} (h : w.grownBy w' row) (hr : ∀ k, row = some k → w.heap.size ≤ k) : Below w.heap.size w w' :=
  ⟨h.os, h.tape, h.output, h.size, fun k hk => h.block k hk (fun e => by have := hr k e.symm; omega)⟩

theorem Rd.grown {w w' : World} {row : Option Nat} {a : Option Addr} {n : Nat} {f : Nat → Value} (h : Rd w a n f) (hg : w.grownBy w' row) (hne : ∀ x, a = some x → row ≠ some x.block) : Rd w' a n f := by
  rcases h with h | ⟨b, off, ha, hc⟩
  · exact .inl h
  · exact .inr ⟨b, off, ha, fun i hi => hg.cell (hc i hi) (fun e => hne _ ha e.symm)⟩

theorem Own.alloc {w : World} {base : Nat} {e : TypeId} {a : Option Addr} {n c : Nat} {f : Nat → Value} (h : Own w base e a n c f) (o : Obj) : Own (w.alloc o) base e a n c f := World.ownsRow.alloc h o

theorem own_snoc {w : World} {base : Nat} {e : TypeId} {a : Option Addr} {n c : Nat} {f : Nat → Value} {u : Value} (h : w.ownsRow base e 1 (.slice a (n + 1) c) (n + 1) ((List.range n).map f ++ [u])) : Own w base e a (n + 1) c (fun i => if i < n then f i else u) := by
  unfold Own
  rw [List.range_succ, List.map_append]
  have : (List.range n).map (fun i => if i < n then f i else u) = (List.range n).map f := List.map_congr_left fun i hi => by rw [if_pos (List.mem_range.1 hi)]
  rw [this]
  simpa using h

set_option maxHeartbeats 400000 in
theorem cloneI (a : Option Addr) (cap n : Nat) (zs : List Int) (w : World) (hr : Rd w a n (iv zs)) (hn : n ≤ 1048576) (hnil : NilZ a n) :
    Calls Try.prog 11 #[.slice a n cap] w fun e w' => ∃ a' c', e = .returned (.slice a' n c') ∧ Own w' w.heap.size 21 a' n c' (iv zs) ∧ NilZ a' n ∧ Below w.heap.size w w' := by
  have q := q22
  cases a with
  | none =>
    obtain rfl := hnil rfl
    go_enter Try.func11, Try.ntmps11
    go_wp2
    go_ret
    exact ⟨none, 0, rfl, own_nil _ _ _ _, fun _ => rfl, Below.refl _ _⟩
  | some ad =>
    obtain ⟨i0, hi, hz0, hz1, hz2⟩ := info_parts Try.info21
    have hml : n ≤ maxLen := by unfold maxLen; omega
    go_enter Try.func11, Try.ntmps11
    go_wp2_with (at_make; refine wpList_make_full _ rfl _ _ 22 rfl w.heap.size 21 i0 (.int .i32 0) 1 Try.underlying22 hi hz0 hz1 _ _ _ _ n rfl rfl rfl rfl (by rw [hz2]; omega) hml (Nat.le_refl _) ?_)
    intro w1 hown0 hgrow
    have hown := own_made hown0
    have hb1 : Below w.heap.size w w1 := (Below.refl _ _).grown hgrow (Nat.le_refl _) (by intro k hk; cases hk)
    clear hown0 hgrow
    go_wp2
    go_loopw [4] (fun i wr => ∃ k : Nat, k ≤ n ∧ i = .int .i64 k ∧ Own wr w.heap.size 21 (some ⟨w.heap.size, 0, none⟩) n n (fun j => if j < k then iv zs j else .int .i32 0) ∧ Below w.heap.size w wr) (fun i _ => n - (intOf i).toNat)
    case atStart => exact ⟨0, Nat.zero_le _, rfl, hown.congr (fun i _ => by simp), hb1⟩
    case round =>
      obtain ⟨k, hk, rfl, ho, hb⟩ := hrel
      clear hown hb1
      by_cases hlt : k < n
      · rcases hr with h0 | ⟨b, off, ha, hc⟩
        · omega
        · cases ha
          have hc1 : wr.cell? ⟨b, off + k, none⟩ = some (.int .i32 (zs.getD k 0)) := (cell_later hb (hc k hlt))
          have hc2 := ho.cell k hlt
          have hf2 := ho.frozen k
          have hs := ho.stored k (.int .i32 (zs.getD k 0))
          have hB := ho.base
          clear hc
          go_wp2
          go_roundw
          case rel =>
            refine ⟨k + 1, by omega, by go_num, hs.congr (fun i _ => ?_), hb.setCell (Nat.le_refl _) _⟩
            by_cases h1 : i = k
            · subst h1; rw [if_pos rfl, if_pos (by omega)]; rfl
            · rw [if_neg h1]
              by_cases h2 : i < k
              · rw [if_pos h2, if_pos (by omega)]
              · rw [if_neg h2, if_neg (by omega)]
          case measure => simp [intOf]; omega
      · go_wp2
        go_ret
        exact ⟨_, _, rfl, ho.congr (fun i hi => by rw [if_pos (by omega)]), (fun h => by cases h), hb⟩

set_option maxHeartbeats 400000 in
theorem cloneB (a : Option Addr) (cap n : Nat) (zs : List Bool) (w : World) (hr : Rd w a n (bv zs)) (hn : n ≤ 1048576) (hnil : NilZ a n) :
    Calls Try.prog 12 #[.slice a n cap] w fun e w' => ∃ a' c', e = .returned (.slice a' n c') ∧ Own w' w.heap.size 4 a' n c' (bv zs) ∧ NilZ a' n ∧ Below w.heap.size w w' := by
  have q := q23
  cases a with
  | none =>
    obtain rfl := hnil rfl
    go_enter Try.func12, Try.ntmps12
    go_wp2
    go_ret
    exact ⟨none, 0, rfl, own_nil _ _ _ _, fun _ => rfl, Below.refl _ _⟩
  | some ad =>
    obtain ⟨i0, hi, hz0, hz1, hz2⟩ := info_parts Try.info4
    have hml : n ≤ maxLen := by unfold maxLen; omega
    go_enter Try.func12, Try.ntmps12
    go_wp2_with (at_make; refine wpList_make_full _ rfl _ _ 23 rfl w.heap.size 4 i0 (.bool false) 1 Try.underlying23 hi hz0 hz1 _ _ _ _ n rfl rfl rfl rfl (by rw [hz2]; omega) hml (Nat.le_refl _) ?_)
    intro w1 hown0 hgrow
    have hown := own_made hown0
    have hb1 : Below w.heap.size w w1 := (Below.refl _ _).grown hgrow (Nat.le_refl _) (by intro k hk; cases hk)
    clear hown0 hgrow
    go_wp2
    go_loopw [4] (fun i wr => ∃ k : Nat, k ≤ n ∧ i = .int .i64 k ∧ Own wr w.heap.size 4 (some ⟨w.heap.size, 0, none⟩) n n (fun j => if j < k then bv zs j else .bool false) ∧ Below w.heap.size w wr) (fun i _ => n - (intOf i).toNat)
    case atStart => exact ⟨0, Nat.zero_le _, rfl, hown.congr (fun i _ => by simp), hb1⟩
    case round =>
      obtain ⟨k, hk, rfl, ho, hb⟩ := hrel
      clear hown hb1
      by_cases hlt : k < n
      · rcases hr with h0 | ⟨b, off, ha, hc⟩
        · omega
        · cases ha
          have hc1 : wr.cell? ⟨b, off + k, none⟩ = some (.bool (zs.getD k false)) := (cell_later hb (hc k hlt))
          have hc2 := ho.cell k hlt
          have hf2 := ho.frozen k
          have hs := ho.stored k (.bool (zs.getD k false))
          have hB := ho.base
          clear hc
          go_wp2
          go_roundw
          case rel =>
            refine ⟨k + 1, by omega, by go_num, hs.congr (fun i _ => ?_), hb.setCell (Nat.le_refl _) _⟩
            by_cases h1 : i = k
            · subst h1; rw [if_pos rfl, if_pos (by omega)]; rfl
            · rw [if_neg h1]
              by_cases h2 : i < k
              · rw [if_pos h2, if_pos (by omega)]
              · rw [if_neg h2, if_neg (by omega)]
          case measure => simp [intOf]; omega
      · go_wp2
        go_ret
        exact ⟨_, _, rfl, ho.congr (fun i hi => by rw [if_pos (by omega)]), (fun h => by cases h), hb⟩


set_option maxHeartbeats 400000 in
theorem bytes9 (a0 a1 a2 : Option Addr) (n0 c0 n1 c1 n2 c2 : Nat) (w : World) :
    Calls Try.prog 9 #[.slice a0 n0 c0, .slice a1 n1 c1, .slice a2 n2 c2] w fun e w' => ∃ r, e = .returned (.bool r) ∧ w = w' := by
  go_enter Try.func9, Try.ntmps9
  go_wp2
  all_goals (go_ret; exact ⟨_, rfl, rfl⟩)

theorem ret_bool {a b : Bool} (h : a = b) : Ending.returned (.bool a) = .returned (.bool b) := by rw [h]

theorem has_take_succ (zs : List Int) (v : Int) (k : Nat) (hk : k < zs.length) : hasB (zs.take (k + 1)) v = (hasB (zs.take k) v || zs[k]?.getD 0 == v) := by
  unfold hasB
  rw [List.take_succ_eq_append_getElem hk, List.contains_append]
  by_cases h : v = zs[k]
  · subst h; simp [hk]
  · simp [hk, h, Ne.symm h]

theorem has_of (zs : List Int) (v : Int) (k : Nat) (hk : k < zs.length) (h : (zs[k]?.getD 0 == v) = true) : hasB zs v = true := by
  unfold hasB
  simp [hk] at h
  simp only [List.contains_iff_mem]
  rw [← h]; exact List.getElem_mem _

set_option maxHeartbeats 400000 in
theorem occurs (v : Int) (a : Option Addr) (n c : Nat) (zs : List Int) (w : World) (hl : zs.length = n) (hr : Rd w a n (iv zs)) (hn : n ≤ 1048576) :
    Calls Try.prog 14 #[.int .i32 v, .slice a n c] w fun e w' => e = .returned (.bool (hasB zs v)) ∧ w = w' := by
  have HL : Hid (zs.length = n) := hl
  clear hl
  go_enter Try.func14, Try.ntmps14
  go_wp2
  go_loop [5] (fun i => ∃ k : Nat, k ≤ n ∧ i = .int .i64 k ∧ hasB (zs.take k) v = false) (fun i => n - (intOf i).toNat)
  case atStart => exact ⟨0, Nat.zero_le _, rfl, rfl⟩
  case round =>
    obtain ⟨k, hk, rfl, hno⟩ := hrel
    have HN : Hid (hasB (zs.take k) v = false) := hno
    clear hno
    by_cases hlt : k < n
    · rcases hr with h0 | ⟨b, off, ha, hc⟩
      · omega
      · subst ha
        have hc1 : w.cell? ⟨b, off + k, none⟩ = some (.int .i32 (zs.getD k 0)) := hc k hlt
        clear hc
        go_wp2
        · have h : (zs[k]?.getD 0 == v) = true := by assumption
          go_ret
          exact ⟨ret_bool (has_of zs v k (by have := HL.out; omega) h).symm, rfl⟩
        · have h : (zs[k]?.getD 0 == v) = false := by assumption
          go_round
          case rel => exact ⟨k + 1, by omega, by go_num, by rw [has_take_succ _ _ _ (by have := HL.out; omega), HN.out, h]; rfl⟩
          case measure => simp [intOf]; omega
    · go_wp2
      go_ret
      exact ⟨ret_bool (by rw [← HN.out, List.take_of_length_le (by have := HL.out; omega)]), rfl⟩

end Go.Proofs.Qxb6600074a
