import Derived.Test.Qxb6601373aProg
import Derived.WalkKit
import Derived.WalkSpells
import Derived.WalkLawsBesides
import Derived.BigQuiet
import Derived.Deep.QuietTactic
import Derived.RegionTactic
import Derived.Deep.DeepCutAuto
import Derived.Deep.LoopGhost
import Derived.Deep.CutBlock
namespace Go.Proofs.Qxb6601373a
open Go.RowKit
set_option linter.unusedVariables false

/-- A slice of n elements of one cell that is read: its i-th cell holds f i. Of an empty slice nothing is said. -/
def Rd (w : World) (a : Option Addr) (n : Nat) (f : Nat → Value) : Prop :=
  n = 0 ∨ ∃ b off, a = some ⟨b, off, none⟩ ∧ ∀ i, i < n → w.cell? ⟨b, off + i, none⟩ = some (f i)
/-- Where there is no address there is no element. -/
def NilZ (a : Option Addr) (n : Nat) : Prop := a = none → n = 0
def nv (zs : List Int) (i : Nat) : Value := .int .i64 (zs.getD i 0)

/-- What the call itself has made: n elements of sz cells, cell j holds f j. -/
def Own (w : World) (base : Nat) (e : TypeId) (sz : Nat) (a : Option Addr) (n c : Nat) (f : Nat → Value) : Prop :=
  w.ownsRow base e sz (.slice a n c) n ((List.range (n * sz)).map f)

section
variable {w w' : World} {base : Nat} {e : TypeId} {sz : Nat} {a : Option Addr} {n c : Nat} {f : Nat → Value}

theorem Own.congr {g : Nat → Value} (h : Own w base e sz a n c f) (hfg : ∀ i, i < n * sz → f i = g i) : Own w base e sz a n c g := by
  unfold Own
  rw [show (List.range (n * sz)).map g = (List.range (n * sz)).map f from List.map_congr_left fun i hi => (hfg i (List.mem_range.1 hi)).symm]
  exact h

theorem Own.cell {g : Nat} (h : Own w base e sz (some ⟨g, 0, none⟩) n c f) (k : Nat) (hk : k < n * sz) : w.cell? ⟨g, k, none⟩ = some (f k) := by
  have := World.ownsRow.cellAt h k hk
  rw [this]; simp [hk]
theorem Own.frozen {g : Nat} (h : Own w base e sz (some ⟨g, 0, none⟩) n c f) (k : Nat) : w.frozen? ⟨g, k, none⟩ = false := World.ownsRow.frozenAt h k
theorem Own.inb {g : Nat} (h : Own w base e sz (some ⟨g, 0, none⟩) n c f) : base ≤ g ∧ g < w.heap.size := World.ownsRow.lt h g rfl
theorem Own.ad (h : Own w base e sz a n c f) (hn : 0 < n) : ∃ g, a = some ⟨g, 0, none⟩ := by
  rcases h.2 with ⟨_, h2⟩ | ⟨g, cap, cur, h1, _⟩
  · omega
  · simp only [Value.slice.injEq] at h1; exact ⟨g, h1.1⟩
theorem Own.rd (h : Own w base e 1 a n c f) : Rd w a n f := by
  by_cases hn : n = 0
  · exact .inl hn
  · obtain ⟨g, rfl⟩ := h.ad (by omega)
    exact .inr ⟨g, 0, rfl, fun i hi => by rw [Nat.zero_add]; exact h.cell i (by omega)⟩

theorem set_range_map (N k : Nat) (f : Nat → Value) (u : Value) : ((List.range N).map f).set k u = (List.range N).map (fun i => if i = k then u else f i) := by
  apply List.ext_getElem?
  intro j
  rw [List.getElem?_set]
  by_cases hj : j < N
  · by_cases hjk : k = j
    · subst hjk; simp [hj]
    · simp [hj, hjk, Ne.symm hjk]
  · by_cases hjk : k = j
    · subst hjk; simp [hj]
    · simp [hj, hjk]

theorem Own.stored {g : Nat} (h : Own w base e sz (some ⟨g, 0, none⟩) n c f) (k : Nat) (u : Value) :
    Own (w.setCell ⟨g, k, none⟩ u) base e sz (some ⟨g, 0, none⟩) n c (fun i => if i = k then u else f i) := by
  have := (World.ownsRow.stored h k u).1
  rw [set_range_map] at this
  exact this

theorem Own.below (h : Own w base e sz a n c f) (hb : Below w.heap.size w w') : Own w' base e sz a n c f := by
  obtain ⟨h1, h2⟩ := h
  refine ⟨h1, ?_⟩
  rcases h2 with h2 | ⟨g, cap, cur, hv, hg, hh, r⟩
  · exact .inl h2
  · have hlt : g < w.heap.size := by
      by_cases hlt : g < w.heap.size
      · exact hlt
      · rw [Array.getElem?_eq_none (by omega)] at hh; cases hh
    exact .inr ⟨g, cap, cur, hv, hg, by rw [hb.block g hlt]; exact hh, r⟩
theorem Own.drew (h : Own w base e sz a n c f) : Own w.drew base e sz a n c f := h
theorem Own.alloc (h : Own w base e sz a n c f) (o : Obj) : Own (w.alloc o) base e sz a n c f := World.ownsRow.alloc h o

theorem Rd.below (h : Rd w a n f) (hb : Below w.heap.size w w') : Rd w' a n f := by
  rcases h with h | ⟨b, off, ha, hc⟩
  · exact .inl h
  · exact .inr ⟨b, off, ha, fun i hi => cell_later hb (hc i hi)⟩

theorem own_any {xs : List Value} (h : w.ownsRow base e sz (.slice a n c) n xs) : Own w base e sz a n c (fun i => xs.getD i undef) := by
  unfold Own
  have hl : xs.length = n * sz := h.1
  have : (List.range (n * sz)).map (fun i => xs.getD i undef) = xs := by
    apply List.ext_getElem?
    intro j
    by_cases hj : j < n * sz
    · simp [hj, show j < xs.length by omega]
    · simp [hj, show xs.length ≤ j by omega]
  rw [this]; exact h
end

theorem own_nil (w : World) (base : Nat) (e : TypeId) (f : Nat → Value) : Own w base e 1 none 0 0 f := by
  unfold Own; exact World.ownsRow_nil _ _ _ _

theorem Try.info2 : (Try.prog.info? 2).map (fun i => (i.zero, i.size, i.bytes)) = some (some (.int .i64 0), 1, 8) := by kernel_rfl

theorem q32 : ∀ (w : World) (a : Option Addr) (n c n' c' : Nat), (binOp .eql 32 (.slice a n c) (.slice none n' c')).run Try.prog w = .ok (.bool a.isNone) w := fun w a n c n' c' => Lib.run_eql_slice_nil w _ _ a n c n' c' Try.underlying32

set_option maxHeartbeats 400000 in
theorem cloneI (a : Option Addr) (cap n : Nat) (zs : List Int) (w : World) (hr : Rd w a n (nv zs)) (hn : n ≤ 1048576) (hnil : NilZ a n) :
    Calls Try.prog 16 #[.slice a n cap] w fun e w' => ∃ a' c', e = .returned (.slice a' n c') ∧ Own w' w.heap.size 2 1 a' n c' (nv zs) ∧ NilZ a' n ∧ Below w.heap.size w w' := by
  have q := q32
  cases a with
  | none =>
    obtain rfl := hnil rfl
    go_enter Try.func16, Try.ntmps16
    go_wp2
    go_ret
    exact ⟨none, 0, rfl, own_nil _ _ _ _, fun _ => rfl, Below.refl _ _⟩
  | some ad =>
    obtain ⟨i0, hi, hz0, hz1, hz2⟩ := info_parts Try.info2
    have hml : n ≤ maxLen := by unfold maxLen; omega
    go_enter Try.func16, Try.ntmps16
    go_wp2_with (at_make; refine wpList_make_full _ rfl _ _ 32 rfl w.heap.size 2 i0 (.int .i64 0) 1 Try.underlying32 hi hz0 hz1 _ _ _ _ n rfl rfl rfl rfl (by rw [hz2]; omega) hml (Nat.le_refl _) ?_)
    intro w1 hown0 hgrow
    have hown := own_any hown0
    have hb1 : Below w.heap.size w w1 := (Below.refl _ _).grown hgrow (Nat.le_refl _) (by intro k hk; cases hk)
    clear hown0 hgrow
    go_wp2
    go_loopw [4] (fun i wr => ∃ (k : Nat) (F : Nat → Value), k ≤ n ∧ i = .int .i64 k ∧ Own wr w.heap.size 2 1 (some ⟨w.heap.size, 0, none⟩) n n F ∧ Hid (∀ j, j < k → F j = nv zs j) ∧ Below w.heap.size w wr) (fun i _ => n - (intOf i).toNat)
    case atStart => exact ⟨0, _, Nat.zero_le _, rfl, hown, fun j hj => by omega, hb1⟩
    case round =>
      obtain ⟨k, F, hk, rfl, ho, hF, hb⟩ := hrel
      clear hown hb1
      by_cases hlt : k < n
      · rcases hr with h0 | ⟨b, off, ha, hc⟩
        · omega
        · cases ha
          have hc1 : wr.cell? ⟨b, off + k, none⟩ = some (.int .i64 (zs.getD k 0)) := (cell_later hb (hc k hlt))
          have hc2 := ho.cell k (by omega)
          have hf2 := ho.frozen k
          have hs := ho.stored k (.int .i64 (zs.getD k 0))
          have hB := ho.inb
          clear hc
          go_wp2
          go_roundw
          case rel =>
            refine ⟨k + 1, _, by omega, by go_num, hs, fun j hj => ?_, hb.setCell (Nat.le_refl _) _⟩
            by_cases h1 : j = k
            · subst h1; rw [if_pos rfl]; rfl
            · rw [if_neg h1]; exact hF.out j (by omega)
          case measure => simp [intOf]; omega
      · go_wp2
        go_ret
        exact ⟨_, _, rfl, ho.congr (fun i hi => hF.out i (by omega)), (fun h => by cases h), hb⟩

/-- It answers a bool, writes nothing, and where it says yes p holds. -/
def RetB (w : World) (p : Prop) (e : Ending) (w' : World) : Prop := ∃ r, e = .returned (.bool r) ∧ w = w' ∧ (r = true → p)
theorem retB_false (w : World) (p : Prop) : RetB w p (.returned (.bool false)) w := ⟨_, rfl, rfl, fun h => by cases h⟩
theorem retB_true (w : World) (p : Prop) (h : p) : RetB w p (.returned (.bool true)) w := ⟨_, rfl, rfl, fun _ => h⟩

end Go.Proofs.Qxb6601373a
