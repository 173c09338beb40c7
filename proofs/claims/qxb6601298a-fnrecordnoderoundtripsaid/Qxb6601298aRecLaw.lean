import Derived.Test.Qxb6601298aRec
import Derived.Laws.BytesArg
import Derived.Laws.Concat
namespace Go.Proofs.Qxb6601298a
open Go.RowKit
set_option linter.unusedVariables false

/-- A row of bytes that the call itself made: 38 of them, F i at place i. -/
def Own (w : World) (base : Nat) (g n : Nat) (F : Nat → Nat) : Prop :=
  w.ownsRow base 5 1 (.slice (some ⟨g, 0, none⟩) n n) n ((List.range n).map (fun i => .int .u8 (F i : Int)))

theorem Own.cell {w : World} {base g n : Nat} {F : Nat → Nat} (h : Own w base g n F) (k : Nat) (hk : k < n) : w.cell? ⟨g, k, none⟩ = some (.int .u8 (F k : Int)) := by
  have := World.ownsRow.cellAt h k (by omega)
  rw [this]; simp [hk]
theorem Own.frozen {w : World} {base g n : Nat} {F : Nat → Nat} (h : Own w base g n F) (k : Nat) : w.frozen? ⟨g, k, none⟩ = false := World.ownsRow.frozenAt h k
theorem Own.base {w : World} {base g n : Nat} {F : Nat → Nat} (h : Own w base g n F) : base ≤ g ∧ g < w.heap.size := World.ownsRow.lt h g rfl

def upd (F : Nat → Nat) (k b : Nat) (i : Nat) : Nat := if i = k then b else F i

theorem Own.upd {w : World} {base g n : Nat} {F : Nat → Nat} (h : Own w base g n F) (k b : Nat) : Own (w.setCell ⟨g, k, none⟩ (.int .u8 (b : Int))) base g n (upd F k b) := by
  have h1 := (World.ownsRow.stored h k (.int .u8 (b : Int))).1
  have e : ((List.range n).map (fun i => Value.int .u8 (F i : Int))).set k (.int .u8 (b : Int)) = (List.range n).map (fun i => .int .u8 (Qxb6601298a.upd F k b i : Int)) := by
    apply List.ext_getElem?
    intro j
    rw [List.getElem?_set]
    by_cases hj : j < n
    · by_cases hjk : k = j
      · subst hjk; simp [hj, Qxb6601298a.upd]
      · simp [hj, hjk, Ne.symm hjk, Qxb6601298a.upd]
    · by_cases hjk : k = j
      · subst hjk; simp [hj]
      · simp [hj, hjk]
  rw [e] at h1
  exact h1

/-- A number laid down, the least byte first. -/
def put (F : Nat → Nat) (k v : Nat) : Nat → Nat := upd (upd (upd (upd F k (v % 256)) (k + 1) (v / 256 % 256)) (k + 2) (v / 65536 % 256)) (k + 3) (v / 16777216)

theorem gbs (w : World) (p : Addr) (u : Value) : w.grownBy (w.setCell p u) (some p.block) :=
  ⟨rfl, rfl, rfl, by simp [World.setCell], fun k _ hne => Below.heap_setCell _ _ _ _ (fun e => hne (by rw [e]))⟩
theorem gbt {w wr wr' : World} {g : Nat} (h : w.grownBy wr (some g)) (hg : wr.grownBy wr' (some g)) : w.grownBy wr' (some g) :=
  ⟨hg.os.trans h.os, hg.tape.trans h.tape, hg.output.trans h.output, Nat.le_trans h.size hg.size, fun k hk hne => by rw [hg.block k (Nat.lt_of_lt_of_le hk h.size) hne, h.block k hk hne]⟩
theorem gb4 (w : World) (g a b c d : Nat) (u v x y : Value) : w.grownBy ((((w.setCell ⟨g, a, none⟩ u).setCell ⟨g, b, none⟩ v).setCell ⟨g, c, none⟩ x).setCell ⟨g, d, none⟩ y) (some g) :=
  gbt (gbt (gbt (gbs w ⟨g, a, none⟩ u) (gbs _ ⟨g, b, none⟩ v)) (gbs _ ⟨g, c, none⟩ x)) (gbs _ ⟨g, d, none⟩ y)

def PutPost (w : World) (base g n : Nat) (F : Nat → Nat) (k v : Nat) (e : Ending) (w' : World) : Prop := e = .returned (.tuple #[]) ∧ Own w' base g n (put F k v) ∧ w.grownBy w' (some g)

set_option maxHeartbeats 400000 in
theorem put_any (base g n k v : Nat) (x : Int) (F : Nat → Nat) (w : World) (h : Own w base g n F) (hx : x = (k : Int)) (hk : k + 4 ≤ n) (hn : n ≤ 64) (hv : v < 4294967296) :
    Calls Try.prog 22 #[.slice (some ⟨g, 0, none⟩) n n, .int .i64 x, .int .u32 (v : Int)] w fun e w' => PutPost w base g n F k v e w' := by
  subst hx
  have c0 := h.cell k (by omega)
  have c1 := h.cell (k + 1) (by omega)
  have c2 := h.cell (k + 2) (by omega)
  have c3 := h.cell (k + 3) (by omega)
  have f0 := h.frozen k
  have f1 := h.frozen (k + 1)
  have f2 := h.frozen (k + 2)
  have f3 := h.frozen (k + 3)
  have i0 : (k : Int) < (n : Int) := by omega
  have i1 : (k : Int) + 1 < (n : Int) := by omega
  have i2 : (k : Int) + 2 < (n : Int) := by omega
  have i3 : (k : Int) + 3 < (n : Int) := by omega
  go_enter Try.func22, Try.ntmps22
  go_wp2
  go_end0
  have e0 : (v : Int) % 256 = ((v % 256 : Nat) : Int) := by omega
  have e1 : (v : Int) / 256 % 256 = ((v / 256 % 256 : Nat) : Int) := by omega
  have e2 : (v : Int) / 65536 % 256 = ((v / 65536 % 256 : Nat) : Int) := by omega
  have e3 : (v : Int) / 16777216 = ((v / 16777216 : Nat) : Int) := by omega
  rw [e0, e1, e2, e3]
  exact ⟨rfl, (((h.upd k _).upd (k + 1) _).upd (k + 2) _).upd (k + 3) _, gb4 w g k (k + 1) (k + 2) (k + 3) _ _ _ _⟩

theorem by8_row (G : Nat → Nat) (n : Nat) (tail : ByteArray) (i : Nat) (hi : i < n) (hG : G i < 256) : by8 (strOfNums ((List.range n).map (fun i => (G i : Int))) ++ tail) i = G i := by
  unfold by8
  rw [ByteArray.data_append]
  simp only [Array.toList_append, strOfNums_data, List.map_map]
  rw [List.getD_eq_getElem?_getD, List.getElem?_append_left (by simpa using hi)]
  simp [hi]
  omega

theorem size_row (G : Nat → Nat) (n : Nat) (tail : ByteArray) : (strOfNums ((List.range n).map (fun i => (G i : Int))) ++ tail).size = n + tail.size := by
  rw [ByteArray.size_append, strOfNums_size]; simp

theorem le_of (r : ByteArray) (k v : Nat) (h0 : by8 r k = v % 256) (h1 : by8 r (k + 1) = v / 256 % 256) (h2 : by8 r (k + 2) = v / 65536 % 256) (h3 : by8 r (k + 3) = v / 16777216) : leAt r k = (v : Int) := by
  unfold leAt; rw [h0, h1, h2, h3]; omega

end Go.Proofs.Qxb6601298a
