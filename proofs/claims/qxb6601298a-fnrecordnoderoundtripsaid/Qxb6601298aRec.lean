import Derived.Test.Qxb6601298aProg
import Derived.WalkKit
import Derived.WalkSpells
import Derived.WalkLawsBesides
import Derived.BigQuiet
import Derived.Deep.QuietTactic
import Derived.RegionTactic
import Derived.Lib.EndianBits
import Derived.Deep.RegionWith
namespace Go.Proofs.Qxb6601298a
open Go.RowKit
set_option linter.unusedVariables false

/-- Byte i of a string, as a number. -/
def by8 (r : ByteArray) (i : Nat) : Nat := (r.data.toList.getD i 0).toNat
def leAt (r : ByteArray) (i : Nat) : Int := (by8 r i : Int) + (by8 r (i + 1) : Int) * 256 + (by8 r (i + 2) : Int) * 65536 + (by8 r (i + 3) : Int) * 16777216

theorem by8_at (r : ByteArray) (i : Nat) (h : i < r.size) : by8 r i = r[i].toNat := by
  unfold by8
  have h' : i < r.data.toList.length := by simpa using h
  rw [List.getD_eq_getElem?_getD, List.getElem?_eq_getElem h']
  rfl
theorem by8_lt (r : ByteArray) (i : Nat) : by8 r i < 256 := by unfold by8; exact UInt8.toNat_lt _

theorem le_bits (a b c d : Nat) (ha : a < 256) (hb : b < 256) (hc : c < 256) (hd : d < 256) :
    bits .or .u32 (bits .or .u32 (bits .or .u32 ((a : Int) % 4294967296) ((b : Int) % 4294967296 * 256 % 4294967296)) ((c : Int) % 4294967296 * 65536 % 4294967296)) ((d : Int) % 4294967296 * 16777216 % 4294967296) = (a : Int) + (b : Int) * 256 + (c : Int) * 65536 + (d : Int) * 16777216 := by
  have e1 : (a : Int) % 4294967296 = a := by omega
  have e2 : (b : Int) % 4294967296 * 256 % 4294967296 = (b : Int) * 256 := by omega
  have e3 : (c : Int) % 4294967296 * 65536 % 4294967296 = (c : Int) * 65536 := by omega
  have e4 : (d : Int) % 4294967296 * 16777216 % 4294967296 = (d : Int) * 16777216 := by omega
  rw [e1, e2, e3, e4]
  simp (disch := omega) only [u32_or8, u32_or16, u32_or24]

theorem ret_u32 {a b : Int} (h : a = b) : Ending.returned (.int .u32 a) = .returned (.int .u32 b) := by rw [h]

set_option maxRecDepth 100000 in
set_option maxHeartbeats 400000 in
theorem le32_any (r : ByteArray) (i : Nat) (w : World) (hi : i + 4 ≤ r.size) (hr : r.size ≤ 1048576) :
    Calls Try.prog 28 #[.string r, .int .i64 (i : Int)] w fun e w' => e = .returned (.int .u32 (leAt r i)) ∧ ∃ q, w.drewN q = w' := by
  have h0 : (i : Int) < (r.size : Int) := by omega
  have h1 : (i : Int) + 1 < (r.size : Int) := by omega
  have h2 : (i : Int) + 2 < (r.size : Int) := by omega
  have h3 : (i : Int) + 3 < (r.size : Int) := by omega
  have w1 : IntKind.i64.wrap ((i : Int) + 1) = (i : Int) + 1 := by rw [IntKind.wrap_i64]; omega
  have w2 : IntKind.i64.wrap ((i : Int) + 2) = (i : Int) + 2 := by rw [IntKind.wrap_i64]; omega
  have w3 : IntKind.i64.wrap ((i : Int) + 3) = (i : Int) + 3 := by rw [IntKind.wrap_i64]; omega
  have u1 : ((i : Int) + 1).toNat = i + 1 := by omega
  have u2 : ((i : Int) + 2).toNat = i + 2 := by omega
  have u3 : ((i : Int) + 3).toNat = i + 3 := by omega
  have x1 : (0 : Int) ≤ (i : Int) + 1 := by omega
  have x2 : (0 : Int) ≤ (i : Int) + 2 := by omega
  have x3 : (0 : Int) ≤ (i : Int) + 3 := by omega
  go_enter Try.func28, Try.ntmps28
  go_wp2
  go_quiet (fail)
  go_wp2
  go_ret
  refine ⟨ret_u32 ?_, _, rfl⟩
  unfold leAt
  rw [by8_at r i (by omega), by8_at r (i + 1) (by omega), by8_at r (i + 2) (by omega), by8_at r (i + 3) (by omega)]
  exact le_bits _ _ _ _ (UInt8.toNat_lt _) (UInt8.toNat_lt _) (UInt8.toNat_lt _) (UInt8.toNat_lt _)

/-- Of a record's grant: its precedence, and its name's span. -/
def GrantPost (r : ByteArray) (i : Nat) (w : World) (e : Ending) (w' : World) : Prop :=
  e = .returned (.agg #[.int .u8 (by8 r i), .int .u32 (leAt r (i + 1)), .int .u32 (leAt r (i + 5))]) ∧ Below w.heap.size w w'

set_option maxRecDepth 100000 in
set_option maxHeartbeats 400000 in
theorem grant_any (r : ByteArray) (i : Nat) (w : World) (hi : i + 9 ≤ r.size) (hr : r.size ≤ 1048576) :
    Calls Try.prog 29 #[.string r, .int .i64 (i : Int)] w fun e w' => GrantPost r i w e w' := by
  have h0 : (i : Int) < (r.size : Int) := by omega
  have hb := (by8_at r i (by omega)).symm
  obtain ⟨x1, hx1⟩ : ∃ x : Int, x = (i : Int) + 1 := ⟨_, rfl⟩
  obtain ⟨x5, hx5⟩ : ∃ x : Int, x = (i : Int) + 5 := ⟨_, rfl⟩
  have H1 : Hid (∀ w, Calls Try.prog 28 #[.string r, .int .i64 x1] w fun e w' => e = .returned (.int .u32 (leAt r (i + 1))) ∧ ∃ q, w.drewN q = w') := by
    intro w; have := le32_any r (i + 1) w (by omega) hr; rwa [show (((i + 1 : Nat)) : Int) = x1 by omega] at this
  have H5 : Hid (∀ w, Calls Try.prog 28 #[.string r, .int .i64 x5] w fun e w' => e = .returned (.int .u32 (leAt r (i + 5))) ∧ ∃ q, w.drewN q = w') := by
    intro w; have := le32_any r (i + 5) w (by omega) hr; rwa [show (((i + 5 : Nat)) : Int) = x5 by omega] at this
  have w1 : IntKind.i64.wrap ((i : Int) + 1) = x1 := by rw [IntKind.wrap_i64]; omega
  have w5 : IntKind.i64.wrap ((i : Int) + 5) = x5 := by rw [IntKind.wrap_i64]; omega
  clear hx1 hx5
  go_enter Try.func29, Try.ntmps29
  go_wp2
  go_region_with (first | (go_at_call_of 28 (Value.int IntKind.i64 x1); refine (H1.out _).mono ?_; rintro e w' ⟨rfl, q, rfl⟩) | (go_at_call_of 28 (Value.int IntKind.i64 x5); refine (H5.out _).mono ?_; rintro e w' ⟨rfl, q, rfl⟩))
  all_goals go_wp2
  all_goals refine bodyPost_ret (v := .agg #[.int .u8 (by8 r i), .int .u32 (leAt r (i + 1)), .int .u32 (leAt r (i + 5))]) (by simp [results, Try.results29, go_sem]) rfl ⟨rfl, ?_⟩
  all_goals exact (((below_drewN ((Below.refl _ _).alloc (Nat.le_refl _) _) _).setCell (Nat.le_refl _) _).setCell (Nat.le_refl _) _).setCell (Nat.le_refl _) _

theorem le32_c (r : ByteArray) (x : Int) (i : Nat) (w : World) (hx : x = (i : Int)) (hi : i + 4 ≤ r.size) (hr : r.size ≤ 1048576) :
    Calls Try.prog 28 #[.string r, .int .i64 x] w fun e w' => e = .returned (.int .u32 (leAt r i)) ∧ ∃ q, w.drewN q = w' := by
  subst hx; exact le32_any r i w hi hr
theorem grant_c (r : ByteArray) (x : Int) (i : Nat) (w : World) (hx : x = (i : Int)) (hi : i + 9 ≤ r.size) (hr : r.size ≤ 1048576) :
    Calls Try.prog 29 #[.string r, .int .i64 x] w fun e w' => GrantPost r i w e w' := by
  subst hx; exact grant_any r i w hi hr

theorem bcell {W w1 : World} (hb : Below W.heap.size W w1) : (∀ b o, b < W.heap.size → w1.cell? ⟨b, o, none⟩ = W.cell? ⟨b, o, none⟩) ∧ (∀ b o, b < W.heap.size → w1.frozen? ⟨b, o, none⟩ = W.frozen? ⟨b, o, none⟩) :=
  ⟨fun b o h => hb.cell (p := ⟨b, o, none⟩) h, fun b o h => hb.frozen (p := ⟨b, o, none⟩) h⟩

theorem below_alloc {w w' : World} {o : Obj} (h : Below w.heap.size w w') : Below w.heap.size w (w'.alloc o) := h.alloc h.size o

def nodeV (r : ByteArray) : Value := .agg #[.int .u32 (leAt r 0), .int .u32 (leAt r 4), .int .u32 (leAt r 8), .int .u32 (leAt r 12), .int .u32 (leAt r 16), .int .u8 (by8 r 20), .int .u32 (leAt r 21), .int .u32 (leAt r 25), .int .u8 (by8 r 29), .int .u32 (leAt r 30), .int .u32 (leAt r 34)]
def NodePost (r : ByteArray) (w : World) (e : Ending) (w' : World) : Prop := e = .returned (nodeV r) ∧ Below w.heap.size w w'

set_option maxRecDepth 100000 in
set_option maxHeartbeats 1000000 in
theorem node_any (r : ByteArray) (w : World) (hi : 38 ≤ r.size) (hr : r.size ≤ 1048576) :
    Calls Try.prog 26 #[.string r] w fun e w' => NodePost r w e w' := by
  go_enter Try.func26, Try.ntmps26
  go_wp2_with fail
  refine (le32_c r _ 0 _ rfl (by omega) hr).mono ?_
  rintro e w' ⟨rfl, q1, rfl⟩
  go_wp2_with fail
  refine (le32_c r _ 4 _ rfl (by omega) hr).mono ?_
  rintro e w' ⟨rfl, q2, rfl⟩
  go_wp2_with fail
  refine (le32_c r _ 8 _ rfl (by omega) hr).mono ?_
  rintro e w' ⟨rfl, q3, rfl⟩
  go_wp2_with fail
  refine (le32_c r _ 12 _ rfl (by omega) hr).mono ?_
  rintro e w' ⟨rfl, q4, rfl⟩
  go_wp2_with fail
  refine (le32_c r _ 16 _ rfl (by omega) hr).mono ?_
  rintro e w' ⟨rfl, q5, rfl⟩
  go_wp2_with fail
  refine (grant_c r _ 20 _ rfl (by omega) hr).mono ?_
  rintro e w1 ⟨rfl, hb1⟩
  obtain ⟨hc1, hf1⟩ := bcell hb1
  have hz1 : w.heap.size < w1.heap.size := by have := hb1.size; simp at this; omega
  go_wp2_with fail
  refine (grant_c r _ 29 _ rfl (by omega) hr).mono ?_
  rintro e w2 ⟨rfl, hb2⟩
  obtain ⟨hc2, hf2⟩ := bcell hb2
  have hz2 : w.heap.size < w2.heap.size := by have := hb2.size; omega
  go_wp2
  refine bodyPost_ret (v := nodeV r) (by simp [results, Try.results26, go_sem, nodeV, hc1, hc2, hz1]) rfl ⟨rfl, ?_⟩
  have B2 : Below w.heap.size w w2 := ((below_drewN ((Below.refl _ _).alloc (Nat.le_refl _) _) _).trans (hb1.mono (by simp))).trans (hb2.mono (by omega))
  clear hb1 hb2 hc1 hc2 hf1 hf2
  exact (((((((((((B2.setCell (Nat.le_refl _) _).setCell (Nat.le_refl _) _).setCell (Nat.le_refl _) _).setCell (Nat.le_refl _) _).setCell (Nat.le_refl _) _).setCell (Nat.le_refl _) _).setCell (Nat.le_refl _) _).setCell (Nat.le_refl _) _).setCell (Nat.le_refl _) _).setCell (Nat.le_refl _) _).setCell (Nat.le_refl _) _)

set_option maxRecDepth 100000 in
set_option maxHeartbeats 1000000 in
theorem zznode_any (r : ByteArray) (w : World) (hi : 38 ≤ r.size) (hr : r.size ≤ 1048576) :
    Calls Try.prog 23 #[.string r] w fun e w' => NodePost r w e w' := by
  go_enter Try.func23, Try.ntmps23
  go_wp2_with fail
  refine (node_any r _ hi hr).mono ?_
  rintro e w1 ⟨rfl, hb1⟩
  obtain ⟨hc1, hf1⟩ := bcell hb1
  have hz1 : w.heap.size < w1.heap.size := by have := hb1.size; simp at this; omega
  unfold nodeV
  go_wp2
  refine bodyPost_ret (v := nodeV r) (by simp [results, Try.results23, go_sem, nodeV, hc1, hz1]) rfl ⟨rfl, ?_⟩
  have B1 : Below w.heap.size w w1 := ((Below.refl _ _).alloc (Nat.le_refl _) _).trans (hb1.mono (by simp))
  clear hb1 hc1 hf1
  exact below_alloc (((((((((((B1.setCell (Nat.le_refl _) _).setCell (Nat.le_refl _) _).setCell (Nat.le_refl _) _).setCell (Nat.le_refl _) _).setCell (Nat.le_refl _) _).setCell (Nat.le_refl _) _).setCell (Nat.le_refl _) _).setCell (Nat.le_refl _) _).setCell (Nat.le_refl _) _).setCell (Nat.le_refl _) _).setCell (Nat.le_refl _) _)

end Go.Proofs.Qxb6601298a
