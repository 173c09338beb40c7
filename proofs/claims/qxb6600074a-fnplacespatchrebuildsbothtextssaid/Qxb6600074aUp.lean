import Derived.Test.Qxb6600074aBase
import Derived.Test.Qxb6600074aPlain
import Derived.BigQuiet
import Derived.Deep.QuietTactic
import Derived.RegionTactic
import Derived.Deep.DeepCutAuto
import Derived.Deep.LoopGhost
namespace Go.Proofs.Qxb6600074a
open Go.RowKit
set_option linter.unusedVariables false

/-- Marks as cells. -/
def cv (C : Nat → Bool) (i : Nat) : Value := .bool (C i)

theorem Own.upd {w : World} {base g n c : Nat} {C : Nat → Bool} (h : Own w base 4 (some ⟨g, 0, none⟩) n c (cv C)) (k : Nat) (b : Bool) : Own (w.setCell ⟨g, k, none⟩ (.bool b)) base 4 (some ⟨g, 0, none⟩) n c (cv (upd C k b)) :=
  (h.stored k (.bool b)).congr (fun i _ => by unfold cv Qxb6600074a.upd; split <;> rfl)

theorem Own.drew' {w : World} {base : Nat} {e : TypeId} {a : Option Addr} {n c : Nat} {f : Nat → Value} (h : Own w base e a n c f) : Own w.drew base e a n c f := h

theorem Own.ad {w : World} {base : Nat} {e : TypeId} {a : Option Addr} {n c : Nat} {f : Nat → Value} (h : Own w base e a n c f) (hn : 0 < n) : ∃ g, a = some ⟨g, 0, none⟩ := by
  rcases h.2 with ⟨_, h2⟩ | ⟨g, cap, cur, h1, _⟩
  · omega
  · simp only [Value.slice.injEq] at h1; exact ⟨g, h1.1⟩

def UpPost (wr : World) (base g1 n c1 : Nat) (C : Nat → Bool) (s e g : Nat) (en : Ending) (w' : World) : Prop :=
  en = .returned (.tuple #[.int .i64 ((s : Int) - 1), .int .i64 ((e : Int) - 1), .int .i64 ((g : Int) - 1)]) ∧ Own w' base 4 (some ⟨g1, 0, none⟩) n c1 (cv (slideUp C (s - 1) (e - 1))) ∧ wr.grownBy w' (some g1)

set_option maxHeartbeats 400000 in
theorem up_any (base g1 B n c1 : Nat) (C : Nat → Bool) (s e g : Nat) (wr : World) (row : Own wr base 4 (some ⟨g1, 0, none⟩) n c1 (cv C)) (box : wr.cell? ⟨B, 0, none⟩ = some (.slice (some ⟨g1, 0, none⟩) n c1))
    (hB : g1 ≠ B) (hs : 0 < s) (hse : s < e) (hen : e ≤ n) (hg : 0 < g) (hgn : g ≤ n) (hn : n ≤ 1048576) :
    Calls Try.prog 32 #[.int .i64 (s : Int), .int .i64 (e : Int), .int .i64 (g : Int), .pointer (some ⟨B, 0, none⟩)] wr fun en w' => UpPost wr base g1 n c1 C s e g en w' := by
  obtain ⟨t, rfl⟩ : ∃ t, s = t + 1 := ⟨s - 1, by omega⟩
  obtain ⟨f, rfl⟩ : ∃ f, e = f + 1 := ⟨e - 1, by omega⟩
  have c1' := row.cell t (by omega)
  have c2' := row.cell f (by omega)
  have f1 := row.frozen t
  have f2 := row.frozen f
  have h1 : (t : Int) < (n : Int) := by omega
  have h2 : (f : Int) < (n : Int) := by omega
  go_enter Try.func32, Try.ntmps32
  go_wp2
  go_region
  go_wp2
  go_ret3
  refine ⟨?_, ((row.upd t true).upd f false).drew', gb_step (gb_step (gb_set wr ⟨g1, t, none⟩ (.bool true)) (gb_set _ ⟨g1, f, none⟩ (.bool false)) (fun k hk => .inl hk)) (gb_drew _ none) (fun k hk => by cases hk)⟩
  simp
end Go.Proofs.Qxb6600074a
