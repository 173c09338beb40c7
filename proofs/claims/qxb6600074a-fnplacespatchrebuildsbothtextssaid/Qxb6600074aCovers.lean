import Derived.Test.Qxb6600074aPlaces
namespace Go.Proofs.Qxb6600074a
open Go.RowKit
set_option linter.unusedVariables false

/-- A list of changes that is read. -/
def RdL (w : World) (a : Option Addr) (l : List Ch) : Prop :=
  l.length = 0 ∨ ∃ g, a = some ⟨g, 0, none⟩ ∧ ∀ k, k < l.length → w.cell? ⟨g, k * 4, none⟩ = some (.int .i64 ((l.getD k ch0).s : Int)) ∧ w.cell? ⟨g, k * 4 + 1, none⟩ = some (.int .i64 ((l.getD k ch0).e : Int)) ∧
    w.cell? ⟨g, k * 4 + 2, none⟩ = some (.int .i64 ((l.getD k ch0).f : Int)) ∧ w.cell? ⟨g, k * 4 + 3, none⟩ = some (.int .i64 ((l.getD k ch0).t : Int))

theorem OwnL.rd {w : World} {base : Nat} {a : Option Addr} {c : Nat} {l : List Ch} (h : OwnL w base (.slice a l.length c) l) : RdL w a l := by
  rcases h.2 with ⟨h1, h2⟩ | ⟨g, cap, cur, h1, _⟩
  · exact .inl h2
  · have hh := h
    unfold OwnL at hh
    rw [h1] at hh
    simp only [Value.slice.injEq] at h1
    refine .inr ⟨g, h1.1, fun k hk => ?_⟩
    have e := flat_at l k hk
    exact ⟨(hh.cellAt _ (by omega)).trans e.1, (hh.cellAt _ (by omega)).trans e.2.1, (hh.cellAt _ (by omega)).trans e.2.2.1, (hh.cellAt _ (by omega)).trans e.2.2.2⟩

set_option maxHeartbeats 400000 in
theorem count_any (a : Option Addr) (N n c : Nat) (C : Nat → Bool) (w : World) (hr : Rd w a N (cv C)) (hn : n ≤ N) (hN : N ≤ 65536) :
    Calls Try.prog 20 #[.slice a N c, .int .i64 (n : Int)] w fun e w' => e = .returned (.int .i64 (cnt C n : Int)) ∧ w = w' := by
  go_enter Try.func20, Try.ntmps20
  go_wp2
  go_loop [5, 6] (fun v i => ∃ k : Nat, k ≤ n ∧ i = .int .i64 k ∧ v = .int .i64 (cnt C k : Int)) (fun _ i => n - (intOf i).toNat)
  case atStart => exact ⟨0, Nat.zero_le _, rfl, rfl⟩
  case round =>
    obtain ⟨k, hk, rfl, rfl⟩ := hrel
    have hc := cnt_le C k
    by_cases hlt : k < n
    · rcases hr with h0 | ⟨b, off, ha, hcell⟩
      · omega
      subst ha
      cases hC : C k with
      | true =>
        have hc1 : w.cell? ⟨b, off + k, none⟩ = some (.bool true) := by rw [hcell k (by omega)]; unfold cv; rw [hC]
        have HC : Hid (C k = true) := hC
        clear hcell hC
        go_wp2
        go_round
        case rel => exact ⟨k + 1, by omega, by go_num, by rw [cnt_on HC.out]⟩
        case measure => simp [intOf]; omega
      | false =>
        have hc1 : w.cell? ⟨b, off + k, none⟩ = some (.bool false) := by rw [hcell k (by omega)]; unfold cv; rw [hC]
        have HC : Hid (C k = false) := hC
        clear hcell hC
        go_wp2
        go_round
        case rel => exact ⟨k + 1, by omega, by go_num, by rw [cnt_off HC.out]; go_num⟩
        case measure => simp [intOf]; omega
    · obtain rfl : k = n := by omega
      go_wp2
      go_ret
      exact ⟨rfl, rfl⟩

set_option maxHeartbeats 400000 in
theorem bytes24 (a0 a1 a2 a3 : Option Addr) (n0 c0 n1 c1 n2 c2 n3 c3 : Nat) (w : World) :
    Calls Try.prog 24 #[.slice a0 n0 c0, .slice a1 n1 c1, .slice a2 n2 c2, .slice a3 n3 c3] w fun e w' => ∃ r, e = .returned (.bool r) ∧ w = w' := by
  go_enter Try.func24, Try.ntmps24
  go_wp2
  all_goals (go_ret; exact ⟨_, rfl, rfl⟩)

theorem zzplaces (baseA baseB : Nat) (a0 a1 a2 a3 : Option Addr) (n m c0 c1 c2 c3 : Nat) (la lb : List Int) (A B : Nat → Bool) (w : World) (h0 : Rd w a0 n (iv la)) (h1 : Rd w a1 m (iv lb)) (h2 : Own w baseA 4 a2 n c2 (cv A)) (h3 : Own w baseB 4 a3 m c3 (cv B))
    (b0 : n ≤ 65536) (b1 : m ≤ 65536) (hcnt : cnt A n = cnt B m) (n02 : ∀ x, a0 = some x → rowOf a2 ≠ some x.block) (n12 : ∀ x, a1 = some x → rowOf a2 ≠ some x.block) (n13 : ∀ x, a1 = some x → rowOf a3 ≠ some x.block) (n32 : ∀ x, a3 = some x → rowOf a2 ≠ some x.block) (n23 : ∀ x, a2 = some x → rowOf a3 ≠ some x.block) :
    Calls Try.prog 25 #[.slice a0 n c0, .slice a1 m c1, .slice a2 n c2, .slice a3 m c3] w fun e w' => PlacesPost w baseA baseB (lv la) (lv lb) A B a2 a3 n m c2 c3 e w' := by
  have HH : Hid (Calls Try.prog 31 #[.slice a0 n c0, .slice a1 m c1, .slice a2 n c2, .slice a3 m c3] w fun e w' => PlacesPost w baseA baseB (lv la) (lv lb) A B a2 a3 n m c2 c3 e w') :=
    places_any baseA baseB a0 a1 a2 a3 n m c0 c1 c2 c3 la lb A B w h0 h1 h2 h3 b0 b1 hcnt n02 n12 n13 n32 n23
  clear hcnt
  go_enter Try.func25, Try.ntmps25
  go_wp2_with fail
  refine HH.out.mono ?_
  rintro e w' ⟨v, l, A', B', rfl, r⟩
  go_wp2
  go_ret
  exact ⟨v, l, A', B', rfl, r⟩

/-- The spans lo k .. hi k lie in order, and just they are marked. -/
structure Spans (C : Nat → Bool) (N len : Nat) (p lo hi : Nat → Nat) : Prop where
  z : p 0 = 0
  nx : ∀ k, p (k + 1) = hi k
  a : ∀ k, k < len → p k ≤ lo k
  b : ∀ k, k < len → lo k ≤ hi k
  c : ∀ k, k < len → hi k ≤ N
  off : ∀ k, k < len → Off C (p k) (lo k)
  on : ∀ k, k < len → On C (lo k) (hi k)
  last : Off C (p len) N
  le : p len ≤ N

set_option maxRecDepth 100000 in
set_option maxHeartbeats 1000000 in
theorem covers_a (a la : Option Addr) (N c lc : Nat) (C : Nat → Bool) (l : List Ch) (p : Nat → Nat) (w : World) (hr : Rd w a N (cv C)) (hl : RdL w la l) (hN : N ≤ 65536) (hlen : l.length ≤ 1048576) (hS : Spans C N l.length p (fun k => (l.getD k ch0).s) (fun k => (l.getD k ch0).e)) :
    Calls Try.prog 26 #[.slice a N c, .int .i64 (N : Int), .slice la l.length lc, .bool true] w fun e w' => e = .returned (.bool true) ∧ w = w' := by
  go_enter Try.func26, Try.ntmps26
  go_wp2
  go_loop [9, 10] (fun v i => ∃ k : Nat, k ≤ l.length ∧ i = .int .i64 k ∧ v = .int .i64 (p k : Int)) (fun _ i => l.length - (intOf i).toNat)
  case atStart => exact ⟨0, Nat.zero_le _, rfl, by rw [hS.z]; rfl⟩
  case round =>
    obtain ⟨k, hk, rfl, rfl⟩ := hrel
    by_cases hlt : k < l.length
    · rcases hl with h0 | ⟨g, ha, hcell⟩
      · omega
      subst ha
      obtain ⟨e0, e1, e2, e3⟩ := hcell k hlt
      have g1 : p k ≤ (l.getD k ch0).s := hS.a k hlt
      have g2 : (l.getD k ch0).s ≤ (l.getD k ch0).e := hS.b k hlt
      have g3 : (l.getD k ch0).e ≤ N := hS.c k hlt
      have HOff : Hid (Off C (p k) (l.getD k ch0).s) := hS.off k hlt
      have HOn : Hid (On C (l.getD k ch0).s (l.getD k ch0).e) := hS.on k hlt
      have HNx : Hid (p (k + 1) = (l.getD k ch0).e) := hS.nx k
      generalize (l.getD k ch0).s = lo at *
      generalize (l.getD k ch0).e = hi at *
      clear hcell
      go_wp2
      go_loop [9] (fun v => ∃ q : Nat, p k ≤ q ∧ q ≤ lo ∧ v = .int .i64 (q : Int)) (fun v => lo - (intOf v).toNat)
      case atStart => exact ⟨p k, Nat.le_refl _, g1, rfl⟩
      case round =>
        obtain ⟨q, hq1, hq2, rfl⟩ := hrel
        by_cases hq : q < lo
        · rcases hr with h0 | ⟨b, off, ha, hcell⟩
          · omega
          subst ha
          have hc1 : w.cell? ⟨b, off + q, none⟩ = some (.bool false) := by rw [hcell q (by omega)]; unfold cv; rw [HOff.out q hq1 hq]
          clear hcell
          go_wp2
          go_round
          case rel => exact ⟨q + 1, by omega, by omega, by go_num⟩
          case measure => simp [intOf]; omega
        · go_wp2
          go_loop [9] (fun v => ∃ q : Nat, lo ≤ q ∧ q ≤ hi ∧ v = .int .i64 (q : Int)) (fun v => hi - (intOf v).toNat)
          case atStart => exact ⟨q, by omega, by omega, rfl⟩
          case round =>
            obtain ⟨q', hq3, hq4, rfl⟩ := hrel
            by_cases hq' : q' < hi
            · rcases hr with h0 | ⟨b, off, ha, hcell⟩
              · omega
              subst ha
              have hc1 : w.cell? ⟨b, off + q', none⟩ = some (.bool true) := by rw [hcell q' (by omega)]; unfold cv; rw [HOn.out q' hq3 hq']
              clear hcell
              go_wp2
              go_round
              case rel => exact ⟨q' + 1, by omega, by omega, by go_num⟩
              case measure => simp [intOf]; omega
            · obtain rfl : q' = hi := by omega
              go_wp2
              go_round
              case rel => exact ⟨k + 1, by omega, by go_num, by rw [HNx.out]⟩
              case measure => simp [intOf]; omega
    · obtain rfl : k = l.length := by omega
      have HOff : Hid (Off C (p l.length) N) := hS.last
      have hle := hS.le
      go_wp2
      go_loop [9] (fun v => ∃ q : Nat, p l.length ≤ q ∧ q ≤ N ∧ v = .int .i64 (q : Int)) (fun v => N - (intOf v).toNat)
      case atStart => exact ⟨p l.length, Nat.le_refl _, hle, rfl⟩
      case round =>
        obtain ⟨q, hq1, hq2, rfl⟩ := hrel
        by_cases hq : q < N
        · rcases hr with h0 | ⟨b, off, ha, hcell⟩
          · omega
          subst ha
          have hc1 : w.cell? ⟨b, off + q, none⟩ = some (.bool false) := by rw [hcell q (by omega)]; unfold cv; rw [HOff.out q hq1 hq]
          clear hcell
          go_wp2
          go_round
          case rel => exact ⟨q + 1, by omega, by omega, by go_num⟩
          case measure => simp [intOf]; omega
        · go_wp2
          go_ret
          exact ⟨rfl, rfl⟩

set_option maxRecDepth 100000 in
set_option maxHeartbeats 1000000 in
theorem covers_b (a la : Option Addr) (N c lc : Nat) (C : Nat → Bool) (l : List Ch) (p : Nat → Nat) (w : World) (hr : Rd w a N (cv C)) (hl : RdL w la l) (hN : N ≤ 65536) (hlen : l.length ≤ 1048576) (hS : Spans C N l.length p (fun k => (l.getD k ch0).f) (fun k => (l.getD k ch0).t)) :
    Calls Try.prog 26 #[.slice a N c, .int .i64 (N : Int), .slice la l.length lc, .bool false] w fun e w' => e = .returned (.bool true) ∧ w = w' := by
  go_enter Try.func26, Try.ntmps26
  go_wp2
  go_loop [9, 10] (fun v i => ∃ k : Nat, k ≤ l.length ∧ i = .int .i64 k ∧ v = .int .i64 (p k : Int)) (fun _ i => l.length - (intOf i).toNat)
  case atStart => exact ⟨0, Nat.zero_le _, rfl, by rw [hS.z]; rfl⟩
  case round =>
    obtain ⟨k, hk, rfl, rfl⟩ := hrel
    by_cases hlt : k < l.length
    · rcases hl with h0 | ⟨g, ha, hcell⟩
      · omega
      subst ha
      obtain ⟨e0, e1, e2, e3⟩ := hcell k hlt
      have g1 : p k ≤ (l.getD k ch0).f := hS.a k hlt
      have g2 : (l.getD k ch0).f ≤ (l.getD k ch0).t := hS.b k hlt
      have g3 : (l.getD k ch0).t ≤ N := hS.c k hlt
      have HOff : Hid (Off C (p k) (l.getD k ch0).f) := hS.off k hlt
      have HOn : Hid (On C (l.getD k ch0).f (l.getD k ch0).t) := hS.on k hlt
      have HNx : Hid (p (k + 1) = (l.getD k ch0).t) := hS.nx k
      generalize (l.getD k ch0).f = lo at *
      generalize (l.getD k ch0).t = hi at *
      clear hcell
      go_wp2
      go_loop [9] (fun v => ∃ q : Nat, p k ≤ q ∧ q ≤ lo ∧ v = .int .i64 (q : Int)) (fun v => lo - (intOf v).toNat)
      case atStart => exact ⟨p k, Nat.le_refl _, g1, rfl⟩
      case round =>
        obtain ⟨q, hq1, hq2, rfl⟩ := hrel
        by_cases hq : q < lo
        · rcases hr with h0 | ⟨b, off, ha, hcell⟩
          · omega
          subst ha
          have hc1 : w.cell? ⟨b, off + q, none⟩ = some (.bool false) := by rw [hcell q (by omega)]; unfold cv; rw [HOff.out q hq1 hq]
          clear hcell
          go_wp2
          go_round
          case rel => exact ⟨q + 1, by omega, by omega, by go_num⟩
          case measure => simp [intOf]; omega
        · go_wp2
          go_loop [9] (fun v => ∃ q : Nat, lo ≤ q ∧ q ≤ hi ∧ v = .int .i64 (q : Int)) (fun v => hi - (intOf v).toNat)
          case atStart => exact ⟨q, by omega, by omega, rfl⟩
          case round =>
            obtain ⟨q', hq3, hq4, rfl⟩ := hrel
            by_cases hq' : q' < hi
            · rcases hr with h0 | ⟨b, off, ha, hcell⟩
              · omega
              subst ha
              have hc1 : w.cell? ⟨b, off + q', none⟩ = some (.bool true) := by rw [hcell q' (by omega)]; unfold cv; rw [HOn.out q' hq3 hq']
              clear hcell
              go_wp2
              go_round
              case rel => exact ⟨q' + 1, by omega, by omega, by go_num⟩
              case measure => simp [intOf]; omega
            · obtain rfl : q' = hi := by omega
              go_wp2
              go_round
              case rel => exact ⟨k + 1, by omega, by go_num, by rw [HNx.out]⟩
              case measure => simp [intOf]; omega
    · obtain rfl : k = l.length := by omega
      have HOff : Hid (Off C (p l.length) N) := hS.last
      have hle := hS.le
      go_wp2
      go_loop [9] (fun v => ∃ q : Nat, p l.length ≤ q ∧ q ≤ N ∧ v = .int .i64 (q : Int)) (fun v => N - (intOf v).toNat)
      case atStart => exact ⟨p l.length, Nat.le_refl _, hle, rfl⟩
      case round =>
        obtain ⟨q, hq1, hq2, rfl⟩ := hrel
        by_cases hq : q < N
        · rcases hr with h0 | ⟨b, off, ha, hcell⟩
          · omega
          subst ha
          have hc1 : w.cell? ⟨b, off + q, none⟩ = some (.bool false) := by rw [hcell q (by omega)]; unfold cv; rw [HOff.out q hq1 hq]
          clear hcell
          go_wp2
          go_round
          case rel => exact ⟨q + 1, by omega, by omega, by go_num⟩
          case measure => simp [intOf]; omega
        · go_wp2
          go_ret
          exact ⟨rfl, rfl⟩

theorem Good.spansA {A B : Nat → Bool} {l : List Ch} {n m : Nat} (h : Good A B l n m) : Spans A n l.length (pe l) (fun k => (l.getD k ch0).s) (fun k => (l.getD k ch0).e) :=
  ⟨rfl, fun _ => rfl, fun k hk => (h.each k hk).s0, fun k hk => (h.each k hk).s1, fun k hk => (h.each k hk).s2, fun k hk => (h.each k hk).offA, fun k hk => (h.each k hk).onA, h.offA, h.px⟩
theorem Good.spansB {A B : Nat → Bool} {l : List Ch} {n m : Nat} (h : Good A B l n m) : Spans B m l.length (pt l) (fun k => (l.getD k ch0).f) (fun k => (l.getD k ch0).t) :=
  ⟨rfl, fun _ => rfl, fun k hk => (h.each k hk).t0, fun k hk => (h.each k hk).t1, fun k hk => (h.each k hk).t2, fun k hk => (h.each k hk).offB, fun k hk => (h.each k hk).onB, h.offB, h.py⟩

end Go.Proofs.Qxb6600074a
