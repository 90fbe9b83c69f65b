/- decimal: Shift: what it leaves. -/
import Derived.Test.YtnggkkdcddpjlaaGreatDoorLsh
namespace Go.Proofs.YtnggkkdcddpjlaaGreatDoor
set_option linter.unusedVariables false
set_option linter.unusedSimpArgs false
open Go.RowKit
/-- The tables stand below block B, and as they stood. -/
def TabsUnder (B : Nat) (w : World) : Prop := ∃ w0, Tabs w0 ∧ w0.heap.size ≤ B ∧ Below w0.heap.size w0 w
theorem TabsUnder.tabs {B : Nat} {w : World} (h : TabsUnder B w) : Tabs w := by
  obtain ⟨w0, h0, _, hb⟩ := h
  exact h0.belowTop hb
theorem TabsUnder.only {B : Nat} {w w' : World} (h : TabsUnder B w) (ho : Only B w w') : TabsUnder B w' := by
  obtain ⟨w0, h0, hB, hb⟩ := h
  exact ⟨w0, h0, hB, hb.trans (ho.below hB)⟩
theorem TabsUnder.below {B n : Nat} {w w' : World} (h : TabsUnder B w) (hb : Below n w w') (hn : B ≤ n) : TabsUnder B w' := by
  obtain ⟨w0, h0, hB, hb0⟩ := h
  exact ⟨w0, h0, hB, hb0.trans (hb.mono (by omega))⟩
theorem TabsUnder.ne8 {B : Nat} {w : World} (h : TabsUnder B w) : ∀ b o c, w.cell? ⟨8, 0, none⟩ = some (.slice (some ⟨b, o, none⟩) 61 c) → b ≠ B := by
  obtain ⟨w0, h0, hB, hb⟩ := h
  obtain ⟨b', o', c', l1, l2⟩ := h0.lch
  intro b o c e
  rw [hb.cell (lt_of_cell l1), l1] at e
  have := lt_of_cell (l2 0 (by omega)).1
  simp only [Option.some.injEq, Value.slice.injEq, Addr.mk.injEq] at e
  dsimp only at this
  omega
theorem TabsUnder.gt {B : Nat} {w : World} (h : TabsUnder B w) : 13 < B := by
  obtain ⟨w0, h0, hB, hb⟩ := h
  obtain ⟨b', o', c', l1, l2⟩ := h0.f10
  have := lt_of_cell l1
  dsimp only at this
  omega
def rshF (f k : Nat) (x : Dec) : Option Dec :=
  (rs1 k x.nd x.dg f 0 0).bind fun a => if a.1 ≤ 1000000 then (if -1000000000 ≤ x.dp then (if x.dp ≤ 1000000000 then
    (rs2 k x.nd f a.1 0 a.2 x.dg).bind fun b => (rs3 k f b.1 b.2.1 b.2.2 x.trunc).bind fun c => (trimL f c.2.1 c.1).bind fun m =>
      some { dg := c.2.1, nd := m, dp := if m = 0 then 0 else x.dp - ((a.1 : Int) - 1), neg := x.neg, trunc := c.2.2 } else none) else none) else none
def lshF (f k : Nat) (x : Dec) : Option Dec :=
  if x.nd ≤ 800 then (if (lcS k).size ≤ 1000 then (if 1 ≤ lcD k then (if lcD k ≤ 1000 then (if -1000000000 ≤ x.dp then (if x.dp ≤ 1000000000 then
    (plT x.dg x.nd (lcS k) f 0).bind fun less => (ls1 k f x.nd (x.nd + (lcD k - (if less then 1 else 0))) 0 x.dg x.trunc).bind fun a => (ls2 f a.1 a.2.1 a.2.2.1 a.2.2.2).bind fun b =>
      (trimL f b.1 (if 800 ≤ x.nd + (lcD k - (if less then 1 else 0)) then 800 else x.nd + (lcD k - (if less then 1 else 0)))).bind fun m =>
        some { dg := b.1, nd := m, dp := if m = 0 then 0 else x.dp + ((lcD k - (if less then 1 else 0) : Nat) : Int), neg := x.neg, trunc := b.2 } else none) else none) else none) else none) else none) else none
theorem rsh_calls (f k : Nat) (x y : Dec) (B : Nat) (w : World) (hx : DecAt w B x) (hk : k ≤ 60) (h : rshF f k x = some y) :
    Calls Tryz.prog 177 #[.pointer (some ⟨B, 0, none⟩), .int .u64 k] w fun e w' => e = .returned (.tuple #[]) ∧ DecAt w' B y ∧ Only B w w' := by
  unfold rshF at h
  obtain ⟨⟨r0, n0⟩, h1, h⟩ := Option.bind_eq_some_iff.1 h
  by_cases c1 : r0 ≤ 1000000
  · rw [if_pos c1] at h
    by_cases c2 : -1000000000 ≤ x.dp
    · rw [if_pos c2] at h
      by_cases c3 : x.dp ≤ 1000000000
      · rw [if_pos c3] at h
        obtain ⟨⟨w2, n2, dg2⟩, h2, h⟩ := Option.bind_eq_some_iff.1 h
        obtain ⟨⟨w3, dg3, t3⟩, h3, h⟩ := Option.bind_eq_some_iff.1 h
        obtain ⟨m, h4, h⟩ := Option.bind_eq_some_iff.1 h
        exact rshift_calls f x y k r0 n0 w2 n2 w3 m dg2 dg3 t3 B w hx hk h1 h2 h3 h4 c1 c2 c3 (Option.some.inj h).symm
      · rw [if_neg c3] at h; cases h
    · rw [if_neg c2] at h; cases h
  · rw [if_neg c1] at h; cases h
theorem lsh_calls (f k : Nat) (x y : Dec) (B : Nat) (w : World) (hw : TabsUnder B w) (hx : DecAt w B x) (hk1 : 1 ≤ k) (hk : k ≤ 60) (h : lshF f k x = some y) :
    Calls Tryz.prog 176 #[.pointer (some ⟨B, 0, none⟩), .int .u64 k] w fun e w' => e = .returned (.tuple #[]) ∧ DecAt w' B y ∧ Only B w w' := by
  unfold lshF at h
  by_cases c1 : x.nd ≤ 800
  · rw [if_pos c1] at h
    by_cases c2 : (lcS k).size ≤ 1000
    · rw [if_pos c2] at h
      by_cases c3 : 1 ≤ lcD k
      · rw [if_pos c3] at h
        by_cases c4 : lcD k ≤ 1000
        · rw [if_pos c4] at h
          by_cases c5 : -1000000000 ≤ x.dp
          · rw [if_pos c5] at h
            by_cases c6 : x.dp ≤ 1000000000
            · rw [if_pos c6] at h
              obtain ⟨less, h1, h⟩ := Option.bind_eq_some_iff.1 h
              obtain ⟨⟨v1, n1, dg1, t1⟩, h2, h⟩ := Option.bind_eq_some_iff.1 h
              obtain ⟨⟨dg2, t2⟩, h3, h⟩ := Option.bind_eq_some_iff.1 h
              obtain ⟨m, h4, h⟩ := Option.bind_eq_some_iff.1 h
              exact lshift_calls f x y k v1 n1 m dg1 dg2 less t1 t2 _ _ B w hw.tabs hx hw.ne8 (by have := hw.gt; omega) hk1 hk c1 h1 c2 rfl c3 c4 h2 h3 rfl h4 c5 c6 (Option.some.inj h).symm
            · rw [if_neg c6] at h; cases h
          · rw [if_neg c5] at h; cases h
        · rw [if_neg c4] at h; cases h
      · rw [if_neg c3] at h; cases h
    · rw [if_neg c2] at h; cases h
  · rw [if_neg c1] at h; cases h
def shlL (f : Nat) : Nat → Nat → Dec → Option Dec
  | 0, _, _ => none
  | j + 1, k, x => if 60 < k then (lshF f 60 x).bind fun y => shlL f j (k - 60) y else (if 1 ≤ k then lshF f k x else none)
def shrL (f : Nat) : Nat → Nat → Dec → Option Dec
  | 0, _, _ => none
  | j + 1, k, x => if 60 < k then (rshF f 60 x).bind fun y => shrL f j (k - 60) y else (if 1 ≤ k then rshF f k x else none)
set_option maxHeartbeats 1000000 in
theorem shl_calls (f j k : Nat) (x y : Dec) (B : Nat) (w : World) (hw : TabsUnder B w) (hx : DecAt w B x) (hnd : 0 < x.nd) (hk0 : 1 ≤ k) (hk : k ≤ 1000000000) (h : shlL f j k x = some y) :
    Calls Tryz.prog 155 #[.pointer (some ⟨B, 0, none⟩), .int .i64 k] w fun e w' => e = .returned (.tuple #[]) ∧ DecAt w' B y ∧ Only B w w' := by
  have c800 := hx.n
  have A1 := Lib.hid h
  have b1 : ((x.nd : Int) == 0) = false := beq_eq_false_iff_ne.2 (by omega)
  have b2 : decide (0 < k) = true := decide_eq_true hk0
  clear h
  go_enter Tryz.func155, Tryz.ntmps155
  go_wp2
  go_loopg [1] j (fun j s1 wr => ∃ (k : Nat) (x : Dec), s1 = .int .i64 k ∧ k ≤ 1000000000 ∧ TabsUnder B wr ∧ DecAt wr B x ∧ Only B w wr ∧ Aside (shlL f j k x = some y))
  case atStart => exact ⟨k, x, rfl, hk, hw, hx, Only.refl _ _, A1.out⟩
  case round =>
    clear A1 c800 hx hw hk hnd hk0 b1 b2
    obtain ⟨k, x, rfl, hk, hw, hd, ho, hA⟩ := hrel
    have H := hA.out
    clear hA
    cases gk with
    | zero => cases H
    | succ j =>
    rw [shlL] at H
    by_cases c1 : 60 < k
    · rw [if_pos c1] at H
      obtain ⟨z, h1, H⟩ := Option.bind_eq_some_iff.1 H
      have H' := Lib.hid H
      have H1 := Lib.hid h1
      clear H h1
      go_wp2_with (go_at_call 176; refine (lsh_calls f 60 _ z B _ hw hd (by omega) (by omega) H1.out).mono ?_; rintro e w' ⟨rfl, hd', ho'⟩)
      go_roundg j
      case measure => omega
      case rel => exact ⟨k - 60, z, by first | rfl | go_num, by omega, hw.only ho', hd', ho.trans ho', H'.out⟩
    · rw [if_neg c1] at H
      by_cases c2 : 1 ≤ k
      · rw [if_pos c2] at H
        have H' := Lib.hid H
        clear H
        go_wp2_with (go_at_call 176; refine (lsh_calls f k _ y B _ hw hd c2 (by omega) H'.out).mono ?_; rintro e w' ⟨rfl, hd', ho'⟩)
        go_end0
        exact ⟨rfl, hd', ho.trans ho'⟩
      · rw [if_neg c2] at H; cases H
set_option maxHeartbeats 1000000 in
theorem shr_calls (f j k : Nat) (x y : Dec) (B : Nat) (w : World) (hx : DecAt w B x) (hnd : 0 < x.nd) (hk0 : 1 ≤ k) (hk : k ≤ 1000000000) (h : shrL f j k x = some y) :
    Calls Tryz.prog 155 #[.pointer (some ⟨B, 0, none⟩), .int .i64 (-(k : Int))] w fun e w' => e = .returned (.tuple #[]) ∧ DecAt w' B y ∧ Only B w w' := by
  have c800 := hx.n
  have A1 := Lib.hid h
  have b1 : ((x.nd : Int) == 0) = false := beq_eq_false_iff_ne.2 (by omega)
  have b2 : decide (0 < k) = true := decide_eq_true hk0
  have b3 : decide ((k : Int) < 0) = false := decide_eq_false (by omega)
  clear h
  go_enter Tryz.func155, Tryz.ntmps155
  go_wp2
  go_loopg [1] j (fun j s1 wr => ∃ (k : Nat) (x : Dec), s1 = .int .i64 (-(k : Int)) ∧ k ≤ 1000000000 ∧ DecAt wr B x ∧ Only B w wr ∧ Aside (shrL f j k x = some y))
  case atStart => exact ⟨k, x, rfl, hk, hx, Only.refl _ _, A1.out⟩
  case round =>
    clear A1 c800 hx hk hnd hk0 b1 b2 b3
    obtain ⟨k, x, rfl, hk, hd, ho, hA⟩ := hrel
    have H := hA.out
    clear hA
    cases gk with
    | zero => cases H
    | succ j =>
    rw [shrL] at H
    by_cases c1 : 60 < k
    · rw [if_pos c1] at H
      obtain ⟨z, h1, H⟩ := Option.bind_eq_some_iff.1 H
      have H' := Lib.hid H
      have H1 := Lib.hid h1
      clear H h1
      go_wp2_with (go_at_call 177; refine (rsh_calls f 60 _ z B _ hd (by omega) H1.out).mono ?_; rintro e w' ⟨rfl, hd', ho'⟩)
      go_roundg j
      case measure => omega
      case rel => exact ⟨k - 60, z, by first | rfl | go_num | (congr 1; omega), by omega, hd', ho.trans ho', H'.out⟩
    · rw [if_neg c1] at H
      by_cases c2 : 1 ≤ k
      · rw [if_pos c2] at H
        have H' := Lib.hid H
        clear H
        go_wp2_with (go_at_call 177; refine (rsh_calls f k _ y B _ hd (by omega) H'.out).mono ?_; rintro e w' ⟨rfl, hd', ho'⟩)
        go_end0
        exact ⟨rfl, hd', ho.trans ho'⟩
      · rw [if_neg c2] at H; cases H
theorem sh0_calls (x : Dec) (k : Int) (B : Nat) (w : World) (hx : DecAt w B x) (hnd : x.nd = 0) :
    Calls Tryz.prog 155 #[.pointer (some ⟨B, 0, none⟩), .int .i64 k] w fun e w' => e = .returned (.tuple #[]) ∧ w' = w := by
  have c800 := hx.n
  rw [hnd] at c800
  clear hnd
  go_enter Tryz.func155, Tryz.ntmps155
  go_wp2
  go_end0
  exact ⟨rfl, rfl⟩
end Go.Proofs.YtnggkkdcddpjlaaGreatDoor
