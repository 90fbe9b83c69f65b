/- decimal: shouldRoundUp, RoundedInteger: what they answer. -/
import Derived.Test.YtnggkkdcddpjlaaGreatDoorShf
namespace Go.Proofs.YtnggkkdcddpjlaaGreatDoor
set_option linter.unusedVariables false
set_option linter.unusedSimpArgs false
open Go.RowKit
def sruF (x : Dec) (n : Nat) : Option Bool :=
  if x.nd ≤ n then some false else
  if 800 ≤ n then none else
  if x.dg n = 53 ∧ n + 1 = x.nd then
    (if x.trunc then some true else if n = 0 then some false else
      if x.dg (n - 1) < 48 then none else if 57 < x.dg (n - 1) then none else some (decide ((x.dg (n - 1) - 48) % 2 ≠ 0)))
  else some (decide (53 ≤ x.dg n))
theorem ret_bool {a b : Bool} (h : a = b) : Ending.returned (.bool a) = .returned (.bool b) := by rw [h]
theorem sru_neg (x : Dec) (n : Int) (B : Nat) (w : World) (hx : DecAt w B x) (hn : n < 0) :
    Calls Tryz.prog 178 #[.pointer (some ⟨B, 0, none⟩), .int .i64 n] w fun e w' => e = .returned (.bool false) ∧ w = w' := by
  have c800 := hx.n
  go_enter Tryz.func178, Tryz.ntmps178
  go_wp2
  go_ret
  exact ⟨rfl, rfl⟩
set_option maxHeartbeats 1000000 in
theorem sru_calls (x : Dec) (n : Nat) (r : Bool) (B : Nat) (w : World) (hx : DecAt w B x) (h : sruF x n = some r) :
    Calls Tryz.prog 178 #[.pointer (some ⟨B, 0, none⟩), .int .i64 n] w fun e w' => e = .returned (.bool r) ∧ w = w' := by
  have c800 := hx.n
  have c803 := hx.t
  unfold sruF at h
  by_cases c1 : x.nd ≤ n
  · rw [if_pos c1] at h
    obtain rfl := Option.some.inj h
    clear h
    have b1 : decide ((n : Int) < 0) = false := decide_eq_false (by omega)
    go_enter Tryz.func178, Tryz.ntmps178
    go_wp2
    go_ret
    exact ⟨rfl, rfl⟩
  rw [if_neg c1] at h
  have b1 : decide ((n : Int) < 0) = false := decide_eq_false (by omega)
  by_cases c2 : 800 ≤ n
  · rw [if_pos c2] at h; cases h
  rw [if_neg c2] at h
  have cn := hx.d n (by omega)
  by_cases c3 : x.dg n = 53 ∧ n + 1 = x.nd
  · rw [if_pos c3] at h
    have b2 : (((x.dg n : Nat) : Int) == 53) = true := beq_iff_eq.2 (by omega)
    have b3 : ((n : Int) + 1 == (x.nd : Int)) = true := beq_iff_eq.2 (by omega)
    by_cases c4 : x.trunc = true
    · rw [if_pos c4] at h
      obtain rfl := Option.some.inj h
      rw [c4] at c803
      clear h c3 c4
      go_enter Tryz.func178, Tryz.ntmps178
      go_wp2
      go_ret
      exact ⟨rfl, rfl⟩
    · rw [if_neg c4] at h
      rw [Bool.not_eq_true] at c4
      rw [c4] at c803
      clear c4
      by_cases c5 : n = 0
      · rw [if_pos c5] at h
        obtain rfl := Option.some.inj h
        have b4 : decide (0 < n) = false := decide_eq_false (by omega)
        clear h c3 c5
        go_enter Tryz.func178, Tryz.ntmps178
        go_wp2
        go_ret
        exact ⟨rfl, rfl⟩
      · rw [if_neg c5] at h
        have b4 : decide (0 < n) = true := decide_eq_true (by omega)
        by_cases c6 : x.dg (n - 1) < 48
        · rw [if_pos c6] at h; cases h
        rw [if_neg c6] at h
        by_cases c7 : 57 < x.dg (n - 1)
        · rw [if_pos c7] at h; cases h
        rw [if_neg c7] at h
        have cm := hx.d (n - 1) (by omega)
        have HR := Lib.hid h
        clear h c3
        go_enter Tryz.func178, Tryz.ntmps178
        go_wp2
        go_ret
        obtain rfl := Option.some.inj HR.out
        refine ⟨ret_bool (a := ((((x.dg (n - 1) : Nat) : Int) - 48) % 2 != 0)) ?_, rfl⟩
        rw [Bool.eq_iff_iff, bne_iff_ne, decide_eq_true_eq]
        omega
  · rw [if_neg c3] at h
    by_cases c4 : x.dg n = 53
    · have b2 : (((x.dg n : Nat) : Int) == 53) = true := beq_iff_eq.2 (by omega)
      have b3 : ((n : Int) + 1 == (x.nd : Int)) = false := beq_eq_false_iff_ne.2 (by omega)
      have HR := Lib.hid h
      clear h c3 c4
      go_enter Tryz.func178, Tryz.ntmps178
      go_wp2
      go_ret
      obtain rfl := Option.some.inj HR.out
      exact ⟨ret_bool (a := decide ((53 : Int) ≤ ((x.dg n : Nat) : Int))) (by rw [Bool.eq_iff_iff, decide_eq_true_eq, decide_eq_true_eq]; omega), rfl⟩
    · have b2 : (((x.dg n : Nat) : Int) == 53) = false := beq_eq_false_iff_ne.2 (by omega)
      have HR := Lib.hid h
      clear h c3 c4
      go_enter Tryz.func178, Tryz.ntmps178
      go_wp2
      go_ret
      obtain rfl := Option.some.inj HR.out
      exact ⟨ret_bool (a := decide ((53 : Int) ≤ ((x.dg n : Nat) : Int))) (by rw [Bool.eq_iff_iff, decide_eq_true_eq, decide_eq_true_eq]; omega), rfl⟩
/-- The two loops of RoundedInteger. -/
def ri1 (x : Dec) : Nat → Nat → Int → Option (Nat × Int)
  | 0, _, _ => none
  | f + 1, i, n => if (i : Int) < x.dp ∧ i < x.nd then (if 800 ≤ i then none else if x.dg i < 48 then none else if 57 < x.dg i then none else ri1 x f (i + 1) (IntKind.u64.wrap (IntKind.u64.wrap (n * 10) + ((x.dg i : Int) - 48)))) else some (i, n)
def ri2 (x : Dec) : Nat → Nat → Int → Option Int
  | 0, _, _ => none
  | f + 1, i, n => if (i : Int) < x.dp then (if 1000000 ≤ i then none else ri2 x f (i + 1) (IntKind.u64.wrap (n * 10))) else some n
def riF (f : Nat) (x : Dec) : Option Int :=
  if 20 < x.dp then some 18446744073709551615 else
  (ri1 x f 0 0).bind fun a => (ri2 x f a.1 a.2).bind fun n => if x.dp < 0 then some n else (sruF x x.dp.toNat).bind fun b => some (if b then IntKind.u64.wrap (n + 1) else n)
set_option maxHeartbeats 1000000 in
theorem ri_big (x : Dec) (B : Nat) (w : World) (hx : DecAt w B x) (hd : 20 < x.dp) :
    Calls Tryz.prog 203 #[.pointer (some ⟨B, 0, none⟩)] w fun e w' => e = .returned (.int .u64 18446744073709551615) ∧ w = w' := by
  have c801 := hx.p
  go_enter Tryz.func203, Tryz.ntmps203
  go_wp2
  go_ret
  exact ⟨rfl, rfl⟩
set_option maxHeartbeats 2000000 in
theorem ri_small (f : Nat) (x : Dec) (i1 : Nat) (n1 n2 : Int) (b : Bool) (B : Nat) (w : World) (hx : DecAt w B x) (hd : x.dp ≤ 20) (h1 : ri1 x f 0 0 = some (i1, n1)) (h2 : ri2 x f i1 n1 = some n2)
    (hb : Calls Tryz.prog 178 #[.pointer (some ⟨B, 0, none⟩), .int .i64 x.dp] w fun e w' => e = .returned (.bool b) ∧ w = w') :
    Calls Tryz.prog 203 #[.pointer (some ⟨B, 0, none⟩)] w fun e w' => e = .returned (.int .u64 (if b then IntKind.u64.wrap (n2 + 1) else n2)) ∧ w = w' := by
  have c801 := hx.p
  have c800 := hx.n
  have A1 := Lib.hid h1
  have A2 := Lib.hid h2
  have HB := Lib.hid hb
  clear h1 h2 hb
  go_enter Tryz.func203, Tryz.ntmps203
  go_upto_block 0 with fail
  go_cut [3, 4] (fun s3 s4 wc => s3 = .int .i64 i1 ∧ s4 = .int .u64 n1 ∧ i1 ≤ 1000000 ∧ w = wc)
  case first =>
    go_wp2_with fail
    go_loopg [3, 4] f (fun f s3 s4 wr => ∃ (i : Nat) (n : Int), s3 = .int .i64 i ∧ s4 = .int .u64 n ∧ i ≤ 1000000 ∧ w = wr ∧ Aside (ri1 x f i n = some (i1, n1)))
    case atStart => exact ⟨0, 0, rfl, rfl, by omega, rfl, A1.out⟩
    case round =>
      clear A1 A2 HB
      obtain ⟨i, n, rfl, rfl, hi, rfl, hA⟩ := hrel
      have H := hA.out
      clear hA
      cases gk with
      | zero => cases H
      | succ f =>
      rw [ri1] at H
      by_cases c1 : (i : Int) < x.dp
      · have b1 : decide ((i : Int) < x.dp) = true := decide_eq_true c1
        by_cases c2 : i < x.nd
        · have b2 : decide (i < x.nd) = true := decide_eq_true c2
          rw [if_pos ⟨c1, c2⟩] at H
          by_cases c3 : 800 ≤ i
          · rw [if_pos c3] at H; cases H
          rw [if_neg c3] at H
          by_cases c4 : x.dg i < 48
          · rw [if_pos c4] at H; cases H
          rw [if_neg c4] at H
          by_cases c5 : 57 < x.dg i
          · rw [if_pos c5] at H; cases H
          rw [if_neg c5] at H
          have ci := hx.d i (by omega)
          have H' := Lib.hid H
          clear H
          go_wp2
          go_roundg f
          case measure => omega
          case rel => exact ⟨i + 1, _, by go_num, rfl, by omega, rfl, H'.out⟩
        · have b2 : decide (i < x.nd) = false := decide_eq_false c2
          rw [if_neg (fun h => c2 h.2)] at H
          have H' := Lib.hid H
          clear H
          go_wp2
          go_meet
          obtain ⟨rfl, rfl⟩ := Prod.mk.inj (Option.some.inj H'.out)
          exact ⟨rfl, rfl, hi, rfl⟩
      · have b1 : decide ((i : Int) < x.dp) = false := decide_eq_false c1
        rw [if_neg (fun h => c1 h.1)] at H
        have H' := Lib.hid H
        clear H
        go_wp2
        go_meet
        obtain ⟨rfl, rfl⟩ := Prod.mk.inj (Option.some.inj H'.out)
        exact ⟨rfl, rfl, hi, rfl⟩
  case rest =>
    obtain ⟨rfl, rfl, hi1, rfl⟩ := hcut
    clear A1
    go_wp2_with fail
    go_loopg [3, 4] f (fun f s3 s4 wr => ∃ (i : Nat) (n : Int), s3 = .int .i64 i ∧ s4 = .int .u64 n ∧ i ≤ 1000000 ∧ w = wr ∧ Aside (ri2 x f i n = some n2))
    case atStart => exact ⟨i1, n1, rfl, rfl, hi1, rfl, A2.out⟩
    case round =>
      clear A2
      obtain ⟨i, n, rfl, rfl, hi, rfl, hA⟩ := hrel
      have H := hA.out
      clear hA
      cases gk with
      | zero => cases H
      | succ f =>
      rw [ri2] at H
      by_cases c1 : (i : Int) < x.dp
      · rw [if_pos c1] at H
        by_cases c2 : 1000000 ≤ i
        · rw [if_pos c2] at H; cases H
        rw [if_neg c2] at H
        have H' := Lib.hid H
        clear H
        go_wp2
        go_roundg f
        case measure => omega
        case rel => exact ⟨i + 1, _, by go_num, rfl, by omega, rfl, H'.out⟩
      · rw [if_neg c1] at H
        obtain rfl := Option.some.inj H
        clear H
        cases b
        · go_wp2_with (go_at_call 178; refine (HB.out).mono ?_; rintro e w' ⟨rfl, rfl⟩)
          go_ret
          exact ⟨rfl, rfl⟩
        · go_wp2_with (go_at_call 178; refine (HB.out).mono ?_; rintro e w' ⟨rfl, rfl⟩)
          go_ret
          exact ⟨rfl, rfl⟩
theorem ri_calls (f : Nat) (x : Dec) (r : Int) (B : Nat) (w : World) (hx : DecAt w B x) (h : riF f x = some r) :
    Calls Tryz.prog 203 #[.pointer (some ⟨B, 0, none⟩)] w fun e w' => e = .returned (.int .u64 r) ∧ w = w' := by
  unfold riF at h
  by_cases c1 : 20 < x.dp
  · rw [if_pos c1] at h
    obtain rfl := Option.some.inj h
    exact ri_big x B w hx c1
  rw [if_neg c1] at h
  obtain ⟨⟨i1, n1⟩, h1, h⟩ := Option.bind_eq_some_iff.1 h
  obtain ⟨n2, h2, h⟩ := Option.bind_eq_some_iff.1 h
  by_cases c2 : x.dp < 0
  · rw [if_pos c2] at h
    obtain rfl := Option.some.inj h
    exact ri_small f x i1 n1 n2 false B w hx (by omega) h1 h2 (sru_neg x x.dp B w hx c2)
  rw [if_neg c2] at h
  obtain ⟨b, h3, h⟩ := Option.bind_eq_some_iff.1 h
  obtain rfl := Option.some.inj h
  have e : x.dp = ((x.dp.toNat : Nat) : Int) := by omega
  exact ri_small f x i1 n1 n2 b B w hx (by omega) h1 h2 (by rw [e]; exact sru_calls x _ b B w hx h3)
end Go.Proofs.YtnggkkdcddpjlaaGreatDoor
