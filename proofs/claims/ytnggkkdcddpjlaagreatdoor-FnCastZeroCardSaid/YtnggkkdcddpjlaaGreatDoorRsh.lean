/- decimal: rightShift: what it leaves. -/
import Derived.Test.YtnggkkdcddpjlaaGreatDoorTrim
import Derived.Deep.CutBlock
import Derived.Deep.DeepCutAuto
namespace Go.Proofs.YtnggkkdcddpjlaaGreatDoor
open Go.RowKit
theorem wrap_u64_nat (r : Nat) (h : r < 18446744073709551616) : IntKind.u64.wrap (r : Int) = (r : Int) := by
  simp only [IntKind.wrap, IntKind.bits, IntKind.signed]
  simp
  omega
theorem pow_wrap (k : Nat) (hk : k ≤ 60) : IntKind.u64.wrap ((2 : Int) ^ k) = ((2 ^ k : Nat) : Int) := by
  have h3 : 2 ^ k ≤ 2 ^ 60 := Nat.pow_le_pow_right (by omega) hk
  have : ((2 : Int) ^ k) = ((2 ^ k : Nat) : Int) := by simp
  rw [this]
  exact wrap_u64_nat _ (by omega)
theorem bits_mask (n P k : Nat) (hP : P = 2 ^ k) (hk : k ≤ 60) (hn : n < 18446744073709551616) : Go.bits .and .u64 (n : Int) ((P : Int) - 1) = ((n % 2 ^ k : Nat) : Int) := by
  have h0 : 0 < 2 ^ k := Nat.two_pow_pos k
  have h3 : 2 ^ k ≤ 2 ^ 60 := Nat.pow_le_pow_right (by omega) hk
  have h1 : ((P : Int) - 1) = ((2 ^ k - 1 : Nat) : Int) := by omega
  have h2 : n &&& (2 ^ k - 1) = n % 2 ^ k := Nat.and_two_pow_sub_one_eq_mod n k
  have h5 : n % 2 ^ k < 2 ^ k := Nat.mod_lt _ h0
  have h4 : (BitVec.ofNat 64 n &&& BitVec.ofInt 64 ((P : Int) - 1)).toNat = n % 2 ^ k := by
    rw [h1, BitVec.ofInt_natCast, BitVec.toNat_and, BitVec.toNat_ofNat, BitVec.toNat_ofNat, Nat.mod_eq_of_lt (a := n) (by omega), Nat.mod_eq_of_lt (a := 2 ^ k - 1) (by omega), h2]
  simp [Go.bits]
  exact (congrArg (fun r : Nat => IntKind.u64.wrap (r : Int)) h4).trans (by rw [wrap_u64_nat _ (by omega)]; simp)
theorem shr_nat (n k : Nat) : ((n : Int)) / 2 ^ k = ((n / 2 ^ k : Nat) : Int) := by simp
/-! The first loop: leading digits until the shifted number is not 0. -/
def rs1b (k : Nat) : Nat → Nat → Nat → Option (Nat × Nat)
  | 0, _, _ => none
  | f + 1, r, n => if n / 2 ^ k = 0 then (if r < 1000000 then rs1b k f (r + 1) (n * 10) else none) else some (r, n)
def rs1 (k nd : Nat) (dg : Nat → Nat) : Nat → Nat → Nat → Option (Nat × Nat)
  | 0, _, _ => none
  | f + 1, r, n =>
    if n / 2 ^ k = 0 then
      (if nd ≤ r then (if n = 0 then none else rs1b k f r n)
       else (if r < 800 then (if 48 ≤ dg r then (if dg r ≤ 57 then rs1 k nd dg f (r + 1) (n * 10 + dg r - 48) else none) else none) else none))
    else some (r, n)
/-- The second: a digit read, a digit written. -/
def rs2 (k nd : Nat) : Nat → Nat → Nat → Nat → (Nat → Nat) → Option (Nat × Nat × (Nat → Nat))
  | 0, _, _, _, _ => none
  | f + 1, r, w, n, dg =>
    if r < nd then
      (if r < 800 then (if w < 800 then (if n / 2 ^ k ≤ 9 then (if 48 ≤ dg r then (if dg r ≤ 57 then rs2 k nd f (r + 1) (w + 1) (n % 2 ^ k * 10 + dg r - 48) (dput dg w (n / 2 ^ k + 48)) else none) else none) else none) else none) else none)
    else some (w, n, dg)
/-- The third: what is left. -/
def rs3 (k : Nat) : Nat → Nat → Nat → (Nat → Nat) → Bool → Option (Nat × (Nat → Nat) × Bool)
  | 0, _, _, _, _ => none
  | f + 1, w, n, dg, t =>
    if 0 < n then
      (if n / 2 ^ k ≤ 9 then
        (if w < 800 then rs3 k f (w + 1) (n % 2 ^ k * 10) (dput dg w (n / 2 ^ k + 48)) t
         else if 0 < n / 2 ^ k then rs3 k f w (n % 2 ^ k * 10) dg true else rs3 k f w (n % 2 ^ k * 10) dg t)
       else none)
    else some (w, dg, t)

theorem div_pow_zero {n k : Nat} (h : n / 2 ^ k = 0) (hk : k ≤ 60) : n < 1152921504606846976 := by
  have h0 : 0 < 2 ^ k := Nat.two_pow_pos k
  have h3 : 2 ^ k ≤ 2 ^ 60 := Nat.pow_le_pow_right (by omega) hk
  have := (Nat.div_eq_zero_iff_lt h0).1 h
  omega
theorem mod_pow_lt (n : Nat) {k : Nat} (hk : k ≤ 60) : n % 2 ^ k < 1152921504606846976 := by
  have h0 : 0 < 2 ^ k := Nat.two_pow_pos k
  have h3 : 2 ^ k ≤ 2 ^ 60 := Nat.pow_le_pow_right (by omega) hk
  have := Nat.mod_lt n h0
  omega
theorem dig_pow_lt {n k : Nat} (h : n / 2 ^ k ≤ 9) (hk : k ≤ 60) : n < 18446744073709551616 := by
  have h0 : 0 < 2 ^ k := Nat.two_pow_pos k
  have h3 : 2 ^ k ≤ 2 ^ 60 := Nat.pow_le_pow_right (by omega) hk
  have h4 := Nat.div_add_mod n (2 ^ k)
  have := Nat.mod_lt n h0
  have h5 : 2 ^ k * (n / 2 ^ k) ≤ 2 ^ k * 9 := Nat.mul_le_mul_left _ h
  omega

set_option maxHeartbeats 2000000 in
set_option maxRecDepth 100000 in
theorem rshift_calls (fF : Nat) (x y : Dec) (k r0 n0 w2 n2 w3 m : Nat) (dg2 dg3 : Nat → Nat) (t3 : Bool) (B : Nat) (w : World) (hx : DecAt w B x) (hk2 : k ≤ 60)
    (h1 : rs1 k x.nd x.dg fF 0 0 = some (r0, n0)) (h2 : rs2 k x.nd fF r0 0 n0 x.dg = some (w2, n2, dg2)) (h3 : rs3 k fF w2 n2 dg2 x.trunc = some (w3, dg3, t3)) (h4 : trimL fF dg3 w3 = some m)
    (hr0 : r0 ≤ 1000000) (hdp1 : -1000000000 ≤ x.dp) (hdp2 : x.dp ≤ 1000000000)
    (hy : y = { dg := dg3, nd := m, dp := if m = 0 then 0 else x.dp - ((r0 : Int) - 1), neg := x.neg, trunc := t3 }) :
    Calls Tryz.prog 177 #[.pointer (some ⟨B, 0, none⟩), .int .u64 k] w fun e w' => e = .returned (.tuple #[]) ∧ DecAt w' B y ∧ Only B w w' := by
  have AY := Lib.hid hy
  have A1 := Lib.hid h1
  have A2 := Lib.hid h2
  have A3 := Lib.hid h3
  have A4 := Lib.hid h4
  clear hy h1 h2 h3 h4
  go_enter Tryz.func177, Tryz.ntmps177
  go_upto_block 0 with fail
  go_cut [4, 6] (fun s4 s6 wc => s4 = .int .i64 r0 ∧ s6 = .int .u64 n0 ∧ DecAt wc B x ∧ Only B w wc)
  case first =>
    go_wp2_with fail
    go_loopg [4, 6] fF (fun f s4 s6 wr => ∃ r n : Nat, s4 = .int .i64 r ∧ s6 = .int .u64 n ∧ r ≤ 1000000 ∧ DecAt wr B x ∧ Only B w wr ∧ Aside (rs1 k x.nd x.dg f r n = some (r0, n0)))
    case atStart => exact ⟨0, 0, rfl, rfl, by omega, hx, Only.refl _ _, A1.out⟩
    case round =>
      clear A1 hx
      obtain ⟨r, n, rfl, rfl, hr, hd, ho, hA⟩ := hrel
      have H := hA.out
      clear hA
      cases gk with
      | zero => cases H
      | succ f =>
      rw [rs1] at H
      have c800 := hd.n
      obtain ⟨q, hq⟩ : ∃ q, q = n / 2 ^ k := ⟨_, rfl⟩
      have hs : (n : Int) / 2 ^ k = (q : Int) := by rw [hq]; exact shr_nat n k
      rw [← hq] at H
      by_cases c1 : q = 0
      · rw [if_pos c1] at H
        have hn := div_pow_zero (hq.symm.trans c1) hk2
        have c1b : ((q : Int) == 0) = true := beq_iff_eq.2 (by omega)
        clear hq c1
        by_cases c2 : x.nd ≤ r
        · rw [if_pos c2] at H
          by_cases c3 : n = 0
          · rw [if_pos c3] at H; cases H
          · rw [if_neg c3] at H
            have c3b : ((n : Int) == 0) = false := beq_eq_false_iff_ne.2 (by omega)
            have H' := Lib.hid H
            clear H c3
            have HC := Lib.hid (And.intro c1b (And.intro hs c3b))
            go_wp2
            clear c1b hs c3b
            go_loopg [4, 6] f (fun f s4 s6 wi => wi = wr ∧ ∃ r n : Nat, s4 = .int .i64 r ∧ s6 = .int .u64 n ∧ r ≤ 1000000 ∧ Aside (rs1b k f r n = some (r0, n0)))
            case atStart => exact ⟨rfl, r, n, rfl, rfl, hr, H'.out⟩
            case round =>
              clear H' HC hn hr
              obtain ⟨rfl, r, n, rfl, rfl, hr, hA⟩ := hrel
              have H := hA.out
              clear hA
              cases gk with
              | zero => cases H
              | succ f =>
              rw [rs1b] at H
              obtain ⟨q, hq⟩ : ∃ q, q = n / 2 ^ k := ⟨_, rfl⟩
              have hs : (n : Int) / 2 ^ k = (q : Int) := by rw [hq]; exact shr_nat n k
              rw [← hq] at H
              by_cases c1 : q = 0
              · rw [if_pos c1] at H
                have hn := div_pow_zero (hq.symm.trans c1) hk2
                have c1b : ((q : Int) == 0) = true := beq_iff_eq.2 (by omega)
                clear hq c1
                by_cases c4 : r < 1000000
                · rw [if_pos c4] at H
                  have H' := Lib.hid H
                  clear H
                  go_wp2
                  go_roundg f
                  case measure => omega
                  case rel => exact ⟨rfl, r + 1, n * 10, by go_num, by go_num, by omega, H'.out⟩
                · rw [if_neg c4] at H; cases H
              · rw [if_neg c1] at H
                have c1b : ((q : Int) == 0) = false := beq_eq_false_iff_ne.2 (by omega)
                have H' := Lib.hid H
                clear H hq c1
                go_wp2
                go_meet
                obtain ⟨rfl, rfl⟩ := Prod.mk.inj (Option.some.inj H'.out)
                exact ⟨rfl, rfl, hd, ho⟩
        · rw [if_neg c2] at H
          by_cases c3 : r < 800
          · rw [if_pos c3] at H
            by_cases c4 : 48 ≤ x.dg r
            · rw [if_pos c4] at H
              by_cases c5 : x.dg r ≤ 57
              · rw [if_pos c5] at H
                have cd := hd.d r c3
                have H' := Lib.hid H
                clear H
                go_wp2
                go_roundg f
                case measure => omega
                case rel => exact ⟨r + 1, n * 10 + x.dg r - 48, by go_num, by go_num, by omega, hd, ho, H'.out⟩
              · rw [if_neg c5] at H; cases H
            · rw [if_neg c4] at H; cases H
          · rw [if_neg c3] at H; cases H
      · rw [if_neg c1] at H
        have c1b : ((q : Int) == 0) = false := beq_eq_false_iff_ne.2 (by omega)
        have H' := Lib.hid H
        clear H hq c1
        go_wp2
        go_meet
        obtain ⟨rfl, rfl⟩ := Prod.mk.inj (Option.some.inj H'.out)
        exact ⟨rfl, rfl, hd, ho⟩
  case rest =>
    obtain ⟨rfl, rfl, hd, ho⟩ := hcut
    clear A1 hx
    have c801 := hd.p
    have f801 := hd.f 801
    obtain ⟨P, hPe⟩ : ∃ P, P = 2 ^ k := ⟨_, rfl⟩
    have hP : IntKind.u64.wrap ((2 : Int) ^ k) = (P : Int) := by rw [hPe]; exact pow_wrap k hk2
    have hP1 : 1 ≤ P := by rw [hPe]; exact Nat.two_pow_pos k
    have hP2 : P ≤ 1152921504606846976 := by rw [hPe]; exact Nat.pow_le_pow_right (n := 2) (by omega) hk2
    have HPe := Lib.hid hPe
    clear hPe
    go_upto_block 4 with fail
    have hd1 := hd.setP (x.dp - ((r0 : Int) - 1))
    have ho1 := ho.setCell 801 (.int .i64 (x.dp - ((r0 : Int) - 1)))
    clear c801 f801 hd ho hP
    generalize wc.setCell ⟨B, 801, none⟩ (.int .i64 (x.dp - ((r0 : Int) - 1))) = w1 at *
    go_wp2
    go_loopg [4, 5, 6] fF (fun f s4 s5 s6 wr => ∃ (r v n : Nat) (dg : Nat → Nat), s4 = .int .i64 r ∧ s5 = .int .i64 v ∧ s6 = .int .u64 n ∧ r ≤ 1000000 ∧ v ≤ 1000000 ∧ DecAt wr B { x with dg := dg, dp := x.dp - ((r0 : Int) - 1) } ∧ Only B w wr ∧ Aside (rs2 k x.nd f r v n dg = some (w2, n2, dg2)))
    case atStart => exact ⟨r0, 0, n0, x.dg, rfl, rfl, rfl, hr0, by omega, hd1, ho1, A2.out⟩
    case round =>
      clear A2 hd1 ho1 hr0
      obtain ⟨r, v, n, dg, rfl, rfl, rfl, hr, hv, hd, ho, hA⟩ := hrel
      have H := hA.out
      clear hA
      cases gk with
      | zero => cases H
      | succ f =>
      rw [rs2] at H
      have c800 := hd.n
      dsimp only at c800
      by_cases c1 : r < x.nd
      · rw [if_pos c1] at H
        by_cases c2 : r < 800
        · rw [if_pos c2] at H
          by_cases c3 : v < 800
          · rw [if_pos c3] at H
            obtain ⟨q, hq⟩ : ∃ q, q = n / 2 ^ k := ⟨_, rfl⟩
            obtain ⟨u, hu⟩ : ∃ u, u = n % 2 ^ k := ⟨_, rfl⟩
            have hs : (n : Int) / 2 ^ k = (q : Int) := by rw [hq]; exact shr_nat n k
            have hu2 : u < 1152921504606846976 := by rw [hu]; exact mod_pow_lt n hk2
            rw [← hq] at H
            by_cases c4 : q ≤ 9
            · rw [if_pos c4] at H
              have hm : Go.bits .and .u64 (n : Int) ((P : Int) - 1) = (u : Int) := by rw [hu]; exact bits_mask n P k HPe.out hk2 (dig_pow_lt (by rw [← hq]; exact c4) hk2)
              rw [← hu] at H
              clear hq hu
              by_cases c5 : 48 ≤ dg r
              · rw [if_pos c5] at H
                by_cases c6 : dg r ≤ 57
                · rw [if_pos c6] at H
                  have cd := hd.d r c2
                  have cv := hd.d v c3
                  have fv := hd.f v
                  dsimp only at cd cv
                  have H' := Lib.hid H
                  clear H
                  go_wp2
                  go_roundg f
                  case measure => omega
                  case rel =>
                    refine ⟨r + 1, v + 1, u * 10 + dg r - 48, dput dg v (q + 48), by go_num, by go_num, by go_num, by omega, by omega, ?_, ho.setCell _ _, H'.out⟩
                    exact hd.setD v (q + 48) c3
                · rw [if_neg c6] at H; cases H
              · rw [if_neg c5] at H; cases H
            · rw [if_neg c4] at H; cases H
          · rw [if_neg c3] at H; cases H
        · rw [if_neg c2] at H; cases H
      · rw [if_neg c1] at H
        have H' := Lib.hid H
        clear H
        go_wp2
        obtain ⟨rfl, E2⟩ := Prod.mk.inj (Option.some.inj H'.out)
        obtain ⟨rfl, rfl⟩ := Prod.mk.inj E2
        clear E2 H'
        go_loopg [5, 6] fF (fun f s5 s6 wr => ∃ (v n : Nat) (dg : Nat → Nat) (t : Bool), s5 = .int .i64 v ∧ s6 = .int .u64 n ∧ v ≤ 1000000 ∧ DecAt wr B { x with dg := dg, dp := x.dp - ((r0 : Int) - 1), trunc := t } ∧ Only B w wr ∧ Aside (rs3 k f v n dg t = some (w3, dg3, t3)))
        case atStart => exact ⟨v, n, dg, x.trunc, rfl, rfl, hv, hd, ho, A3.out⟩
        case round =>
          clear A3 hd ho hv c800
          obtain ⟨v, n, dg, t, rfl, rfl, hv, hd, ho, hA⟩ := hrel
          have H := hA.out
          clear hA
          cases gk with
          | zero => cases H
          | succ f =>
          rw [rs3] at H
          by_cases c1 : 0 < n
          · rw [if_pos c1] at H
            obtain ⟨q, hq⟩ : ∃ q, q = n / 2 ^ k := ⟨_, rfl⟩
            obtain ⟨u, hu⟩ : ∃ u, u = n % 2 ^ k := ⟨_, rfl⟩
            have hs : (n : Int) / 2 ^ k = (q : Int) := by rw [hq]; exact shr_nat n k
            have hu2 : u < 1152921504606846976 := by rw [hu]; exact mod_pow_lt n hk2
            rw [← hq] at H
            by_cases c4 : q ≤ 9
            · rw [if_pos c4] at H
              have hm : Go.bits .and .u64 (n : Int) ((P : Int) - 1) = (u : Int) := by rw [hu]; exact bits_mask n P k HPe.out hk2 (dig_pow_lt (by rw [← hq]; exact c4) hk2)
              rw [← hu] at H
              clear hq hu
              by_cases c3 : v < 800
              · rw [if_pos c3] at H
                have cv := hd.d v c3
                have fv := hd.f v
                dsimp only at cv
                have H' := Lib.hid H
                clear H
                go_wp2
                go_roundg f
                case measure => omega
                case rel =>
                  refine ⟨v + 1, u * 10, dput dg v (q + 48), t, by go_num, by go_num, by omega, ?_, ho.setCell _ _, H'.out⟩
                  exact hd.setD v (q + 48) c3
              · rw [if_neg c3] at H
                by_cases c5 : 0 < q
                · rw [if_pos c5] at H
                  have ct := hd.t
                  have ft := hd.f 803
                  have H' := Lib.hid H
                  clear H
                  go_wp2
                  go_roundg f
                  case measure => omega
                  case rel => exact ⟨v, u * 10, dg, true, rfl, by go_num, by omega, hd.setT true, ho.setCell _ _, H'.out⟩
                · rw [if_neg c5] at H
                  have H' := Lib.hid H
                  clear H
                  go_wp2
                  go_roundg f
                  case measure => omega
                  case rel => exact ⟨v, u * 10, dg, t, rfl, by go_num, by omega, hd, ho, H'.out⟩
            · rw [if_neg c4] at H; cases H
          · rw [if_neg c1] at H
            have c800 := hd.n
            have f800 := hd.f 800
            obtain ⟨rfl, E2⟩ := Prod.mk.inj (Option.some.inj H)
            obtain ⟨rfl, rfl⟩ := Prod.mk.inj E2
            clear E2 H
            have hd4 := hd.setN v
            have ho4 := ho.setCell 800 (.int .i64 v)
            go_wp2_with (go_at_call 175; refine (trim_calls fF _ y m B _ hd4 (by dsimp only; omega) A4.out AY.out).mono ?_; rintro e w' ⟨rfl, hd5, ho5⟩)
            go_end0
            exact ⟨rfl, hd5, ho4.trans ho5⟩
end Go.Proofs.YtnggkkdcddpjlaaGreatDoor
