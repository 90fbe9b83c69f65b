/- decimal: set: what it answers and what it leaves. -/
import Derived.Test.YtnggkkdcddpjlaaGreatDoorRnd
import Derived.Test.YtnggkkdcddpjlaaGreatDoorShelf
import Derived.StillTailTactics
namespace Go.Proofs.YtnggkkdcddpjlaaGreatDoor
set_option linter.unusedVariables false
set_option linter.unusedSimpArgs false
open Go.RowKit
/-- The loop over the digits: left by a return or not; where; a point seen; a digit seen; the decimal. -/
def setL (s : ByteArray) : Nat → Nat → Bool → Bool → Dec → Option (Bool × Nat × Bool × Bool × Dec)
  | 0, _, _, _, _ => none
  | f + 1, i, sd, sg, x =>
    if i < s.size then
      (if sb s i = 95 then setL s f (i + 1) sd sg x
       else if sb s i = 46 then (if sd = true then some (true, i, sd, sg, x) else setL s f (i + 1) true sg { x with dp := x.nd })
       else if 48 ≤ sb s i then (if sb s i ≤ 57 then
         (if x.nd ≤ 800 then (if sb s i = 48 ∧ x.nd = 0 then
            (if -1000000000 ≤ x.dp then (if x.dp ≤ 1000000000 then setL s f (i + 1) sd true { x with dp := x.dp - 1 } else none) else none)
          else if x.nd < 800 then setL s f (i + 1) sd true { x with dg := dput x.dg x.nd (sb s i), nd := x.nd + 1 }
          else if sb s i = 48 then setL s f (i + 1) sd true x
          else setL s f (i + 1) sd true { x with trunc := true }) else none)
         else some (false, i, sd, sg, x))
       else some (false, i, sd, sg, x))
    else some (false, i, sd, sg, x)
/-- The digits of an exponent. -/
def expL (s : ByteArray) : Nat → Nat → Nat → Bool → Option (Nat × Nat × Bool)
  | 0, _, _, _ => none
  | f + 1, i, e, us =>
    if i < s.size then
      (if sb s i = 95 then expL s f (i + 1) e true
       else if 48 ≤ sb s i then (if sb s i ≤ 57 then
         (if e < 10000 then expL s f (i + 1) (e * 10 + sb s i - 48) us else if e ≤ 1000000 then expL s f (i + 1) e us else none)
         else some (i, e, us))
       else some (i, e, us))
    else some (i, e, us)
def dotDone (sd : Bool) (x : Dec) : Dec := { x with dp := if sd = true then x.dp else x.nd }
/-- Where the digits of an exponent begin, behind its letter at i. -/
def expAt (s : ByteArray) (i : Nat) : Nat := if sb s (i + 1) = 43 ∨ sb s (i + 1) = 45 then i + 2 else i + 1
def expSg (s : ByteArray) (i : Nat) : Int := if sb s (i + 1) = 45 then -1 else 1
def setX (s : ByteArray) (f i : Nat) (x : Dec) : Option (Bool × Dec) :=
  if i < s.size then (if bits .or .u8 (sb s i) 32 = 101 then
    (if i + 1 < s.size then
      (if expAt s i < s.size then (if 48 ≤ sb s (expAt s i) then (if sb s (expAt s i) ≤ 57 then
        (expL s f (expAt s i) 0 false).bind fun a =>
          if a.1 ≤ 2000 then (if a.2.1 ≤ 1000000 then some (decide (a.1 = s.size), { x with dp := x.dp + (a.2.1 : Int) * expSg s i }) else none) else none
       else some (false, x)) else some (false, x)) else some (false, x))
     else some (false, x))
   else some (false, x)) else some (decide (i = s.size), x)
/-- What follows the digits. -/
def setE (s : ByteArray) (f : Nat) (r : Bool) (i : Nat) (sd sg : Bool) (x : Dec) : Option (Bool × Dec) :=
  if r = true then some (false, x) else if sg = false then some (false, x) else
  if -1000000000 ≤ x.dp then (if x.dp ≤ 1000000000 then (if x.nd ≤ 800 then setX s f i (dotDone sd x)
  else none) else none) else none
set_option maxHeartbeats 4000000 in
set_option maxRecDepth 100000 in
theorem set_calls (fF : Nat) (s : ByteArray) (x x1 x2 y : Dec) (i0 i1 : Nat) (r sd sg ok : Bool) (B : Nat) (w : World) (hs : s.size ≤ 1000) (hx : DecAt w B x) (h0 : 0 < s.size)
    (hi0 : i0 = if sb s 0 = 43 ∨ sb s 0 = 45 then 1 else 0) (hx1 : x1 = { x with neg := decide (sb s 0 = 45), trunc := false })
    (hL : setL s fF i0 false false x1 = some (r, i1, sd, sg, x2)) (hE : setE s fF r i1 sd sg x2 = some (ok, y)) :
    Calls Tryz.prog 190 #[.pointer (some ⟨B, 0, none⟩), .string s] w fun e w' => e = .returned (.bool ok) ∧ DecAt w' B y ∧ Only B w w' := by
  have c802 := hx.s
  have f802 := hx.f 802
  have c803 := hx.t
  have f803 := hx.f 803
  have AL := Lib.hid hL
  have AE := Lib.hid hE
  have AX := Lib.hid hx1
  have AI := Lib.hid hi0
  clear hL hE hx1 hi0
  have h0i : (0 : Int) < (s.size : Int) := by omega
  have hb := sb_at h0
  have hse : ¬ s = ByteArray.empty := by intro e; subst e; simp at h0
  go_enter Tryz.func190, Tryz.ntmps190
  go_upto_block 0 with fail
  go_cut [5] (fun s5 wc => s5 = .int .i64 i0 ∧ DecAt wc B x1 ∧ Only B w wc ∧ i0 ≤ 1)
  case first =>
    have hd := (hx.setS false).setT false
    have ho := ((Only.refl B w).setCell 802 (.bool false)).setCell 803 (.bool false)
    by_cases c1 : sb s 0 = 43
    · have b2 : (((sb s 0 : Nat) : Int) == 43) = true := beq_iff_eq.2 (by omega)
      have C1 := Lib.hid c1
      clear c1
      go_wp2
      go_meet
      have e1 := AI.out
      rw [if_pos (Or.inl C1.out)] at e1
      have e2 := AX.out
      rw [decide_eq_false (by have := C1.out; omega : ¬ sb s 0 = 45)] at e2
      subst e1 e2
      exact ⟨rfl, hd, ho, by omega⟩
    · have b2 : (((sb s 0 : Nat) : Int) == 43) = false := beq_eq_false_iff_ne.2 (by omega)
      by_cases c2 : sb s 0 = 45
      · have b3 : (((sb s 0 : Nat) : Int) == 45) = true := beq_iff_eq.2 (by omega)
        have C2 := Lib.hid c2
        clear c1 c2
        go_wp2
        go_meet
        have e1 := AI.out
        rw [if_pos (Or.inr C2.out)] at e1
        have e2 := AX.out
        rw [decide_eq_true C2.out] at e2
        subst e1 e2
        exact ⟨rfl, hd.setS true, ho.setCell _ _, by omega⟩
      · have b3 : (((sb s 0 : Nat) : Int) == 45) = false := beq_eq_false_iff_ne.2 (by omega)
        go_wp2
        go_meet
        have e1 := AI.out
        rw [if_neg (by omega)] at e1
        have e2 := AX.out
        rw [decide_eq_false c2] at e2
        subst e1 e2
        exact ⟨rfl, hd, ho, by omega⟩
  case rest =>
    obtain ⟨rfl, hd, ho, hi1⟩ := hcut
    clear c802 c803 f802 f803 hb hse h0i h0 hx AX AI
    go_upto_block 1 with fail
    go_cut [5, 6, 7] from 34 to 116 (fun s5 s6 s7 wc => s5 = .int .i64 i1 ∧ s6 = .bool sd ∧ s7 = .bool sg ∧ DecAt wc B x2 ∧ Only B w wc ∧ i1 ≤ 1000 ∧ r = false)
    case first =>
      go_wp2_with fail
      go_loopg [5, 6, 7] fF (fun f s5 s6 s7 wr => ∃ (i : Nat) (d g : Bool) (x : Dec), s5 = .int .i64 i ∧ s6 = .bool d ∧ s7 = .bool g ∧ i ≤ 1000 ∧ DecAt wr B x ∧ Only B w wr ∧ Aside (setL s f i d g x = some (r, i1, sd, sg, x2)))
      case atStart => exact ⟨i0, false, false, x1, rfl, rfl, rfl, by omega, hd, ho, AL.out⟩
      case round =>
        clear AL hd ho hi1
        obtain ⟨i, d, g, x, rfl, rfl, rfl, hi, hd, ho, hA⟩ := hrel
        have H := hA.out
        clear hA
        cases gk with
        | zero => cases H
        | succ f =>
        rw [setL] at H
        by_cases c1 : i < s.size
        · rw [if_pos c1] at H
          have c1i : (i : Int) < (s.size : Int) := by omega
          have hb := sb_at c1
          have hb2 := sb_lt s i
          generalize sb s i = b at *
          by_cases c2 : b = 95
          · rw [if_pos c2] at H
            have b2 : ((b : Int) == 95) = true := beq_iff_eq.2 (by omega)
            have H' := Lib.hid H
            clear H
            go_wp2
            go_roundg f
            case measure => omega
            case rel => exact ⟨i + 1, _, _, _, by go_num, rfl, rfl, by omega, hd, ho, H'.out⟩
          rw [if_neg c2] at H
          have b2 : ((b : Int) == 95) = false := beq_eq_false_iff_ne.2 (by omega)
          by_cases c3 : b = 46
          · rw [if_pos c3] at H
            have b3 : ((b : Int) == 46) = true := beq_iff_eq.2 (by omega)
            cases d
            · rw [if_neg (by simp)] at H
              have c800 := hd.n
              have c801 := hd.p
              have f801 := hd.f 801
              have H' := Lib.hid H
              clear H
              go_wp2
              go_roundg f
              case measure => omega
              case rel => exact ⟨i + 1, _, _, _, by go_num, rfl, rfl, by omega, hd.setP _, ho.setCell _ _, H'.out⟩
            · rw [if_pos rfl] at H
              obtain ⟨rfl, E2⟩ := Prod.mk.inj (Option.some.inj H)
              obtain ⟨rfl, E3⟩ := Prod.mk.inj E2
              obtain ⟨rfl, E4⟩ := Prod.mk.inj E3
              obtain ⟨rfl, rfl⟩ := Prod.mk.inj E4
              clear H E2 E3 E4
              go_wp2
              go_ret
              have E := AE.out
              rw [setE, if_pos rfl] at E
              obtain ⟨rfl, rfl⟩ := Prod.mk.inj (Option.some.inj E)
              exact ⟨rfl, hd, ho⟩
          rw [if_neg c3] at H
          have b3 : ((b : Int) == 46) = false := beq_eq_false_iff_ne.2 (by omega)
          by_cases c4 : 48 ≤ b
          rotate_left
          · rw [if_neg c4] at H
            have b4 : decide ((48 : Int) ≤ (b : Int)) = false := decide_eq_false (by omega)
            obtain ⟨rfl, E2⟩ := Prod.mk.inj (Option.some.inj H)
            obtain ⟨rfl, E3⟩ := Prod.mk.inj E2
            obtain ⟨rfl, E4⟩ := Prod.mk.inj E3
            obtain ⟨rfl, rfl⟩ := Prod.mk.inj E4
            clear H E2 E3 E4
            go_wp2
            go_meet
            exact ⟨rfl, rfl, rfl, hd, ho, hi, by simp⟩
          rw [if_pos c4] at H
          have b4 : decide ((48 : Int) ≤ (b : Int)) = true := decide_eq_true (by omega)
          by_cases c5 : b ≤ 57
          rotate_left
          · rw [if_neg c5] at H
            have b5 : decide ((b : Int) ≤ 57) = false := decide_eq_false (by omega)
            obtain ⟨rfl, E2⟩ := Prod.mk.inj (Option.some.inj H)
            obtain ⟨rfl, E3⟩ := Prod.mk.inj E2
            obtain ⟨rfl, E4⟩ := Prod.mk.inj E3
            obtain ⟨rfl, rfl⟩ := Prod.mk.inj E4
            clear H E2 E3 E4
            go_wp2
            go_meet
            exact ⟨rfl, rfl, rfl, hd, ho, hi, by simp⟩
          rw [if_pos c5] at H
          have b5 : decide ((b : Int) ≤ 57) = true := decide_eq_true (by omega)
          by_cases c6 : x.nd ≤ 800
          rotate_left
          · rw [if_neg c6] at H; cases H
          rw [if_pos c6] at H
          have c800 := hd.n
          have f800 := hd.f 800
          by_cases c8 : b = 48
          · have b8 : ((b : Int) == 48) = true := beq_iff_eq.2 (by omega)
            have b8n : ((b : Int) != 48) = false := by rw [bne_eq_false_iff_eq]; omega
            by_cases c7 : x.nd = 0
            · rw [if_pos ⟨c8, c7⟩] at H
              have b7 : ((x.nd : Int) == 0) = true := beq_iff_eq.2 (by omega)
              by_cases c9 : -1000000000 ≤ x.dp
              rotate_left
              · rw [if_neg c9] at H; cases H
              rw [if_pos c9] at H
              by_cases c10 : x.dp ≤ 1000000000
              rotate_left
              · rw [if_neg c10] at H; cases H
              rw [if_pos c10] at H
              have c801 := hd.p
              have f801 := hd.f 801
              have H' := Lib.hid H
              clear H c7 c8
              go_wp2
              go_roundg f
              case measure => omega
              case rel => exact ⟨i + 1, _, _, _, by go_num, rfl, rfl, by omega, hd.setP _, ho.setCell _ _, H'.out⟩
            · rw [if_neg (fun e => c7 e.2)] at H
              have b7 : ((x.nd : Int) == 0) = false := beq_eq_false_iff_ne.2 (by omega)
              by_cases c9 : x.nd < 800
              rotate_left
              · rw [if_neg c9, if_pos c8] at H
                have c7b : decide ((x.nd : Int) < 800) = false := decide_eq_false (by omega)
                have H' := Lib.hid H
                clear H c7 c8 c9
                go_wp2
                go_roundg f
                case measure => omega
                case rel => exact ⟨i + 1, _, _, _, by go_num, rfl, rfl, by omega, hd, ho, H'.out⟩
              rw [if_pos c9] at H
              have c7i : (x.nd : Int) < 800 := by omega
              have c7b : decide ((x.nd : Int) < 800) = true := decide_eq_true (by omega)
              have cd := hd.d x.nd (by omega)
              have fd := hd.f x.nd
              have hne : ¬ x.nd = 800 := by omega
              have H' := Lib.hid H
              clear H c7 c8 c9
              go_wp2
              go_still_tail 11, (by kernel_rfl)
              change wpList _ _ _ _ _ wr.drew
              have hd1 := hd.drew
              have ho1 := ho.drew
              clear hd ho c800 f800 cd fd
              generalize wr.drew = w2 at *
              have hd3 := hd1.setD x.nd b (by omega)
              have cd := hd1.d x.nd (by omega)
              have fd := hd1.f x.nd
              have c800 := hd3.n
              have f800 := hd3.f 800
              dsimp only at c800
              go_wp2
              go_roundg f
              case measure => omega
              case rel =>
                refine ⟨i + 1, _, _, _, by go_num, rfl, rfl, by omega, ?_, (ho1.setCell _ _).setCell _ _, H'.out⟩
                have := hd3.setN (x.nd + 1)
                rw [show (((x.nd + 1 : Nat) : Int)) = (x.nd : Int) + 1 by omega] at this
                exact this
          · rw [if_neg (fun e => c8 e.1)] at H
            have b8 : ((b : Int) == 48) = false := beq_eq_false_iff_ne.2 (by omega)
            have b8n : ((b : Int) != 48) = true := by rw [bne_iff_ne]; omega
            by_cases c9 : x.nd < 800
            rotate_left
            · rw [if_neg c9, if_neg c8] at H
              have c7b : decide ((x.nd : Int) < 800) = false := decide_eq_false (by omega)
              have c803 := hd.t
              have f803 := hd.f 803
              have H' := Lib.hid H
              clear H c8 c9
              go_wp2
              go_roundg f
              case measure => omega
              case rel => exact ⟨i + 1, _, _, _, by go_num, rfl, rfl, by omega, hd.setT _, ho.setCell _ _, H'.out⟩
            rw [if_pos c9] at H
            have c7i : (x.nd : Int) < 800 := by omega
            have c7b : decide ((x.nd : Int) < 800) = true := decide_eq_true (by omega)
            have cd := hd.d x.nd (by omega)
            have fd := hd.f x.nd
            have hne : ¬ x.nd = 800 := by omega
            have H' := Lib.hid H
            clear H c8 c9
            go_wp2
            go_still_tail 11, (by kernel_rfl)
            change wpList _ _ _ _ _ wr.drew
            have hd1 := hd.drew
            have ho1 := ho.drew
            clear hd ho c800 f800 cd fd
            generalize wr.drew = w2 at *
            have hd3 := hd1.setD x.nd b (by omega)
            have cd := hd1.d x.nd (by omega)
            have fd := hd1.f x.nd
            have c800 := hd3.n
            have f800 := hd3.f 800
            dsimp only at c800
            go_wp2
            go_roundg f
            case measure => omega
            case rel =>
              refine ⟨i + 1, _, _, _, by go_num, rfl, rfl, by omega, ?_, (ho1.setCell _ _).setCell _ _, H'.out⟩
              have := hd3.setN (x.nd + 1)
              rw [show (((x.nd + 1 : Nat) : Int)) = (x.nd : Int) + 1 by omega] at this
              exact this
        · rw [if_neg c1] at H
          obtain ⟨rfl, E2⟩ := Prod.mk.inj (Option.some.inj H)
          obtain ⟨rfl, E3⟩ := Prod.mk.inj E2
          obtain ⟨rfl, E4⟩ := Prod.mk.inj E3
          obtain ⟨rfl, rfl⟩ := Prod.mk.inj E4
          clear H E2 E3 E4
          go_wp2
          go_meet
          exact ⟨rfl, rfl, rfl, hd, ho, hi, by simp⟩
    case rest =>
      obtain ⟨rfl, rfl, rfl, hd, ho, hi2, rfl⟩ := hcut
      have E := AE.out
      rw [setE, if_neg (by simp)] at E
      clear AE AL
      cases sg
      · rw [if_pos rfl] at E
        obtain ⟨rfl, rfl⟩ := Prod.mk.inj (Option.some.inj E)
        clear E
        go_wp2
        go_ret
        exact ⟨rfl, hd, ho⟩
      rw [if_neg (by simp)] at E
      by_cases g1 : -1000000000 ≤ x2.dp
      rotate_left
      · rw [if_neg g1] at E; cases E
      rw [if_pos g1] at E
      by_cases g2 : x2.dp ≤ 1000000000
      rotate_left
      · rw [if_neg g2] at E; cases E
      rw [if_pos g2] at E
      by_cases g3 : x2.nd ≤ 800
      rotate_left
      · rw [if_neg g3] at E; cases E
      rw [if_pos g3] at E
      have g4 : -1000000000 ≤ (dotDone sd x2).dp ∧ (dotDone sd x2).dp ≤ 1000000000 := by unfold dotDone; dsimp only; split <;> omega
      generalize hx3 : dotDone sd x2 = x3 at *
      have AX := Lib.hid hx3
      have AE := Lib.hid E
      clear E hx3 g1 g2
      go_upto_if 120 with fail
      go_cut [] from 121 to 127 (fun wc => DecAt wc B x3 ∧ Only B w wc)
      case first =>
        cases sd
        · have c800 := hd.n
          have c801 := hd.p
          have f801 := hd.f 801
          go_wp2
          go_meet
          have := AX.out
          rw [← this]
          exact ⟨hd.setP _, ho.setCell _ _⟩
        · go_wp2
          go_meet
          have := AX.out
          rw [← this]
          exact ⟨hd, ho⟩
      case rest =>
        obtain ⟨hd, ho⟩ := hcut
        clear AX
        have E := AE.out
        rw [setX] at E
        clear AE
        by_cases c1 : i1 < s.size
        rotate_left
        · rw [if_neg c1] at E
          obtain ⟨rfl, rfl⟩ := Prod.mk.inj (Option.some.inj E)
          clear E
          have b1 : decide ((i1 : Int) < (s.size : Int)) = false := decide_eq_false (by omega)
          have c1n : ¬ ((i1 : Int) < (s.size : Int)) := by omega
          by_cases c2 : i1 = s.size
          · have b3 : ((i1 : Int) != (s.size : Int)) = false := by rw [bne_eq_false_iff_eq]; omega
            have C2 := Lib.hid c2
            clear c1 c2
            go_wp2
            go_ret
            exact ⟨ret_bool (decide_eq_true C2.out).symm, hd, ho⟩
          · have b3 : ((i1 : Int) != (s.size : Int)) = true := by rw [bne_iff_ne]; omega
            have C2 := Lib.hid c2
            clear c1 c2
            go_wp2
            go_ret
            exact ⟨ret_bool (decide_eq_false C2.out).symm, hd, ho⟩
        rw [if_pos c1] at E
        have b1 : decide ((i1 : Int) < (s.size : Int)) = true := decide_eq_true (by omega)
        have c1i : (i1 : Int) < (s.size : Int) := by omega
        have hb := sb_at c1
        generalize hbb : sb s i1 = b at *
        by_cases c2 : bits .or .u8 (b : Int) 32 = 101
        rotate_left
        · have b2 : (bits .or .u8 (b : Int) 32 == 101) = false := beq_eq_false_iff_ne.2 c2
          rw [if_neg c2] at E
          obtain ⟨rfl, rfl⟩ := Prod.mk.inj (Option.some.inj E)
          clear E
          have b3 : ((i1 : Int) != (s.size : Int)) = true := by rw [bne_iff_ne]; omega
          go_wp2_with (go_at_call 141; refine (Tryz.internal_strconv_lower _ _).mono ?_; rintro e w' ⟨rfl, rfl⟩)
          go_ret
          exact ⟨rfl, hd, ho⟩
        have b2 : (bits .or .u8 (b : Int) 32 == 101) = true := beq_iff_eq.2 c2
        rw [if_pos c2] at E
        by_cases c3 : i1 + 1 < s.size
        rotate_left
        · rw [if_neg c3] at E
          obtain ⟨rfl, rfl⟩ := Prod.mk.inj (Option.some.inj E)
          clear E c2
          have b3 : decide ((i1 : Int) + 1 < (s.size : Int)) = false := decide_eq_false (by omega)
          go_wp2_with (go_at_call 141; refine (Tryz.internal_strconv_lower _ _).mono ?_; rintro e w' ⟨rfl, rfl⟩)
          go_ret
          exact ⟨rfl, hd, ho⟩
        rw [if_pos c3] at E
        have AE := Lib.hid E
        clear E c2
        go_upto_block 4 with (go_at_call 141; refine (Tryz.internal_strconv_lower _ _).mono ?_; rintro e w' ⟨rfl, rfl⟩)
        have C3 := Lib.hid c3
        have hb1 := sb_at c3
        have e1 : sb s (i1 + 1) = sb s (i1 + 1) := rfl
        have e2 : expAt s i1 = if sb s (i1 + 1) = 43 ∨ sb s (i1 + 1) = 45 then i1 + 2 else i1 + 1 := rfl
        have e3 : expSg s i1 = if sb s (i1 + 1) = 45 then -1 else 1 := rfl
        generalize sb s (i1 + 1) = b' at *
        generalize expAt s i1 = j at *
        generalize expSg s i1 = sgn at *
        have A2 := Lib.hid e2
        have A3 := Lib.hid e3
        clear e1 e2 e3
        go_cut [5, 8] from 145 to 155 (fun s5 s8 wc => s5 = .int .i64 j ∧ s8 = .int .i64 sgn ∧ w' = wc ∧ j ≤ 1002 ∧ (sgn = 1 ∨ sgn = -1))
        case first =>
          by_cases d1 : b' = 43
          · have t1 : ((b' : Int) == 43) = true := beq_iff_eq.2 (by omega)
            have D1 := Lib.hid d1
            clear d1
            go_wp2
            go_meet
            have q2 := A2.out
            have q3 := A3.out
            have d1 := D1.out
            rw [if_pos (Or.inl d1)] at q2
            rw [if_neg (by omega)] at q3
            exact ⟨by go_num, by rw [q3], rfl, by omega, by omega⟩
          · have t1 : ((b' : Int) == 43) = false := beq_eq_false_iff_ne.2 (by omega)
            by_cases d2 : b' = 45
            · have t2 : ((b' : Int) == 45) = true := beq_iff_eq.2 (by omega)
              have D2 := Lib.hid d2
              clear d1 d2
              go_wp2
              go_meet
              have q2 := A2.out
              have q3 := A3.out
              have d2 := D2.out
              rw [if_pos (Or.inr d2)] at q2
              rw [if_pos d2] at q3
              exact ⟨by go_num, by rw [q3], rfl, by omega, by omega⟩
            · have t2 : ((b' : Int) == 45) = false := beq_eq_false_iff_ne.2 (by omega)
              have D1 := Lib.hid d1
              have D2 := Lib.hid d2
              clear d1 d2
              go_wp2
              go_meet
              have q2 := A2.out
              have q3 := A3.out
              have d1 := D1.out
              have d2 := D2.out
              rw [if_neg (by omega)] at q2
              rw [if_neg (by omega)] at q3
              exact ⟨by go_num, by rw [q3], rfl, by omega, by omega⟩
        case rest =>
          obtain ⟨rfl, rfl, rfl, hj, hsg⟩ := hcut
          clear A2 A3 hb1 c3 b1 hb b2
          have E := AE.out
          clear AE
          by_cases c4 : j < s.size
          rotate_left
          · rw [if_neg c4] at E
            obtain ⟨rfl, rfl⟩ := Prod.mk.inj (Option.some.inj E)
            clear E
            have b3 : decide ((s.size : Int) ≤ (j : Int)) = true := decide_eq_true (by omega)
            go_wp2
            go_ret
            exact ⟨rfl, hd, ho⟩
          rw [if_pos c4] at E
          have b3 : decide ((s.size : Int) ≤ (j : Int)) = false := decide_eq_false (by omega)
          have c4i : (j : Int) < (s.size : Int) := by omega
          have hb := sb_at c4
          generalize sb s j = bj at *
          by_cases c5 : 48 ≤ bj
          rotate_left
          · rw [if_neg c5] at E
            obtain ⟨rfl, rfl⟩ := Prod.mk.inj (Option.some.inj E)
            clear E
            have b4 : decide ((bj : Int) < 48) = true := decide_eq_true (by omega)
            go_wp2
            go_ret
            exact ⟨rfl, hd, ho⟩
          rw [if_pos c5] at E
          have b4 : decide ((bj : Int) < 48) = false := decide_eq_false (by omega)
          by_cases c6 : bj ≤ 57
          rotate_left
          · rw [if_neg c6] at E
            obtain ⟨rfl, rfl⟩ := Prod.mk.inj (Option.some.inj E)
            clear E
            have b5 : decide (57 < (bj : Int)) = true := decide_eq_true (by omega)
            go_wp2
            go_ret
            exact ⟨rfl, hd, ho⟩
          rw [if_pos c6] at E
          have b5 : decide (57 < (bj : Int)) = false := decide_eq_false (by omega)
          obtain ⟨⟨k, e, us⟩, hX, hR⟩ := Option.bind_eq_some_iff.1 E
          dsimp only at hR
          have AX := Lib.hid hX
          have AR := Lib.hid hR
          clear E hX hR
          go_upto_block 5 with fail
          go_cut [5, 9] from 172 to 209 (fun s5 s9 wc => s5 = .int .i64 k ∧ s9 = .int .i64 e ∧ w' = wc ∧ k ≤ 2000)
          case first =>
            clear b3 b4 b5 c4i hb c4 c5 c6
            go_wp2_with fail
            go_loopg [5, 9] fF (fun f s5 s9 wr => ∃ (i e0 : Nat) (u : Bool), s5 = .int .i64 i ∧ s9 = .int .i64 e0 ∧ w' = wr ∧ i ≤ 1002 ∧ Aside (expL s f i e0 u = some (k, e, us)))
            case atStart => exact ⟨j, 0, false, rfl, rfl, rfl, by omega, AX.out⟩
            case round =>
              clear AX AR
              obtain ⟨i, e0, u, rfl, rfl, rfl, hi, hA⟩ := hrel
              have H := hA.out
              clear hA
              cases gk with
              | zero => cases H
              | succ f =>
              rw [expL] at H
              by_cases c1 : i < s.size
              rotate_left
              · rw [if_neg c1] at H
                obtain ⟨rfl, E2⟩ := Prod.mk.inj (Option.some.inj H)
                obtain ⟨rfl, rfl⟩ := Prod.mk.inj E2
                clear H E2
                have d1 : decide ((i : Int) < (s.size : Int)) = false := decide_eq_false (by omega)
                go_wp2
                go_meet
                exact ⟨rfl, rfl, rfl, by omega⟩
              rw [if_pos c1] at H
              have d1 : decide ((i : Int) < (s.size : Int)) = true := decide_eq_true (by omega)
              have c1i : (i : Int) < (s.size : Int) := by omega
              have hb := sb_at c1
              have hb2 := sb_lt s i
              generalize sb s i = b at *
              by_cases c2 : b = 95
              · rw [if_pos c2] at H
                have d2 : ((b : Int) == 95) = true := beq_iff_eq.2 (by omega)
                have d3 : decide ((48 : Int) ≤ (b : Int)) = true := decide_eq_true (by omega)
                have d4 : decide ((b : Int) ≤ 57) = false := decide_eq_false (by omega)
                have H' := Lib.hid H
                clear H c2
                go_wp2
                go_roundg f
                case measure => omega
                case rel => exact ⟨i + 1, _, _, by go_num, rfl, rfl, by omega, H'.out⟩
              rw [if_neg c2] at H
              have d2 : ((b : Int) == 95) = false := beq_eq_false_iff_ne.2 (by omega)
              by_cases c4 : 48 ≤ b
              rotate_left
              · rw [if_neg c4] at H
                have d3 : decide ((48 : Int) ≤ (b : Int)) = false := decide_eq_false (by omega)
                obtain ⟨rfl, E2⟩ := Prod.mk.inj (Option.some.inj H)
                obtain ⟨rfl, rfl⟩ := Prod.mk.inj E2
                clear H E2
                go_wp2
                go_meet
                exact ⟨rfl, rfl, rfl, by omega⟩
              rw [if_pos c4] at H
              have d3 : decide ((48 : Int) ≤ (b : Int)) = true := decide_eq_true (by omega)
              by_cases c5 : b ≤ 57
              rotate_left
              · rw [if_neg c5] at H
                have d4 : decide ((b : Int) ≤ 57) = false := decide_eq_false (by omega)
                obtain ⟨rfl, E2⟩ := Prod.mk.inj (Option.some.inj H)
                obtain ⟨rfl, rfl⟩ := Prod.mk.inj E2
                clear H E2
                go_wp2
                go_meet
                exact ⟨rfl, rfl, rfl, by omega⟩
              rw [if_pos c5] at H
              have d4 : decide ((b : Int) ≤ 57) = true := decide_eq_true (by omega)
              by_cases c6 : e0 < 10000
              · rw [if_pos c6] at H
                have d5 : decide ((e0 : Int) < 10000) = true := decide_eq_true (by omega)
                have c6i : (e0 : Int) < 10000 := by omega
                have H' := Lib.hid H
                clear H c6
                go_wp2
                go_roundg f
                case measure => omega
                case rel => exact ⟨i + 1, e0 * 10 + b - 48, _, by go_num, by congr 1; omega, rfl, by omega, H'.out⟩
              · rw [if_neg c6] at H
                by_cases c7 : e0 ≤ 1000000
                rotate_left
                · rw [if_neg c7] at H; cases H
                rw [if_pos c7] at H
                have d5 : decide ((e0 : Int) < 10000) = false := decide_eq_false (by omega)
                have H' := Lib.hid H
                clear H c6
                go_wp2
                go_roundg f
                case measure => omega
                case rel => exact ⟨i + 1, _, _, by go_num, rfl, rfl, by omega, H'.out⟩
          case rest =>
            obtain ⟨rfl, rfl, rfl, hk⟩ := hcut
            have R := AR.out
            clear AR AX
            by_cases r1 : k ≤ 2000
            rotate_left
            · rw [if_neg r1] at R; cases R
            rw [if_pos r1] at R
            by_cases r2 : e ≤ 1000000
            rotate_left
            · rw [if_neg r2] at R; cases R
            rw [if_pos r2] at R
            obtain ⟨hok, rfl⟩ := Prod.mk.inj (Option.some.inj R)
            clear R
            have c801 := hd.p
            have f801 := hd.f 801
            have hm : -1000000 ≤ (e : Int) * sgn ∧ (e : Int) * sgn ≤ 1000000 := by
              rcases hsg with h | h <;> rw [h] <;> omega
            generalize hz : (e : Int) * sgn = z at *
            have HOK := Lib.hid hok
            clear hok
            by_cases r3 : k = s.size
            · have b6 : ((k : Int) != (s.size : Int)) = false := by rw [bne_eq_false_iff_eq]; omega
              have C2 := Lib.hid r3
              clear r3
              go_wp2
              go_ret
              have := HOK.out
              rw [decide_eq_true C2.out] at this
              refine ⟨ret_bool this, ?_, ho.setCell _ _⟩
              rw [hz]
              exact hd.setP _
            · have b6 : ((k : Int) != (s.size : Int)) = true := by rw [bne_iff_ne]; omega
              have C2 := Lib.hid r3
              clear r3
              go_wp2
              go_ret
              have := HOK.out
              rw [decide_eq_false C2.out] at this
              refine ⟨ret_bool this, ?_, ho.setCell _ _⟩
              rw [hz]
              exact hd.setP _
end Go.Proofs.YtnggkkdcddpjlaaGreatDoor
