/- decimal: floatBits: what it answers. -/
import Derived.Test.YtnggkkdcddpjlaaGreatDoorJmp
namespace Go.Proofs.YtnggkkdcddpjlaaGreatDoor
set_option linter.unusedVariables false
set_option linter.unusedSimpArgs false
open Go.RowKit
/-- By how much the point's place asks to shift. -/
def ptN (d : Nat) : Nat := if 9 ≤ d then 27 else ptD d
def fl1 (f : Nat) : Nat → Dec → Int → Option (Dec × Int)
  | 0, _, _ => none
  | j + 1, x, e => if 0 < x.dp then (if 0 < x.nd then (if e ≤ 100000 then (if -100000 ≤ e then (shrL f f (ptN x.dp.toNat) x).bind fun y => fl1 f j y (e + (ptN x.dp.toNat : Nat)) else none) else none) else none) else some (x, e)
def fl2 (f : Nat) : Nat → Dec → Int → Option (Dec × Int)
  | 0, _, _ => none
  | j + 1, x, e => if x.dp < 0 ∨ (x.dp = 0 ∧ x.dg 0 < 53) then (if 0 < x.nd then (if -1000000000 ≤ x.dp then (if e ≤ 100000 then (if -100000 ≤ e then (shlL f f (ptN (-x.dp).toNat) x).bind fun y => fl2 f j y (e - (ptN (-x.dp).toNat : Nat)) else none) else none) else none) else none) else some (x, e)
theorem ptD_bd (d : Nat) (h : d < 9) : 1 ≤ ptD d ∧ ptD d ≤ 26 := by
  have : d = 0 ∨ d = 1 ∨ d = 2 ∨ d = 3 ∨ d = 4 ∨ d = 5 ∨ d = 6 ∨ d = 7 ∨ d = 8 := by omega
  rcases this with rfl | rfl | rfl | rfl | rfl | rfl | rfl | rfl | rfl <;> decide
theorem shr_calls' (f j k : Nat) (z : Int) (x y : Dec) (B : Nat) (w : World) (hz : z = -(k : Int)) (hx : DecAt w B x) (hnd : 0 < x.nd) (hk0 : 1 ≤ k) (hk : k ≤ 1000000000) (h : shrL f j k x = some y) :
    Calls Tryz.prog 155 #[.pointer (some ⟨B, 0, none⟩), .int .i64 z] w fun e w' => e = .returned (.tuple #[]) ∧ DecAt w' B y ∧ Only B w w' := by
  subst hz; exact shr_calls f j k x y B w hx hnd hk0 hk h
theorem shl_calls' (f j k : Nat) (z : Int) (x y : Dec) (B : Nat) (w : World) (hz : z = (k : Int)) (hw : TabsUnder B w) (hx : DecAt w B x) (hnd : 0 < x.nd) (hk0 : 1 ≤ k) (hk : k ≤ 1000000000) (h : shlL f j k x = some y) :
    Calls Tryz.prog 155 #[.pointer (some ⟨B, 0, none⟩), .int .i64 z] w fun e w' => e = .returned (.tuple #[]) ∧ DecAt w' B y ∧ Only B w w' := by
  subst hz; exact shl_calls f j k x y B w hw hx hnd hk0 hk h
/-- The bits that stand for exponent, mantissa and sign. -/
def fbOut (e m : Int) (ng : Bool) : Int :=
  if ng then Go.bits .or .u64 (Go.bits .or .u64 (Go.bits .and .u64 m 4503599627370495) (IntKind.u64.wrap (IntKind.u64.wrap (Go.bits .and .i64 (e + 1023) 2047) * 4503599627370496))) 9223372036854775808
  else Go.bits .or .u64 (Go.bits .and .u64 m 4503599627370495) (IntKind.u64.wrap (IntKind.u64.wrap (Go.bits .and .i64 (e + 1023) 2047) * 4503599627370496))
set_option maxHeartbeats 2000000 in
set_option maxRecDepth 100000 in
theorem fb_zero (x : Dec) (r : Int) (B : Nat) (w : World) (hT : Tabs w) (hx : DecAt w B x) (hnd : x.nd = 0) (hr : r = fbOut (-1023) 0 x.neg) :
    Calls Tryz.prog 191 #[.pointer (some ⟨B, 0, none⟩), .pointer (some ⟨6, 0, none⟩)] w fun e w' => e = .returned (.tuple #[.int .u64 r, .bool false]) ∧ Only B w w' := by
  have HR := Lib.hid hr
  have c800 := hx.n
  have c802 := hx.s
  rw [hnd] at c800
  have f0 := hT.fi0
  have f1 := hT.fi1
  have f2 := hT.fi2
  clear hx hnd hT hr
  generalize x.neg = ng at *
  go_enter Tryz.func191, Tryz.ntmps191
  go_wp2
  refine wp_scope_forward ?_
  go_wp2
  go_step3
  refine jumpTo_goto _ _ rfl ?_
  go_wp2
  go_quiet (fail)
  cases ng
  · go_wp2
    rw [Exit.noGoto_ret]
    go_ret2
    refine ⟨?_, by first | exact (Only.refl _ _).drewN _ | (simp only [World.drewN_drewN]; exact (Only.refl _ _).drewN _)⟩
    rw [HR.out]
    rfl
  · go_wp2
    go_quiet (fail)
    go_wp2
    rw [Exit.noGoto_ret]
    go_ret2
    refine ⟨?_, by first | exact (Only.refl _ _).drewN _ | (simp only [World.drewN_drewN]; exact (Only.refl _ _).drewN _)⟩
    rw [HR.out]
    rfl
set_option maxHeartbeats 2000000 in
set_option maxRecDepth 100000 in
theorem fb_under (x : Dec) (r : Int) (B : Nat) (w : World) (hT : Tabs w) (hx : DecAt w B x) (hnd : 0 < x.nd) (hd : x.dp < -330) (hr : r = fbOut (-1023) 0 x.neg) :
    Calls Tryz.prog 191 #[.pointer (some ⟨B, 0, none⟩), .pointer (some ⟨6, 0, none⟩)] w fun e w' => e = .returned (.tuple #[.int .u64 r, .bool false]) ∧ Only B w w' := by
  have HR := Lib.hid hr
  have c800 := hx.n
  have c801 := hx.p
  have c802 := hx.s
  have f0 := hT.fi0
  have f1 := hT.fi1
  have f2 := hT.fi2
  clear hx hT hr
  generalize x.neg = ng at *
  go_enter Tryz.func191, Tryz.ntmps191
  go_wp2
  refine wp_scope_forward ?_
  go_wp2
  go_step3
  refine jumpTo_goto _ _ rfl ?_
  go_wp2
  go_quiet (fail)
  cases ng
  · go_wp2
    rw [Exit.noGoto_ret]
    go_ret2
    refine ⟨?_, by first | exact (Only.refl _ _).drewN _ | (simp only [World.drewN_drewN]; exact (Only.refl _ _).drewN _)⟩
    rw [HR.out]
    rfl
  · go_wp2
    go_quiet (fail)
    go_wp2
    rw [Exit.noGoto_ret]
    go_ret2
    refine ⟨?_, by first | exact (Only.refl _ _).drewN _ | (simp only [World.drewN_drewN]; exact (Only.refl _ _).drewN _)⟩
    rw [HR.out]
    rfl
set_option maxHeartbeats 2000000 in
set_option maxRecDepth 100000 in
theorem fb_over (x : Dec) (r : Int) (B : Nat) (w : World) (hT : Tabs w) (hx : DecAt w B x) (hnd : 0 < x.nd) (hd : 310 < x.dp) (hr : r = fbOut 1024 0 x.neg) :
    Calls Tryz.prog 191 #[.pointer (some ⟨B, 0, none⟩), .pointer (some ⟨6, 0, none⟩)] w fun e w' => e = .returned (.tuple #[.int .u64 r, .bool true]) ∧ Only B w w' := by
  have HR := Lib.hid hr
  have c800 := hx.n
  have c801 := hx.p
  have c802 := hx.s
  have f0 := hT.fi0
  have f1 := hT.fi1
  have f2 := hT.fi2
  clear hx hT hr
  generalize x.neg = ng at *
  go_enter Tryz.func191, Tryz.ntmps191
  go_wp2
  refine wp_scope_forward ?_
  go_wp2
  go_step3
  refine jumpTo_goto _ _ rfl ?_
  go_wp2
  go_quiet (fail)
  go_wp2
  go_step3
  go_wp2
  go_quiet (fail)
  cases ng
  · go_wp2
    rw [Exit.noGoto_ret]
    go_ret2
    refine ⟨?_, by first | exact (Only.refl _ _).drewN _ | (simp only [World.drewN_drewN]; exact (Only.refl _ _).drewN _)⟩
    rw [HR.out]
    rfl
  · go_wp2
    go_quiet (fail)
    go_wp2
    rw [Exit.noGoto_ret]
    go_ret2
    refine ⟨?_, by first | exact (Only.refl _ _).drewN _ | (simp only [World.drewN_drewN]; exact (Only.refl _ _).drewN _)⟩
    rw [HR.out]
    rfl
set_option maxHeartbeats 8000000 in
set_option maxRecDepth 100000 in
theorem fb_main (f : Nat) (x x1 x2 : Dec) (e1 e2 : Int) (B : Nat) (w : World) (hw : TabsUnder B w) (hx : DecAt w B x) (hnd : 0 < x.nd) (hd1 : x.dp ≤ 310) (hd2 : -330 ≤ x.dp)
    (h1 : fl1 f f x 0 = some (x1, e1)) (h2 : fl2 f f x1 e1 = some (x2, e2)) (he2a : -200000 ≤ e2) (he2b : e2 ≤ 200000) (e3 : Int) (x3 : Dec) (r : Int) (o : Bool)
    (h3 : (e2 - 1 < -1022 ∧ 0 < x2.nd ∧ e3 = -1022 ∧ shrL f f (-1022 - (e2 - 1)).toNat x2 = some x3) ∨ (¬ e2 - 1 < -1022 ∧ x3 = x2 ∧ e3 = e2 - 1))
    (h4 : (1024 ≤ e3 ∧ r = fbOut 1024 0 x3.neg ∧ o = true) ∨ (¬ 1024 ≤ e3 ∧ 0 < x3.nd ∧ ∃ x4 m, shlL f f 53 x3 = some x4 ∧ riF f x4 = some m ∧
      ((m = 9007199254740992 ∧ 1024 ≤ e3 + 1 ∧ r = fbOut 1024 0 x4.neg ∧ o = true) ∨ (m = 9007199254740992 ∧ ¬ 1024 ≤ e3 + 1 ∧ r = fbOut (e3 + 1) 4503599627370496 x4.neg ∧ o = false) ∨
       (m ≠ 9007199254740992 ∧ (Go.bits .and .u64 m 4503599627370496 == 0) = true ∧ r = fbOut (-1023) m x4.neg ∧ o = false) ∨
       (m ≠ 9007199254740992 ∧ (Go.bits .and .u64 m 4503599627370496 == 0) = false ∧ r = fbOut e3 m x4.neg ∧ o = false)))) :
    Calls Tryz.prog 191 #[.pointer (some ⟨B, 0, none⟩), .pointer (some ⟨6, 0, none⟩)] w fun e w' => e = .returned (.tuple #[.int .u64 r, .bool o]) ∧ Only B w w' := by
  have E3 : -200000 ≤ e3 ∧ e3 ≤ 200000 := by rcases h3 with ⟨q1, q2, q3, q4⟩ | ⟨q1, q2, q3⟩ <;> omega
  obtain ⟨he3a, he3b⟩ := E3
  have A1 := Lib.hid h1
  have A2 := Lib.hid h2
  have c800 := hx.n
  have c801 := hx.p
  have b1 : ((x.nd : Int) == 0) = false := beq_eq_false_iff_ne.2 (by omega)
  clear h1 h2
  go_enter Tryz.func191, Tryz.ntmps191
  go_wp2
  refine wp_scope_forward ?_
  go_upto_block 0 with fail
  go_cut [6] (fun s6 wc => s6 = .int .i64 e1 ∧ TabsUnder B wc ∧ DecAt wc B x1 ∧ Only B w wc)
  case first =>
    go_wp2_with fail
    go_loopg [6] f (fun j s6 wr => ∃ (x : Dec) (e : Int), s6 = .int .i64 e ∧ TabsUnder B wr ∧ DecAt wr B x ∧ Only B w wr ∧ Aside (fl1 f j x e = some (x1, e1)))
    case atStart => exact ⟨x, 0, rfl, hw, hx, Only.refl _ _, A1.out⟩
    case round =>
      clear A1 A2 c800 c801 b1 hx hw hnd hd1 hd2
      obtain ⟨x, e, rfl, hw, hx, ho, hA⟩ := hrel
      have H := hA.out
      clear hA
      cases gk with
      | zero => cases H
      | succ j =>
      rw [fl1] at H
      have c801 := hx.p
      obtain ⟨pb, po, pc, p1, p2⟩ := hw.tabs.ptb
      by_cases c1 : 0 < x.dp
      · rw [if_pos c1] at H
        by_cases c2 : 0 < x.nd
        · rw [if_pos c2] at H
          by_cases c3 : e ≤ 100000
          · rw [if_pos c3] at H
            by_cases c4 : -100000 ≤ e
            · rw [if_pos c4] at H
              obtain ⟨y, h1, H⟩ := Option.bind_eq_some_iff.1 H
              by_cases c5 : 9 ≤ x.dp
              · have en : ptN x.dp.toNat = 27 := by unfold ptN; rw [if_pos (by omega)]
                rw [en] at h1 H
                have H1 := Lib.hid h1
                have H' := Lib.hid H
                clear h1 H en p2
                go_wp2
                go_quiet (fail)
                go_wp2_with (go_at_call 155; refine (shr_calls' f f 27 _ x y B _ (by omega) (hx.drewN _) c2 (by omega) (by omega) H1.out).mono ?_; rintro e w' ⟨rfl, hd', ho'⟩)
                go_roundg j
                case measure => omega
                case rel => exact ⟨y, _, rfl, (hw.only ((Only.refl _ _).drewN _)).only ho', hd', (ho.drewN _).trans ho', H'.out⟩
              · have en : ptN x.dp.toNat = ptD x.dp.toNat := by unfold ptN; rw [if_neg (by omega)]
                rw [en] at h1 H
                obtain ⟨d, hd⟩ : ∃ d : Nat, x.dp = d := ⟨x.dp.toNat, by omega⟩
                have ed : x.dp.toNat = d := by omega
                rw [ed] at h1 H
                rw [hd] at c801 c1 c5
                have pd := p2 d (by omega)
                obtain ⟨q1, q2⟩ := ptD_bd d (by omega)
                have H1 := Lib.hid h1
                have H' := Lib.hid H
                have c5i : (d : Int) < 9 := by omega
                clear h1 H en p2 hd ed
                generalize ptD d = v at *
                go_wp2
                go_quiet (fail)
                go_wp2
                go_quiet (fail)
                go_wp2_with (go_at_call 155; refine (shr_calls' f f v _ x y B _ (by omega) (hx.drewN _) c2 (by omega) (by omega) H1.out).mono ?_; rintro e w' ⟨rfl, hd', ho'⟩)
                go_roundg j
                case measure => omega
                case rel => exact ⟨y, _, rfl, (hw.only ((Only.refl _ _).drewN _)).only ho', hd', (ho.drewN _).trans ho', H'.out⟩
            · rw [if_neg c4] at H; cases H
          · rw [if_neg c3] at H; cases H
        · rw [if_neg c2] at H; cases H
      · rw [if_neg c1] at H
        have H' := Lib.hid H
        clear H
        go_wp2
        go_meet
        obtain ⟨rfl, rfl⟩ := Prod.mk.inj (Option.some.inj H'.out)
        exact ⟨rfl, hw, hx, ho⟩
  case rest =>
    obtain ⟨rfl, hw1, hx1, ho1⟩ := hcut
    clear A1 c800 c801 b1 hx hw hnd hd1 hd2
    go_upto_block 2 with fail
    go_cut [6] (fun s6 wc => s6 = .int .i64 e2 ∧ TabsUnder B wc ∧ DecAt wc B x2 ∧ Only B w wc)
    case first =>
      go_wp2_with fail
      go_loopg [6] f (fun j s6 wr => ∃ (x : Dec) (e : Int), s6 = .int .i64 e ∧ TabsUnder B wr ∧ DecAt wr B x ∧ Only B w wr ∧ Aside (fl2 f j x e = some (x2, e2)))
      case atStart => exact ⟨x1, e1, rfl, hw1, hx1, ho1, A2.out⟩
      case round =>
        clear A2 hx1 hw1 ho1
        obtain ⟨x, e, rfl, hw, hx, ho, hA⟩ := hrel
        have H := hA.out
        clear hA
        cases gk with
        | zero => cases H
        | succ j =>
        rw [fl2] at H
        have c801 := hx.p
        have cd0 := hx.d 0 (by omega)
        obtain ⟨pb, po, pc, p1, p2⟩ := hw.tabs.ptb
        by_cases c1 : x.dp < 0 ∨ (x.dp = 0 ∧ x.dg 0 < 53)
        · rw [if_pos c1] at H
          by_cases c2 : 0 < x.nd
          · rw [if_pos c2] at H
            by_cases c2b : -1000000000 ≤ x.dp
            · rw [if_pos c2b] at H
              by_cases c3 : e ≤ 100000
              · rw [if_pos c3] at H
                by_cases c4 : -100000 ≤ e
                · rw [if_pos c4] at H
                  obtain ⟨y, h1, H⟩ := Option.bind_eq_some_iff.1 H
                  by_cases c6 : x.dp < 0
                  · clear c1 cd0
                    obtain ⟨d, hd⟩ : ∃ d : Nat, x.dp = -(d : Int) := ⟨(-x.dp).toNat, by omega⟩
                    have ed : (-x.dp).toNat = d := by omega
                    rw [ed] at h1 H
                    rw [hd] at c801
                    have d0 : 0 < d := by omega
                    have d1 : d ≤ 1000000000 := by omega
                    have b6 : decide (-(d : Int) < 0) = true := decide_eq_true (by omega)
                    by_cases c5 : 9 ≤ d
                    · have en : ptN d = 27 := by unfold ptN; rw [if_pos c5]
                      rw [en] at h1 H
                      have H1 := Lib.hid h1
                      have H' := Lib.hid H
                      clear h1 H en p2 hd ed c6 c2b
                      go_wp2
                      go_quiet (fail)
                      go_wp2_with (go_at_call 155; refine (shl_calls' f f 27 _ x y B _ (by omega) (hw.only ((Only.refl _ _).drewN _)) (hx.drewN _) c2 (by omega) (by omega) H1.out).mono ?_; rintro e w' ⟨rfl, hd', ho'⟩)
                      go_roundg j
                      case measure => omega
                      case rel => exact ⟨y, _, rfl, (hw.only ((Only.refl _ _).drewN _)).only ho', hd', (ho.drewN _).trans ho', H'.out⟩
                    · have en : ptN d = ptD d := by unfold ptN; rw [if_neg c5]
                      rw [en] at h1 H
                      have pd := p2 d (by omega)
                      obtain ⟨q1, q2⟩ := ptD_bd d (by omega)
                      have H1 := Lib.hid h1
                      have H' := Lib.hid H
                      have c5i : (d : Int) < 9 := by omega
                      clear h1 H en p2 hd ed c6 c2b
                      generalize ptD d = v at *
                      go_wp2
                      go_quiet (fail)
                      go_wp2
                      go_quiet (fail)
                      go_wp2_with (go_at_call 155; refine (shl_calls' f f v _ x y B _ (by omega) (hw.only ((Only.refl _ _).drewN _)) (hx.drewN _) c2 (by omega) (by omega) H1.out).mono ?_; rintro e w' ⟨rfl, hd', ho'⟩)
                      go_roundg j
                      case measure => omega
                      case rel => exact ⟨y, _, rfl, (hw.only ((Only.refl _ _).drewN _)).only ho', hd', (ho.drewN _).trans ho', H'.out⟩
                  · have e0 : x.dp = 0 := by omega
                    have c7 : x.dg 0 < 53 := by omega
                    rw [e0] at c801
                    have ed : (-x.dp).toNat = 0 := by omega
                    rw [ed] at h1 H
                    have en : ptN 0 = 1 := by decide
                    rw [en] at h1 H
                    have pd := p2 0 (by omega)
                    rw [show ptD 0 = 1 by decide] at pd
                    simp only [Nat.add_zero] at pd
                    have b7 : decide (((x.dg 0 : Nat) : Int) < 53) = true := decide_eq_true (by omega)
                    have H1 := Lib.hid h1
                    have H' := Lib.hid H
                    clear h1 H en p2 ed c6 c2b c1 e0
                    go_wp2
                    go_quiet (fail)
                    go_wp2
                    go_quiet (fail)
                    go_wp2_with (go_at_call 155; refine (shl_calls' f f 1 _ x y B _ (by omega) (hw.only ((Only.refl _ _).drewN _)) (hx.drewN _) c2 (by omega) (by omega) H1.out).mono ?_; rintro e w' ⟨rfl, hd', ho'⟩)
                    go_roundg j
                    case measure => omega
                    case rel => exact ⟨y, _, rfl, (hw.only ((Only.refl _ _).drewN _)).only ho', hd', (ho.drewN _).trans ho', H'.out⟩
                · rw [if_neg c4] at H; cases H
              · rw [if_neg c3] at H; cases H
            · rw [if_neg c2b] at H; cases H
          · rw [if_neg c2] at H; cases H
        · rw [if_neg c1] at H
          have b6 : decide (x.dp < 0) = false := decide_eq_false (by omega)
          have H' := Lib.hid H
          clear H
          by_cases c6 : x.dp = 0
          · have b7 : decide (((x.dg 0 : Nat) : Int) < 53) = false := decide_eq_false (by omega)
            rw [c6] at c801
            clear c1 c6 b6
            go_wp2
            go_meet
            obtain ⟨rfl, rfl⟩ := Prod.mk.inj (Option.some.inj H'.out)
            exact ⟨rfl, hw, hx, ho⟩
          · have b7 : (x.dp == 0) = false := beq_eq_false_iff_ne.2 c6
            clear c1 c6
            go_wp2
            go_meet
            obtain ⟨rfl, rfl⟩ := Prod.mk.inj (Option.some.inj H'.out)
            exact ⟨rfl, hw, hx, ho⟩
    case rest =>
      clear A2 hx1 hw1 ho1
      obtain ⟨rfl, hw2, hx2, ho2⟩ := hcut
      have f0 := hw2.tabs.fi0
      have f1 := hw2.tabs.fi1
      have f2 := hw2.tabs.fi2
      go_upto_if 111 with fail
      go_cut [6] (fun s6 wc => s6 = .int .i64 e3 ∧ TabsUnder B wc ∧ DecAt wc B x3 ∧ Only B w wc)
      case first =>
        rcases h3 with ⟨q1, q2, q3, q4⟩ | ⟨q1, q2, q3⟩
        · subst q3
          have Q4 := Lib.hid q4
          clear q4
          go_wp2_with (go_at_call 155; refine (shr_calls' f f (-1022 - (e2 - 1)).toNat _ x2 x3 B _ (by omega) hx2 q2 (by omega) (by omega) Q4.out).mono ?_; rintro e w' ⟨rfl, hd', ho'⟩)
          go_meet
          exact ⟨by first | rfl | go_num | (congr 1; omega), hw2.only ho', hd', ho2.trans ho'⟩
        · subst q2 q3
          go_wp2
          go_meet
          exact ⟨rfl, hw2, hx2, ho2⟩
      case rest =>
        clear hx2 hw2 ho2 f0 f1 f2
        obtain ⟨rfl, hw3, hx3, ho3⟩ := hcut
        have f0 := hw3.tabs.fi0
        have f1 := hw3.tabs.fi1
        have f2 := hw3.tabs.fi2
        rcases h4 with ⟨c1, c3, c4⟩ | ⟨c1, hx3n, x4, m, h4, h5, h6⟩
        · have HR := Lib.hid c3
          subst c4
          clear c3
          have c802 := hx3.s
          generalize x3.neg = ng at *
          go_wp2
          go_quiet (fail)
          go_wp2
          go_step3
          refine jumpTo_goto _ _ rfl ?_
          go_wp2
          go_quiet (fail)
          go_wp2
          go_step3
          go_wp2
          go_quiet (fail)
          cases ng
          · go_wp2
            rw [Exit.noGoto_ret]
            go_ret2
            refine ⟨?_, by first | exact ho3.drewN _ | (simp only [World.drewN_drewN]; exact ho3.drewN _)⟩
            rw [HR.out]
            rfl
          · go_wp2
            go_quiet (fail)
            go_wp2
            rw [Exit.noGoto_ret]
            go_ret2
            refine ⟨?_, by first | exact ho3.drewN _ | (simp only [World.drewN_drewN]; exact ho3.drewN _)⟩
            rw [HR.out]
            rfl
        · have H4 := Lib.hid h4
          have H5 := Lib.hid h5
          clear h4 h5
          go_wp2
          go_quiet (fail)
          go_wp2_with fail
          refine (shl_calls' f f 53 _ x3 x4 B _ (by omega) (hw3.only ((Only.refl _ _).drewN _)) (hx3.drewN _) hx3n (by omega) (by omega) H4.out).mono ?_
          rintro e w' ⟨rfl, hd', ho'⟩
          have hw4 := (hw3.only ((Only.refl _ _).drewN _)).only ho'
          have ho4 := (ho3.drewN _).trans ho'
          clear f0 f1 f2 hw3 hx3 ho3 ho'
          have f0 := hw4.tabs.fi0
          have f1 := hw4.tabs.fi1
          have f2 := hw4.tabs.fi2
          have c802 := hd'.s
          go_wp2_with fail
          refine (ri_calls f x4 m B _ hd' H5.out).mono ?_
          rintro e w'' ⟨rfl, rfl⟩
          clear H4 H5 hd'
          generalize x4.neg = ng at *
          rcases h6 with ⟨c2, c5, c6, c7⟩ | ⟨c2, c5, c6, c7⟩ | ⟨c2, c5, c6, c7⟩ | ⟨c2, c5, c6, c7⟩
          · subst c2 c7
            have HR := Lib.hid c6
            clear c6
            go_wp2
            go_quiet (fail)
            go_wp2
            go_step3
            refine jumpTo_goto _ _ rfl ?_
            go_wp2
            go_quiet (fail)
            go_wp2
            go_step3
            go_wp2
            go_quiet (fail)
            cases ng
            · go_wp2
              rw [Exit.noGoto_ret]
              go_ret2
              refine ⟨?_, by first | exact ho4.drewN _ | (simp only [World.drewN_drewN]; exact ho4.drewN _)⟩
              rw [HR.out]
              rfl
            · go_wp2
              go_quiet (fail)
              go_wp2
              rw [Exit.noGoto_ret]
              go_ret2
              refine ⟨?_, by first | exact ho4.drewN _ | (simp only [World.drewN_drewN]; exact ho4.drewN _)⟩
              rw [HR.out]
              rfl
          · subst c2 c7
            have HR := Lib.hid c6
            have bb : (Go.bits .and .u64 4503599627370496 4503599627370496 == 0) = false := by decide
            clear c6
            go_wp2
            go_quiet (fail)
            go_wp2
            go_step3
            refine jumpTo_goto _ _ rfl ?_
            go_wp2
            go_quiet (fail)
            cases ng
            · go_wp2
              rw [Exit.noGoto_ret]
              go_ret2
              refine ⟨?_, by first | exact ho4.drewN _ | (simp only [World.drewN_drewN]; exact ho4.drewN _)⟩
              rw [HR.out]
              rfl
            · go_wp2
              go_quiet (fail)
              go_wp2
              rw [Exit.noGoto_ret]
              go_ret2
              refine ⟨?_, by first | exact ho4.drewN _ | (simp only [World.drewN_drewN]; exact ho4.drewN _)⟩
              rw [HR.out]
              rfl
          · have b2 : (m == 9007199254740992) = false := beq_eq_false_iff_ne.2 c2
            subst c7
            have HR := Lib.hid c6
            clear c6
            go_wp2
            go_step3
            refine jumpTo_goto _ _ rfl ?_
            go_wp2
            go_quiet (fail)
            cases ng
            · go_wp2
              rw [Exit.noGoto_ret]
              go_ret2
              refine ⟨?_, by first | exact ho4.drewN _ | (simp only [World.drewN_drewN]; exact ho4.drewN _)⟩
              rw [HR.out]
              rfl
            · go_wp2
              go_quiet (fail)
              go_wp2
              rw [Exit.noGoto_ret]
              go_ret2
              refine ⟨?_, by first | exact ho4.drewN _ | (simp only [World.drewN_drewN]; exact ho4.drewN _)⟩
              rw [HR.out]
              rfl
          · have b2 : (m == 9007199254740992) = false := beq_eq_false_iff_ne.2 c2
            subst c7
            have HR := Lib.hid c6
            clear c6
            go_wp2
            go_step3
            refine jumpTo_goto _ _ rfl ?_
            go_wp2
            go_quiet (fail)
            cases ng
            · go_wp2
              rw [Exit.noGoto_ret]
              go_ret2
              refine ⟨?_, by first | exact ho4.drewN _ | (simp only [World.drewN_drewN]; exact ho4.drewN _)⟩
              rw [HR.out]
              rfl
            · go_wp2
              go_quiet (fail)
              go_wp2
              rw [Exit.noGoto_ret]
              go_ret2
              refine ⟨?_, by first | exact ho4.drewN _ | (simp only [World.drewN_drewN]; exact ho4.drewN _)⟩
              rw [HR.out]
              rfl
/-- floatBits, whole. -/
def fbF (f : Nat) (x : Dec) : Option (Int × Bool) :=
  if x.nd = 0 then some (fbOut (-1023) 0 x.neg, false) else
  if 310 < x.dp then some (fbOut 1024 0 x.neg, true) else
  if x.dp < -330 then some (fbOut (-1023) 0 x.neg, false) else
  (fl1 f f x 0).bind fun a => (fl2 f f a.1 a.2).bind fun c =>
  if c.2 < -200000 then none else if 200000 < c.2 then none else
  (if c.2 - 1 < -1022 then (if c.1.nd = 0 then none else (shrL f f (-1022 - (c.2 - 1)).toNat c.1).bind fun y => some (y, -1022)) else some (c.1, c.2 - 1)).bind fun d =>
  if 1024 ≤ d.2 then some (fbOut 1024 0 d.1.neg, true) else
  if d.1.nd = 0 then none else
  (shlL f f 53 d.1).bind fun x4 => (riF f x4).bind fun m =>
  if m = 9007199254740992 then (if 1024 ≤ d.2 + 1 then some (fbOut 1024 0 x4.neg, true) else some (fbOut (d.2 + 1) 4503599627370496 x4.neg, false))
  else if (Go.bits .and .u64 m 4503599627370496 == 0) = true then some (fbOut (-1023) m x4.neg, false) else some (fbOut d.2 m x4.neg, false)
theorem fb_calls (f : Nat) (x : Dec) (r : Int) (o : Bool) (B : Nat) (w : World) (hw : TabsUnder B w) (hx : DecAt w B x) (h : fbF f x = some (r, o)) :
    Calls Tryz.prog 191 #[.pointer (some ⟨B, 0, none⟩), .pointer (some ⟨6, 0, none⟩)] w fun e w' => e = .returned (.tuple #[.int .u64 r, .bool o]) ∧ Only B w w' := by
  unfold fbF at h
  by_cases c1 : x.nd = 0
  · rw [if_pos c1] at h
    obtain ⟨e1, rfl⟩ := Prod.mk.inj (Option.some.inj h)
    exact fb_zero x r B w hw.tabs hx c1 e1.symm
  rw [if_neg c1] at h
  by_cases c2 : 310 < x.dp
  · rw [if_pos c2] at h
    obtain ⟨e1, rfl⟩ := Prod.mk.inj (Option.some.inj h)
    exact fb_over x r B w hw.tabs hx (by omega) c2 e1.symm
  rw [if_neg c2] at h
  by_cases c3 : x.dp < -330
  · rw [if_pos c3] at h
    obtain ⟨e1, rfl⟩ := Prod.mk.inj (Option.some.inj h)
    exact fb_under x r B w hw.tabs hx (by omega) c3 e1.symm
  rw [if_neg c3] at h
  obtain ⟨⟨x1, e1⟩, h1, h⟩ := Option.bind_eq_some_iff.1 h
  obtain ⟨⟨x2, e2⟩, h2, h⟩ := Option.bind_eq_some_iff.1 h
  by_cases c4 : e2 < -200000
  · rw [if_pos c4] at h; cases h
  rw [if_neg c4] at h
  by_cases c5 : 200000 < e2
  · rw [if_pos c5] at h; cases h
  rw [if_neg c5] at h
  obtain ⟨⟨x3, e3⟩, h3, h⟩ := Option.bind_eq_some_iff.1 h
  dsimp only at h h3
  refine fb_main f x x1 x2 e1 e2 B w hw hx (by omega) (by omega) (by omega) h1 h2 (by omega) (by omega) e3 x3 r o ?_ ?_
  · by_cases c6 : e2 - 1 < -1022
    · rw [if_pos c6] at h3
      by_cases c7 : x2.nd = 0
      · rw [if_pos c7] at h3; cases h3
      rw [if_neg c7] at h3
      obtain ⟨y, h3y, h5⟩ := Option.bind_eq_some_iff.1 h3
      clear h3
      obtain ⟨rfl, rfl⟩ := Prod.mk.inj (Option.some.inj h5)
      exact Or.inl ⟨c6, by omega, rfl, h3y⟩
    · rw [if_neg c6] at h3
      obtain ⟨rfl, rfl⟩ := Prod.mk.inj (Option.some.inj h3)
      exact Or.inr ⟨c6, rfl, rfl⟩
  · by_cases c6 : 1024 ≤ e3
    · rw [if_pos c6] at h
      obtain ⟨rfl, rfl⟩ := Prod.mk.inj (Option.some.inj h)
      exact Or.inl ⟨c6, rfl, rfl⟩
    rw [if_neg c6] at h
    by_cases c7 : x3.nd = 0
    · rw [if_pos c7] at h; cases h
    rw [if_neg c7] at h
    obtain ⟨x4, h4, h⟩ := Option.bind_eq_some_iff.1 h
    obtain ⟨m, h5, h⟩ := Option.bind_eq_some_iff.1 h
    refine Or.inr ⟨c6, by omega, x4, m, h4, h5, ?_⟩
    by_cases c8 : m = 9007199254740992
    · rw [if_pos c8] at h
      by_cases c9 : 1024 ≤ e3 + 1
      · rw [if_pos c9] at h
        obtain ⟨rfl, rfl⟩ := Prod.mk.inj (Option.some.inj h)
        exact Or.inl ⟨c8, c9, rfl, rfl⟩
      · rw [if_neg c9] at h
        obtain ⟨rfl, rfl⟩ := Prod.mk.inj (Option.some.inj h)
        exact Or.inr (Or.inl ⟨c8, c9, rfl, rfl⟩)
    · rw [if_neg c8] at h
      by_cases c9 : (Go.bits .and .u64 m 4503599627370496 == 0) = true
      · rw [if_pos c9] at h
        obtain ⟨rfl, rfl⟩ := Prod.mk.inj (Option.some.inj h)
        exact Or.inr (Or.inr (Or.inl ⟨c8, c9, rfl, rfl⟩))
      · rw [if_neg c9] at h
        obtain ⟨rfl, rfl⟩ := Prod.mk.inj (Option.some.inj h)
        exact Or.inr (Or.inr (Or.inr ⟨c8, by simpa using c9, rfl, rfl⟩))
end Go.Proofs.YtnggkkdcddpjlaaGreatDoor
