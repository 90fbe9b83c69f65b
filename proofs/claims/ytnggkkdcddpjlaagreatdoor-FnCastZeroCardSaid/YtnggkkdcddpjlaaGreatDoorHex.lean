/- atofHex: what it answers. -/
import Derived.Test.YtnggkkdcddpjlaaGreatDoorFb
import Derived.Test.YtnggkkdcddpjlaaGreatDoorShelf
import Derived.Laws.BitsAllLaws
import Derived.Test.YtnggkkdcddpjlaaGreatDoorExt
namespace Go.Proofs.YtnggkkdcddpjlaaGreatDoor
set_option linter.unusedVariables false
set_option linter.unusedSimpArgs false
open Go.RowKit
/-- Bits up. -/
def hx1 : Nat → Nat → Int → Option (Nat × Int)
  | 0, _, _ => none
  | f + 1, m, e => if m = 0 then some (m, e) else if 18014398509481984 ≤ m then some (m, e) else if -100000000 ≤ e then hx1 f (m * 2) (e - 1) else none
/-- One bit down, what falls out kept. -/
def hxd (m : Nat) : Nat := m / 2 ||| m % 2
def hx2 : Nat → Nat → Int → Option (Nat × Int)
  | 0, _, _ => none
  | f + 1, m, e => if m < 36028797018963968 then some (m, e) else if m < 18446744073709551616 then (if e ≤ 100000000 then hx2 f (hxd m) (e + 1) else none) else none
def hx3 : Nat → Nat → Int → Option (Nat × Int)
  | 0, _, _ => none
  | f + 1, m, e => if m ≤ 1 then some (m, e) else if -1024 ≤ e then some (m, e) else if m < 18446744073709551616 then (if -1000000000 ≤ e then hx3 f (hxd m) (e + 1) else none) else none
theorem hxd_bits (m : Nat) (hm : m < 18446744073709551616) : bits .or .u64 ((m : Int) / 2) (bits .and .u64 (m : Int) 1) = (hxd m : Int) := by
  have h1 : bits .and .u64 (m : Int) 1 = ((m % 2 : Nat) : Int) := by
    have := u64_and_nat m 1 hm (by omega)
    rw [show ((1 : Nat) : Int) = 1 from rfl] at this
    rw [this, Nat.and_one_is_mod]
  rw [h1, show (m : Int) / 2 = ((m / 2 : Nat) : Int) by omega, u64_or_nat _ _ (by omega) (by omega)]
  rfl
/-- Rounding by the two lowest bits. -/
def hxR (m : Nat) : Int := bits .or .u64 (bits .and .u64 (m : Int) 3) (bits .and .u64 ((m : Int) / 4) 1)
def hxM (m : Nat) : Nat := if hxR m = 3 then (if m / 4 + 1 = 9007199254740992 then 4503599627370496 else m / 4 + 1) else m / 4
def hxE (m : Nat) (e : Int) : Int := if hxR m = 3 then (if m / 4 + 1 = 9007199254740992 then e + 3 else e + 2) else e + 2
def hxZ (m : Nat) (e : Int) : Int := if hxM m < 4503599627370496 then -1023 else hxE m e
def hxF (f : Nat) (m : Nat) (e : Int) (neg tr : Bool) : Option (Int × Bool) :=
  if m < 18446744073709551616 then (if -10000000 ≤ e then (if e ≤ 10000000 then
  (hx1 f m (e + 52)).bind fun a => if a.1 < 18446744073709551616 then (if -200000000 ≤ a.2 then (if a.2 ≤ 99999999 then
    (hx2 f (if tr = true then (bits .or .u64 (a.1 : Int) 1).toNat else a.1) a.2).bind fun b => if b.1 < 18446744073709551616 then (if -200000000 ≤ b.2 then (if b.2 ≤ 200000000 then
      (hx3 f b.1 b.2).bind fun c => if c.1 < 18446744073709551616 then (if -1000000000 ≤ c.2 then (if c.2 ≤ 1000000000 then
        some (if 1023 < hxZ c.1 c.2 then (fbOut 1024 4503599627370496 neg, true) else (fbOut (hxZ c.1 c.2) (hxM c.1) neg, false)) else none) else none) else none
      else none) else none) else none
    else none) else none) else none
  else none) else none) else none
set_option maxHeartbeats 8000000 in
set_option maxRecDepth 100000 in
theorem hex_main (fF : Nat) (s : ByteArray) (m m1 m1' m2 m3 : Nat) (ex e1 e2 e3 : Int) (neg tr : Bool) (w : World) (hw : Tabs w) (h2w : Two w) (hm : m < 18446744073709551616) (he1 : -10000000 ≤ ex) (he2 : ex ≤ 10000000)
    (h1 : hx1 fF m (ex + 52) = some (m1, e1)) (hm1 : m1 < 18446744073709551616) (hm1' : m1' = if tr = true then (bits .or .u64 (m1 : Int) 1).toNat else m1) (h2 : hx2 fF m1' e1 = some (m2, e2)) (hm2 : m2 < 18446744073709551616)
    (g1 : -200000000 ≤ e1) (g2 : e1 ≤ 99999999) (g3 : -200000000 ≤ e2) (g4 : e2 ≤ 200000000) (g5 : -1000000000 ≤ e3) (g6 : e3 ≤ 1000000000)
    (h3 : hx3 fF m2 e2 = some (m3, e3)) (hm3 : m3 < 18446744073709551616) (zb : Int) (ev : Value)
    (hz : (1023 < hxZ m3 e3 ∧ zb = fbOut 1024 4503599627370496 neg ∧ ev = .iface 172 (.int .i64 1)) ∨ (¬ 1023 < hxZ m3 e3 ∧ zb = fbOut (hxZ m3 e3) (hxM m3) neg ∧ ev = .nilIface)) :
    Calls Tryz.prog 185 #[.string s, .pointer (some ⟨6, 0, none⟩), .int .u64 m, .int .i64 ex, .bool neg, .bool tr] w fun e w' => e = .returned (.tuple #[.float .f64 zb.toNat, ev]) ∧ ∃ k, w' = w.drewN k := by
  have f0 := hw.fi0
  have f1 := hw.fi1
  have f2 := hw.fi2
  clear hw
  have A1 := Lib.hid h1
  have AM := Lib.hid hm1'
  have A2 := Lib.hid h2
  have A3 := Lib.hid h3
  clear h1 h2 h3 hm1'
  have hpt : ∀ k, (binOp .eql 255 (.pointer (some ⟨6, 0, none⟩)) (.pointer (some ⟨5, 0, none⟩))).run Tryz.prog (w.drewN k) = .ok (.bool false) (w.drewN k) := fun k => ptr65 _ (h2w.drewN k)
  have AZ := Lib.hid hz
  clear hz
  go_enter Tryz.func185, Tryz.ntmps185
  go_wp2
  go_quiet (fail)
  go_upto_block 0 with fail
  go_cut [2, 3] from 42 to 53 (fun s2 s3 wc => ∃ k, s2 = .int .u64 m1 ∧ s3 = .int .i64 e1 ∧ wc = w.drewN k)
  case first =>
    clear AM A2 A3
    go_wp2_with fail
    go_loopg [2, 3] fF (fun f s2 s3 wr => ∃ (m : Nat) (e : Int) (k : Nat), s2 = .int .u64 m ∧ s3 = .int .i64 e ∧ wr = w.drewN k ∧ e ≤ 100000000 ∧ Aside (hx1 f m e = some (m1, e1)))
    case atStart => exact ⟨m, ex + 52, _, rfl, rfl, rfl, by omega, A1.out⟩
    case round =>
      clear A1
      obtain ⟨m, e, k, rfl, rfl, rfl, he, hA⟩ := hrel
      have H := hA.out
      clear hA
      cases gk with
      | zero => cases H
      | succ f =>
      rw [hx1] at H
      by_cases c1 : m = 0
      · rw [if_pos c1] at H
        have b1 : ((m : Int) != 0) = false := by rw [bne_eq_false_iff_eq]; omega
        obtain ⟨rfl, rfl⟩ := Prod.mk.inj (Option.some.inj H)
        clear H c1
        go_wp2
        go_meet
        exact ⟨_, rfl, rfl, rfl⟩
      rw [if_neg c1] at H
      have b1 : ((m : Int) != 0) = true := by rw [bne_iff_ne]; omega
      by_cases c2 : 18014398509481984 ≤ m
      · rw [if_pos c2] at H
        have b2 : ((m : Int) / 18014398509481984 == 0) = false := beq_eq_false_iff_ne.2 (by omega)
        obtain ⟨rfl, rfl⟩ := Prod.mk.inj (Option.some.inj H)
        clear H c1 c2
        go_wp2
        go_meet
        exact ⟨_, rfl, rfl, rfl⟩
      rw [if_neg c2] at H
      have b2 : ((m : Int) / 18014398509481984 == 0) = true := beq_iff_eq.2 (by omega)
      by_cases c3 : -100000000 ≤ e
      rotate_left
      · rw [if_neg c3] at H; cases H
      rw [if_pos c3] at H
      have hmi : (m : Int) < 18014398509481984 := by omega
      have H' := Lib.hid H
      clear H c1 c2
      go_wp2
      go_roundg f
      case measure => omega
      case rel => exact ⟨m * 2, e - 1, _, by go_num, by first | rfl | go_num, rfl, by omega, H'.out⟩
  case rest =>
    obtain ⟨k, rfl, rfl, rfl⟩ := hcut
    clear A1
    go_upto_if 58 with fail
    go_cut [2] from 59 to 60 (fun s2 wc => s2 = .int .u64 m1' ∧ wc = w.drewN k)
    case first =>
      have e := AM.out
      cases tr
      · rw [if_neg (by simp)] at e
        subst e
        go_wp2
        go_meet
        exact ⟨rfl, rfl⟩
      · rw [if_pos rfl] at e
        have hb : bits .or .u64 (m1 : Int) 1 = (m1' : Int) := by
          have := u64_or_nat m1 1 hm1 (by omega)
          rw [show ((1 : Nat) : Int) = 1 from rfl] at this
          rw [e, this]; simp
        clear e
        go_wp2
        go_meet
        exact ⟨rfl, rfl⟩
    case rest =>
      obtain ⟨rfl, rfl⟩ := hcut
      clear AM
      go_upto_block 2 with fail
      go_cut [2, 3] from 61 to 78 (fun s2 s3 wc => ∃ k, s2 = .int .u64 m2 ∧ s3 = .int .i64 e2 ∧ wc = w.drewN k)
      case first =>
        go_wp2_with fail
        go_loopg [2, 3] fF (fun f s2 s3 wr => ∃ (m : Nat) (e : Int) (k : Nat), s2 = .int .u64 m ∧ s3 = .int .i64 e ∧ wr = w.drewN k ∧ -200000000 ≤ e ∧ Aside (hx2 f m e = some (m2, e2)))
        case atStart => exact ⟨m1', e1, _, rfl, rfl, rfl, by omega, A2.out⟩
        case round =>
          clear A2 A3
          obtain ⟨m, e, k, rfl, rfl, rfl, he, hA⟩ := hrel
          have H := hA.out
          clear hA
          cases gk with
          | zero => cases H
          | succ f =>
          rw [hx2] at H
          by_cases c1 : m < 36028797018963968
          · rw [if_pos c1] at H
            have b1 : ((m : Int) / 36028797018963968 != 0) = false := by rw [bne_eq_false_iff_eq]; omega
            obtain ⟨rfl, rfl⟩ := Prod.mk.inj (Option.some.inj H)
            clear H c1
            go_wp2
            go_meet
            exact ⟨_, rfl, rfl, rfl⟩
          rw [if_neg c1] at H
          have b1 : ((m : Int) / 36028797018963968 != 0) = true := by rw [bne_iff_ne]; omega
          by_cases c2 : m < 18446744073709551616
          rotate_left
          · rw [if_neg c2] at H; cases H
          rw [if_pos c2] at H
          by_cases c3 : e ≤ 100000000
          rotate_left
          · rw [if_neg c3] at H; cases H
          rw [if_pos c3] at H
          have hd := hxd_bits m c2
          have H' := Lib.hid H
          clear H c1
          go_wp2
          go_roundg f
          case measure => omega
          case rel => exact ⟨hxd m, e + 1, _, rfl, by first | rfl | go_num, rfl, by omega, H'.out⟩
      case rest =>
        obtain ⟨k, rfl, rfl, rfl⟩ := hcut
        clear A2
        go_upto_block 4 with fail
        go_cut [2, 3] from 79 to 93 (fun s2 s3 wc => ∃ k, s2 = .int .u64 m3 ∧ s3 = .int .i64 e3 ∧ wc = w.drewN k)
        case first =>
          go_wp2_with fail
          go_loopg [2, 3] fF (fun f s2 s3 wr => ∃ (m : Nat) (e : Int) (k : Nat), s2 = .int .u64 m ∧ s3 = .int .i64 e ∧ wr = w.drewN k ∧ Aside (hx3 f m e = some (m3, e3)))
          case atStart => exact ⟨m2, e2, _, rfl, rfl, rfl, A3.out⟩
          case round =>
            clear A3
            obtain ⟨m, e, k, rfl, rfl, rfl, hA⟩ := hrel
            have H := hA.out
            clear hA
            cases gk with
            | zero => cases H
            | succ f =>
            rw [hx3] at H
            by_cases c1 : m ≤ 1
            · rw [if_pos c1] at H
              have b1 : ¬ ((1 : Int) < (m : Int)) := by omega
              obtain ⟨rfl, rfl⟩ := Prod.mk.inj (Option.some.inj H)
              clear H
              go_wp2
              go_meet
              exact ⟨_, rfl, rfl, rfl⟩
            rw [if_neg c1] at H
            have b1 : (1 : Int) < (m : Int) := by omega
            by_cases c2 : -1024 ≤ e
            · rw [if_pos c2] at H
              have b2 : ¬ (e < -1024) := by omega
              obtain ⟨rfl, rfl⟩ := Prod.mk.inj (Option.some.inj H)
              clear H
              go_wp2
              go_meet
              exact ⟨_, rfl, rfl, rfl⟩
            rw [if_neg c2] at H
            have b2 : e < -1024 := by omega
            by_cases c3 : m < 18446744073709551616
            rotate_left
            · rw [if_neg c3] at H; cases H
            rw [if_pos c3] at H
            by_cases c4 : -1000000000 ≤ e
            rotate_left
            · rw [if_neg c4] at H; cases H
            rw [if_pos c4] at H
            have hd := hxd_bits m c3
            have H' := Lib.hid H
            clear H c1 c2
            go_wp2
            go_roundg f
            case measure => omega
            case rel => exact ⟨hxd m, e + 1, _, rfl, by first | rfl | go_num, rfl, H'.out⟩
        case rest =>
          obtain ⟨k, rfl, rfl, rfl⟩ := hcut
          clear A3
          go_upto_if 103 with fail
          have AMM : Hid (hxM m3 = if hxR m3 = 3 then (if m3 / 4 + 1 = 9007199254740992 then 4503599627370496 else m3 / 4 + 1) else m3 / 4) := Lib.hid rfl
          have AEE : Hid (hxE m3 e3 = if hxR m3 = 3 then (if m3 / 4 + 1 = 9007199254740992 then e3 + 3 else e3 + 2) else e3 + 2) := Lib.hid rfl
          have AZZ : Hid (hxZ m3 e3 = if hxM m3 < 4503599627370496 then -1023 else hxE m3 e3) := Lib.hid rfl
          have hR : bits .or .u64 (bits .and .u64 (m3 : Int) 3) (bits .and .u64 ((m3 : Int) / 4) 1) = hxR m3 := rfl
          have hb1 : hxM m3 < 18446744073709551616 := by rw [AMM.out]; split <;> (try split) <;> omega
          have hb2 : -1100000000 ≤ hxE m3 e3 ∧ hxE m3 e3 ≤ 1100000000 := by rw [AEE.out]; split <;> (try split) <;> omega
          have hb3 : -1100000000 ≤ hxZ m3 e3 ∧ hxZ m3 e3 ≤ 1100000000 := by rw [AZZ.out]; split <;> omega
          generalize hxZ m3 e3 = z at *
          generalize hxE m3 e3 = e4 at *
          generalize hxM m3 = m4 at *
          generalize hxR m3 = rr at *
          go_cut [2, 3] from 104 to 119 (fun s2 s3 wc => s2 = .int .u64 m4 ∧ s3 = .int .i64 e4 ∧ wc = w.drewN k)
          case first =>
            have q1 := AMM.out
            have q2 := AEE.out
            by_cases c1 : rr = 3
            · have b1 : (rr == 3) = true := beq_iff_eq.2 c1
              rw [if_pos c1] at q1 q2
              clear c1
              by_cases c2 : m3 / 4 + 1 = 9007199254740992
              · have b2 : ((m3 : Int) / 4 + 1 == 9007199254740992) = true := beq_iff_eq.2 (by omega)
                have b3 : (m3 : Int) / 4 + 1 = 9007199254740992 := by omega
                rw [if_pos c2] at q1 q2
                subst q1 q2
                clear c2
                go_wp2
                go_meet
                exact ⟨by first | rfl | go_num, by first | rfl | go_num, rfl⟩
              · have b2 : ((m3 : Int) / 4 + 1 == 9007199254740992) = false := beq_eq_false_iff_ne.2 (by omega)
                rw [if_neg c2] at q1 q2
                subst q1 q2
                clear c2
                go_wp2
                go_meet
                exact ⟨by first | rfl | go_num, by first | rfl | go_num, rfl⟩
            · have b1 : (rr == 3) = false := beq_eq_false_iff_ne.2 c1
              rw [if_neg c1] at q1 q2
              subst q1 q2
              clear c1
              go_wp2
              go_meet
              exact ⟨by first | rfl | go_num, by first | rfl | go_num, rfl⟩
          case rest =>
            obtain ⟨rfl, rfl, rfl⟩ := hcut
            clear AMM AEE hR
            go_upto_if 124 with fail
            go_cut [3] from 125 to 127 (fun s3 wc => s3 = .int .i64 z ∧ wc = w.drewN k)
            case first =>
              have q := AZZ.out
              by_cases c1 : m4 < 4503599627370496
              · have b1 : ((m4 : Int) / 4503599627370496 == 0) = true := beq_iff_eq.2 (by omega)
                rw [if_pos c1] at q
                subst q
                clear c1
                go_wp2
                go_meet
                exact ⟨rfl, rfl⟩
              · have b1 : ((m4 : Int) / 4503599627370496 == 0) = false := beq_eq_false_iff_ne.2 (by omega)
                rw [if_neg c1] at q
                subst q
                clear c1
                go_wp2
                go_meet
                exact ⟨rfl, rfl⟩
            case rest =>
              obtain ⟨rfl, rfl⟩ := hcut
              clear AZZ
              rcases AZ.out with ⟨c1, c2, c3⟩ | ⟨c1, c2, c3⟩
              · have CB := Lib.hid c2
                have CV := Lib.hid c3
                clear AZ c2 c3
                cases neg
                · go_wp2
                  go_quiet (fail)
                  go_wp2
                  go_ret2
                  exact ⟨by rw [CB.out, CV.out]; rfl, _, rfl⟩
                · go_wp2
                  go_quiet (fail)
                  go_wp2
                  go_quiet (fail)
                  go_wp2
                  go_ret2
                  exact ⟨by rw [CB.out, CV.out]; rfl, _, rfl⟩
              · have CB := Lib.hid c2
                have CV := Lib.hid c3
                clear AZ c2 c3
                cases neg
                · go_wp2
                  go_quiet (fail)
                  go_wp2
                  go_ret2
                  exact ⟨by rw [CB.out, CV.out]; rfl, _, rfl⟩
                · go_wp2
                  go_quiet (fail)
                  go_wp2
                  go_quiet (fail)
                  go_wp2
                  go_ret2
                  exact ⟨by rw [CB.out, CV.out]; rfl, _, rfl⟩
/-- The error value 'out of range', or none. -/
def evOf (ov : Bool) : Value := if ov = true then .iface 172 (.int .i64 1) else .nilIface
theorem hex_calls (f : Nat) (s : ByteArray) (m : Nat) (ex zb : Int) (neg tr ov : Bool) (w : World) (hw : Tabs w) (h2w : Two w) (h : hxF f m ex neg tr = some (zb, ov)) :
    Calls Tryz.prog 185 #[.string s, .pointer (some ⟨6, 0, none⟩), .int .u64 m, .int .i64 ex, .bool neg, .bool tr] w fun e w' => e = .returned (.tuple #[.float .f64 zb.toNat, evOf ov]) ∧ ∃ k, w' = w.drewN k := by
  unfold hxF at h
  by_cases c1 : m < 18446744073709551616
  rotate_left
  · rw [if_neg c1] at h; cases h
  rw [if_pos c1] at h
  by_cases c2 : -10000000 ≤ ex
  rotate_left
  · rw [if_neg c2] at h; cases h
  rw [if_pos c2] at h
  by_cases c3 : ex ≤ 10000000
  rotate_left
  · rw [if_neg c3] at h; cases h
  rw [if_pos c3] at h
  obtain ⟨⟨m1, e1⟩, h1, h⟩ := Option.bind_eq_some_iff.1 h
  dsimp only at h
  by_cases c4 : m1 < 18446744073709551616
  rotate_left
  · rw [if_neg c4] at h; cases h
  rw [if_pos c4] at h
  by_cases c5 : -200000000 ≤ e1
  rotate_left
  · rw [if_neg c5] at h; cases h
  rw [if_pos c5] at h
  by_cases c6 : e1 ≤ 99999999
  rotate_left
  · rw [if_neg c6] at h; cases h
  rw [if_pos c6] at h
  obtain ⟨⟨m2, e2⟩, h2, h⟩ := Option.bind_eq_some_iff.1 h
  dsimp only at h
  by_cases c7 : m2 < 18446744073709551616
  rotate_left
  · rw [if_neg c7] at h; cases h
  rw [if_pos c7] at h
  by_cases c8 : -200000000 ≤ e2
  rotate_left
  · rw [if_neg c8] at h; cases h
  rw [if_pos c8] at h
  by_cases c9 : e2 ≤ 200000000
  rotate_left
  · rw [if_neg c9] at h; cases h
  rw [if_pos c9] at h
  obtain ⟨⟨m3, e3⟩, h3, h⟩ := Option.bind_eq_some_iff.1 h
  dsimp only at h
  by_cases c10 : m3 < 18446744073709551616
  rotate_left
  · rw [if_neg c10] at h; cases h
  rw [if_pos c10] at h
  by_cases c11 : -1000000000 ≤ e3
  rotate_left
  · rw [if_neg c11] at h; cases h
  rw [if_pos c11] at h
  by_cases c12 : e3 ≤ 1000000000
  rotate_left
  · rw [if_neg c12] at h; cases h
  rw [if_pos c12] at h
  refine hex_main f s m m1 _ m2 m3 ex e1 e2 e3 neg tr w hw h2w c1 c2 c3 h1 c4 rfl h2 c7 c5 c6 c8 c9 c11 c12 h3 c10 zb (evOf ov) ?_
  by_cases c : 1023 < hxZ m3 e3
  · rw [if_pos c] at h
    obtain ⟨rfl, rfl⟩ := Prod.mk.inj (Option.some.inj h)
    exact Or.inl ⟨c, rfl, rfl⟩
  · rw [if_neg c] at h
    obtain ⟨rfl, rfl⟩ := Prod.mk.inj (Option.some.inj h)
    exact Or.inr ⟨c, rfl, rfl⟩
end Go.Proofs.YtnggkkdcddpjlaaGreatDoor
