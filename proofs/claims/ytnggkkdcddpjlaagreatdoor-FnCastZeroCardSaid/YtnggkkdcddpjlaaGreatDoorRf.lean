/- readFloat: what it answers. -/
import Derived.Test.YtnggkkdcddpjlaaGreatDoorUo
import Derived.Test.YtnggkkdcddpjlaaGreatDoorSet
namespace Go.Proofs.YtnggkkdcddpjlaaGreatDoor
set_option linter.unusedVariables false
set_option linter.unusedSimpArgs false
open Go.RowKit
theorem results_tmp7 {fn : Func} {a b c d e f g : Tmp} (h : fn.results = #[.tmp a, .tmp b, .tmp c, .tmp d, .tmp e, .tmp f, .tmp g]) (tmps : Array Value) (P : Program) (w : World) :
    (results fn tmps).run P w = .ok (.tuple #[tmps.getD a undef, tmps.getD b undef, tmps.getD c undef, tmps.getD d undef, tmps.getD e undef, tmps.getD f undef, tmps.getD g undef]) w := by
  simp [results, h]
structure RfS where
  m : Int
  tr : Bool
  i : Nat
  us : Bool
  sd : Bool
  sg : Bool
  nd : Nat
  nm : Nat
  dp : Int
structure RfR where
  m : Int
  exp : Int
  neg : Bool
  tr : Bool
  hex : Bool
  i : Nat
  ok : Bool
def rfBase (hex : Bool) : Nat := if hex = true then 16 else 10
def rfMax (hex : Bool) : Nat := if hex = true then 16 else 19
def rfChar (hex : Bool) : Nat := if hex = true then 112 else 101
/-- The loop over the digits. -/
def rfL (s : ByteArray) (hex : Bool) : Nat → RfS → Option RfS
  | 0, _ => none
  | f + 1, q =>
    if q.i < s.size then
      (if sb s q.i = 95 then rfL s hex f { q with us := true, i := q.i + 1 }
       else if sb s q.i = 46 then (if q.sd = true then some q else rfL s hex f { q with sd := true, dp := q.nd, i := q.i + 1 })
       else if 48 ≤ sb s q.i ∧ sb s q.i ≤ 57 then
         (if sb s q.i = 48 ∧ q.nd = 0 then rfL s hex f { q with sg := true, dp := q.dp - 1, i := q.i + 1 }
          else if q.nm < rfMax hex then rfL s hex f { q with sg := true, nd := q.nd + 1, nm := q.nm + 1, m := IntKind.u64.wrap (IntKind.u64.wrap (q.m * rfBase hex) + ((sb s q.i : Int) - 48)), i := q.i + 1 }
          else if sb s q.i = 48 then rfL s hex f { q with sg := true, nd := q.nd + 1, i := q.i + 1 }
          else rfL s hex f { q with sg := true, nd := q.nd + 1, tr := true, i := q.i + 1 })
       else if hex = true ∧ 97 ≤ lw (sb s q.i) ∧ lw (sb s q.i) ≤ 102 then
         (if q.nm < rfMax hex then rfL s hex f { q with sg := true, nd := q.nd + 1, nm := q.nm + 1, m := IntKind.u64.wrap (IntKind.u64.wrap (q.m * 16) + (lw (sb s q.i) - 97 + 10)), i := q.i + 1 }
          else rfL s hex f { q with sg := true, nd := q.nd + 1, tr := true, i := q.i + 1 })
       else some q)
    else some q
/-- The exponent, behind its letter at i. -/
def xpF (s : ByteArray) (f i : Nat) (us : Bool) : Option (Bool × Nat × Int × Bool) :=
  if i + 1 < s.size then
    (if expAt s i < s.size then (if 48 ≤ sb s (expAt s i) then (if sb s (expAt s i) ≤ 57 then
      (expL s f (expAt s i) 0 us).bind fun a =>
        if a.1 ≤ s.size then (if a.2.1 ≤ 1000000 then some (true, a.1, (a.2.1 : Int) * expSg s i, a.2.2) else none) else none
     else some (false, expAt s i, 0, us)) else some (false, expAt s i, 0, us)) else some (false, expAt s i, 0, us))
   else some (false, i + 1, 0, us)
def rfZ (s : ByteArray) (f : Nat) (neg hex : Bool) (m : Int) (tr : Bool) (i : Nat) (us : Bool) (dp : Int) (nm : Nat) : Option RfR :=
  if us = true then (uoF f (s.extract 0 i)).bind fun b => some ⟨m, if m = 0 then 0 else dp - nm, neg, tr, hex, i, b⟩
  else some ⟨m, if m = 0 then 0 else dp - nm, neg, tr, hex, i, true⟩
def rfD (hex : Bool) (q : RfS) : Int := if hex = true then (if q.sd = true then q.dp else q.nd) * 4 else (if q.sd = true then q.dp else q.nd)
def rfN (hex : Bool) (q : RfS) : Nat := if hex = true then q.nm * 4 else q.nm
def rfE (s : ByteArray) (f : Nat) (neg hex : Bool) (q : RfS) : Option RfR :=
  if q.i ≤ s.size then
  (if q.sg = false then some ⟨q.m, 0, neg, q.tr, hex, q.i, false⟩
   else if q.i < s.size ∧ lw (sb s q.i) = rfChar hex then
     (xpF s f q.i q.us).bind fun a => if a.1 = true then rfZ s f neg hex q.m q.tr a.2.1 a.2.2.2 (rfD hex q + a.2.2.1) (rfN hex q) else some ⟨q.m, 0, neg, q.tr, hex, a.2.1, false⟩
   else if hex = true then some ⟨q.m, 0, neg, q.tr, hex, q.i, false⟩
   else rfZ s f neg hex q.m q.tr q.i q.us (rfD hex q) (rfN hex q))
  else none
/-- A hexadecimal prefix at i. -/
def rfX (s : ByteArray) (i : Nat) : Bool := decide (i + 2 < s.size) && (decide (sb s i = 48) && decide (lw (sb s (i + 1)) = 120))
def rfI (s : ByteArray) : Nat := if sb s 0 = 43 ∨ sb s 0 = 45 then 1 else 0
def rfF (f : Nat) (s : ByteArray) : Option RfR :=
  if s.size = 0 then some ⟨0, 0, false, false, false, 0, false⟩ else
  (rfL s (rfX s (rfI s)) f ⟨0, false, if rfX s (rfI s) = true then rfI s + 2 else rfI s, false, false, false, 0, 0, 0⟩).bind fun q => rfE s f (decide (sb s 0 = 45)) (rfX s (rfI s)) q
set_option maxRecDepth 100000 in
theorem rf_empty (s : ByteArray) (w : World) (hs : s.size = 0) :
    Calls Tryz.prog 184 #[.string s] w fun e w' => e = .returned (.tuple #[.int .u64 0, .int .i64 0, .bool false, .bool false, .bool false, .int .i64 0, .bool false]) ∧ w = w' := by
  have hse : s = ByteArray.empty := by
    have := ByteArray.size_eq_zero_iff.1 hs
    exact this
  subst hse
  go_enter Tryz.func184, Tryz.ntmps184
  go_wp2
  apply wp_scope_straight
  go_wp2
  try rw [Exit.noGoto_ret]
  refine bodyPost_ret (results_tmp7 rfl _ _ _) rfl ?_
  exact ⟨rfl, rfl⟩
set_option maxHeartbeats 8000000 in
set_option maxRecDepth 100000 in
theorem rf_main (fF : Nat) (s : ByteArray) (hex neg : Bool) (i0 i1 : Nat) (q : RfS) (r : RfR) (w : World) (hs : s.size ≤ 1000) (h0 : 0 < s.size)
    (hi0 : i0 = rfI s) (hng : neg = decide (sb s 0 = 45)) (hhx : hex = rfX s i0) (hi1 : i1 = if hex = true then i0 + 2 else i0)
    (hL : rfL s hex fF ⟨0, false, i1, false, false, false, 0, 0, 0⟩ = some q) (hE : rfE s fF neg hex q = some r) :
    Calls Tryz.prog 184 #[.string s] w fun e w' => e = .returned (.tuple #[.int .u64 r.m, .int .i64 r.exp, .bool r.neg, .bool r.tr, .bool r.hex, .int .i64 r.i, .bool r.ok]) ∧ w = w' := by
  have AL := Lib.hid hL
  have AE := Lib.hid hE
  have AI : Hid (i0 = if sb s 0 = 43 ∨ sb s 0 = 45 then 1 else 0) := Lib.hid hi0
  have AN := Lib.hid hng
  have AJ := Lib.hid hi1
  unfold rfX at hhx
  have AH := Lib.hid hhx
  have hx2 : hex = true → (i0 : Int) + 2 < (s.size : Int) := by
    intro e; rw [e] at hhx; simp at hhx; omega
  clear hL hE hi0 hng hhx hi1
  have h0i : (0 : Int) < (s.size : Int) := by omega
  have hb := sb_at h0
  have hse : ¬ s = ByteArray.empty := by intro e; subst e; simp at h0
  go_enter Tryz.func184, Tryz.ntmps184
  go_wp2
  apply wp_scope_straight
  go_upto_block 0 with fail
  go_cut [4, 7] from 24 to 35 (fun s4 s7 wc => s4 = .bool neg ∧ s7 = .int .i64 i0 ∧ w = wc ∧ i0 ≤ 1 ∧ i0 ≤ s.size)
  case first =>
    clear AL AE AH hx2 AJ
    have e1 := AI.out
    have e2 := AN.out
    clear AI AN
    generalize sb s 0 = b at *
    by_cases c1 : b = 43
    · have b2 : ((b : Int) == 43) = true := beq_iff_eq.2 (by omega)
      rw [if_pos (Or.inl c1)] at e1
      rw [decide_eq_false (by omega : ¬ b = 45)] at e2
      have C1 := Lib.hid c1
      subst e1 e2
      clear c1
      go_wp2
      go_meet
      exact ⟨rfl, rfl, rfl, by omega, by omega⟩
    · have b2 : ((b : Int) == 43) = false := beq_eq_false_iff_ne.2 (by omega)
      by_cases c2 : b = 45
      · have b3 : ((b : Int) == 45) = true := beq_iff_eq.2 (by omega)
        rw [if_pos (Or.inr c2)] at e1
        rw [decide_eq_true c2] at e2
        subst e1 e2
        clear c1 c2
        go_wp2
        go_meet
        exact ⟨rfl, rfl, rfl, by omega, by omega⟩
      · have b3 : ((b : Int) == 45) = false := beq_eq_false_iff_ne.2 (by omega)
        rw [if_neg (by omega)] at e1
        rw [decide_eq_false c2] at e2
        subst e1 e2
        clear c1 c2
        go_wp2
        go_meet
        exact ⟨rfl, rfl, rfl, by omega, by omega⟩
  case rest =>
    obtain ⟨rfl, rfl, rfl, hi0, his⟩ := hcut
    clear AI AN h0i hb hse h0
    go_upto_region 12 with fail
    go_cut [54] from 36 to 53 (fun s54 wc => s54 = .bool hex ∧ w = wc)
    case first =>
      clear hx2 AL AE AJ
      have q := AH.out
      clear AH
      by_cases c1 : i0 + 2 < s.size
      rotate_left
      · rw [decide_eq_false c1, Bool.false_and] at q
        subst q
        have b1 : ¬ ((i0 : Int) + 2 < (s.size : Int)) := by omega
        clear c1
        go_wp2
        go_meet
        exact ⟨rfl, rfl⟩
      rw [decide_eq_true c1, Bool.true_and] at q
      have b1 : (i0 : Int) + 2 < (s.size : Int) := by omega
      have b1' : (i0 : Int) + 1 < (s.size : Int) := by omega
      have b1'' : (i0 : Int) < (s.size : Int) := by omega
      have hb := sb_at (s := s) (i := i0) (by omega)
      have hb1 := sb_at (s := s) (i := i0 + 1) (by omega)
      generalize sb s i0 = b at *
      generalize sb s (i0 + 1) = b' at *
      by_cases c2 : b = 48
      rotate_left
      · rw [decide_eq_false c2, Bool.false_and] at q
        have b2 : ((b : Int) == 48) = false := beq_eq_false_iff_ne.2 (by omega)
        subst q
        clear c2
        go_wp2
        go_meet
        exact ⟨rfl, rfl⟩
      rw [decide_eq_true c2, Bool.true_and] at q
      have b2 : ((b : Int) == 48) = true := beq_iff_eq.2 (by omega)
      clear c2
      go_wp2_with (go_at_call 141; refine (lower_lw _ _).mono ?_; rintro e w' ⟨rfl, rfl⟩)
      go_meet
      subst q
      exact ⟨by congr 1, rfl⟩
    case rest =>
      obtain ⟨rfl, rfl⟩ := hcut
      clear AH
      go_upto_if 54 with fail
      go_cut [6, 7, 10, 11, 12] from 55 to 56 (fun s6 s7 s10 s11 s12 wc => s6 = .bool hex ∧ s7 = .int .i64 i1 ∧ s10 = .int .u64 (rfBase hex : Nat) ∧ s11 = .int .i64 (rfMax hex : Nat) ∧ s12 = .int .u8 (rfChar hex : Nat) ∧ w = wc ∧ i1 ≤ s.size)
      case first =>
        cases hex
        · have e := AJ.out
          rw [if_neg (by simp)] at e
          subst e
          go_wp2
          go_meet
          exact ⟨rfl, rfl, rfl, rfl, rfl, rfl, (by omega)⟩
        · have e := AJ.out
          rw [if_pos rfl] at e
          have := hx2 rfl
          go_wp2
          go_meet
          exact ⟨rfl, by rw [e]; go_num, rfl, rfl, rfl, rfl, by omega⟩
      case rest =>
        obtain ⟨rfl, rfl, rfl, rfl, rfl, rfl, hi1⟩ := hcut
        clear AJ hx2
        go_upto_block 1 with fail
        go_step3
        go_upto_block 1 with fail
        go_cut [2, 5, 7, 9, 13, 14, 15, 16, 17, 18] from 57 to 139 (fun s2 s5 s7 s9 s13 s14 s15 s16 s17 s18 wc => s2 = .int .u64 q.m ∧ s5 = .bool q.tr ∧ s7 = .int .i64 q.i ∧ s9 = .bool q.us ∧ s13 = .bool q.sd ∧ s14 = .bool q.sg ∧ s15 = .int .i64 q.nd ∧ s16 = .int .i64 q.nm ∧ s17 = .int .i64 q.dp ∧ w = wc ∧ q.i ≤ 1000 ∧ q.nd ≤ q.i ∧ q.nm ≤ q.i ∧ -(q.i : Int) ≤ q.dp ∧ q.dp ≤ q.i)
        case first =>
          clear AE
          go_wp2_with fail
          go_loopg [2, 5, 7, 9, 13, 14, 15, 16, 17] fF (fun f s2 s5 s7 s9 s13 s14 s15 s16 s17 wr => ∃ p : RfS, s2 = .int .u64 p.m ∧ s5 = .bool p.tr ∧ s7 = .int .i64 p.i ∧ s9 = .bool p.us ∧ s13 = .bool p.sd ∧ s14 = .bool p.sg ∧ s15 = .int .i64 p.nd ∧ s16 = .int .i64 p.nm ∧ s17 = .int .i64 p.dp ∧ w = wr ∧ p.i ≤ 1000 ∧ p.nd ≤ p.i ∧ p.nm ≤ p.i ∧ -(p.i : Int) ≤ p.dp ∧ p.dp ≤ p.i ∧ Aside (rfL s hex f p = some q))
          case atStart => exact ⟨⟨0, false, i1, false, false, false, 0, 0, 0⟩, rfl, rfl, rfl, rfl, rfl, rfl, rfl, rfl, rfl, rfl, by dsimp only; omega, by simp, by simp, by simp, by simp, AL.out⟩
          case round =>
            clear AL
            obtain ⟨⟨m, tr, i, us, sd, sg, nd, nm, dp⟩, rfl, rfl, rfl, rfl, rfl, rfl, rfl, rfl, rfl, rfl, hi, hnd, hnm, hdp1, hdp2, hA⟩ := hrel
            dsimp only at hi hnd hnm hdp1 hdp2
            have H := hA.out
            clear hA
            cases gk with
            | zero => cases H
            | succ f =>
            rw [rfL] at H
            dsimp only at H
            by_cases c1 : i < s.size
            rotate_left
            · rw [if_neg c1] at H
              have b1 : ¬ ((i : Int) < (s.size : Int)) := by omega
              obtain rfl := Option.some.inj H
              clear H
              go_wp2
              go_meet
              exact ⟨rfl, rfl, rfl, rfl, rfl, rfl, rfl, rfl, rfl, rfl, hi, hnd, hnm, hdp1, hdp2⟩
            rw [if_pos c1] at H
            have b1 : (i : Int) < (s.size : Int) := by omega
            have hb := sb_at c1
            have hb2 := sb_lt s i
            generalize sb s i = b at *
            by_cases c2 : b = 95
            · rw [if_pos c2] at H
              have b2 : ((b : Int) == 95) = true := beq_iff_eq.2 (by omega)
              have H' := Lib.hid H
              clear H c2
              go_wp2
              go_roundg f
              case measure => omega
              case rel => exact ⟨⟨m, tr, i + 1, true, sd, sg, nd, nm, dp⟩, rfl, rfl, by go_num, rfl, rfl, rfl, rfl, rfl, rfl, rfl, by dsimp only; omega, by dsimp only; omega, by dsimp only; omega, by dsimp only; omega, by dsimp only; omega, H'.out⟩
            rw [if_neg c2] at H
            have b2 : ((b : Int) == 95) = false := beq_eq_false_iff_ne.2 (by omega)
            by_cases c3 : b = 46
            · rw [if_pos c3] at H
              have b3 : ((b : Int) == 46) = true := beq_iff_eq.2 (by omega)
              cases sd
              · rw [if_neg (by simp)] at H
                have H' := Lib.hid H
                clear H c2 c3
                go_wp2
                go_roundg f
                case measure => omega
                case rel => exact ⟨⟨m, tr, i + 1, us, true, sg, nd, nm, nd⟩, rfl, rfl, by go_num, rfl, rfl, rfl, rfl, rfl, rfl, rfl, by dsimp only; omega, by dsimp only; omega, by dsimp only; omega, by dsimp only; omega, by dsimp only; omega, H'.out⟩
              · rw [if_pos rfl] at H
                obtain rfl := Option.some.inj H
                clear H c2 c3
                go_wp2
                go_meet
                exact ⟨rfl, rfl, rfl, rfl, rfl, rfl, rfl, rfl, rfl, rfl, hi, hnd, hnm, hdp1, hdp2⟩
            rw [if_neg c3] at H
            have b3 : ((b : Int) == 46) = false := beq_eq_false_iff_ne.2 (by omega)
            by_cases c4 : 48 ≤ b ∧ b ≤ 57
            · rw [if_pos c4] at H
              have b4 : decide ((48 : Int) ≤ (b : Int)) = true := decide_eq_true (by omega)
              have b5 : decide ((b : Int) ≤ 57) = true := decide_eq_true (by omega)
              have b4i : (48 : Int) ≤ (b : Int) := by omega
              have b5i : (b : Int) ≤ 57 := by omega
              by_cases c5 : b = 48 ∧ nd = 0
              · rw [if_pos c5] at H
                have b6 : ((b : Int) == 48) = true := beq_iff_eq.2 (by omega)
                have b7 : ((nd : Int) == 0) = true := beq_iff_eq.2 (by omega)
                have H' := Lib.hid H
                clear H c2 c3 c4 c5
                go_wp2
                go_roundg f
                case measure => omega
                case rel => exact ⟨⟨m, tr, i + 1, us, sd, true, nd, nm, dp - 1⟩, rfl, rfl, by go_num, rfl, rfl, rfl, rfl, rfl, by go_num, rfl, by dsimp only; omega, by dsimp only; omega, by dsimp only; omega, by dsimp only; omega, by dsimp only; omega, H'.out⟩
              rw [if_neg c5] at H
              have b6 : ((b : Int) == 48) = false ∨ ((b : Int) == 48) = true ∧ ((nd : Int) == 0) = false := by
                by_cases k : b = 48
                · exact Or.inr ⟨beq_iff_eq.2 (by omega), beq_eq_false_iff_ne.2 (by omega)⟩
                · exact Or.inl (beq_eq_false_iff_ne.2 (by omega))
              by_cases c6 : nm < rfMax hex
              · rw [if_pos c6] at H
                have b8 : (nm : Int) < ((rfMax hex : Nat) : Int) := by omega
                generalize rfMax hex = mx at *
                generalize rfBase hex = bs at *
                have H' := Lib.hid H
                clear H c2 c3 c4 c5 c6
                rcases b6 with b6 | ⟨b6, b7⟩
                all_goals
                  go_wp2
                  go_roundg f
                  case measure => omega
                  case rel => exact ⟨⟨_, tr, i + 1, us, sd, true, nd + 1, nm + 1, dp⟩, rfl, rfl, by go_num, rfl, rfl, rfl, by go_num, by go_num, rfl, rfl, by dsimp only; omega, by dsimp only; omega, by dsimp only; omega, by dsimp only; omega, by dsimp only; omega, H'.out⟩
              rw [if_neg c6] at H
              have b8 : ¬ ((nm : Int) < ((rfMax hex : Nat) : Int)) := by omega
              generalize rfMax hex = mx at *
              by_cases c7 : b = 48
              · rw [if_pos c7] at H
                have b6' : ((b : Int) == 48) = true := beq_iff_eq.2 (by omega)
                have b7 : ((nd : Int) == 0) = false := beq_eq_false_iff_ne.2 (by omega)
                have b9 : ((b : Int) != 48) = false := by rw [bne_eq_false_iff_eq]; omega
                have H' := Lib.hid H
                clear H c2 c3 c4 c5 c6 c7 b6
                go_wp2
                go_roundg f
                case measure => omega
                case rel => exact ⟨⟨m, tr, i + 1, us, sd, true, nd + 1, nm, dp⟩, rfl, rfl, by go_num, rfl, rfl, rfl, by go_num, rfl, rfl, rfl, by dsimp only; omega, by dsimp only; omega, by dsimp only; omega, by dsimp only; omega, by dsimp only; omega, H'.out⟩
              · rw [if_neg c7] at H
                have b6' : ((b : Int) == 48) = false := beq_eq_false_iff_ne.2 (by omega)
                have b9 : ((b : Int) != 48) = true := by rw [bne_iff_ne]; omega
                have H' := Lib.hid H
                clear H c2 c3 c4 c5 c6 c7 b6
                go_wp2
                go_roundg f
                case measure => omega
                case rel => exact ⟨⟨m, true, i + 1, us, sd, true, nd + 1, nm, dp⟩, rfl, rfl, by go_num, rfl, rfl, rfl, by go_num, rfl, rfl, rfl, by dsimp only; omega, by dsimp only; omega, by dsimp only; omega, by dsimp only; omega, by dsimp only; omega, H'.out⟩
            rw [if_neg c4] at H
            have ho : (decide ((48 : Int) ≤ (b : Int)) = true ∧ decide ((b : Int) ≤ 57) = false) ∨ decide ((48 : Int) ≤ (b : Int)) = false := by
              by_cases k : 48 ≤ b
              · exact Or.inl ⟨decide_eq_true (by omega), decide_eq_false (by omega)⟩
              · exact Or.inr (decide_eq_false (by omega))
            by_cases c5 : hex = true ∧ 97 ≤ lw b ∧ lw b ≤ 102
            · rw [if_pos c5] at H
              obtain ⟨rfl, k1, k2⟩ := c5
              have b5 : decide (97 ≤ lw b) = true := decide_eq_true k1
              have b6 : decide (lw b ≤ 102) = true := decide_eq_true k2
              have b7 : (((rfBase true : Nat) : Int) == 16) = true := rfl
              by_cases c6 : nm < rfMax true
              · rw [if_pos c6] at H
                have b8 : (nm : Int) < ((rfMax true : Nat) : Int) := by omega
                generalize rfMax true = mx at *
                generalize rfBase true = bs at *
                have H' := Lib.hid H
                clear H c2 c3 c4 c6
                rcases ho with ⟨o1, o2⟩ | o1
                all_goals
                  go_wp2_with (go_at_call 141; refine (lower_lw _ _).mono ?_; rintro e w' ⟨rfl, rfl⟩)
                  go_roundg f
                  case measure => omega
                  case rel => exact ⟨⟨_, tr, i + 1, us, sd, true, nd + 1, nm + 1, dp⟩, rfl, rfl, by go_num, rfl, rfl, rfl, by go_num, by go_num, rfl, rfl, by dsimp only; omega, by dsimp only; omega, by dsimp only; omega, by dsimp only; omega, by dsimp only; omega, H'.out⟩
              · rw [if_neg c6] at H
                have b8 : ¬ ((nm : Int) < ((rfMax true : Nat) : Int)) := by omega
                generalize rfMax true = mx at *
                generalize rfBase true = bs at *
                have H' := Lib.hid H
                clear H c2 c3 c4 c6
                rcases ho with ⟨o1, o2⟩ | o1
                all_goals
                  go_wp2_with (go_at_call 141; refine (lower_lw _ _).mono ?_; rintro e w' ⟨rfl, rfl⟩)
                  go_roundg f
                  case measure => omega
                  case rel => exact ⟨⟨m, true, i + 1, us, sd, true, nd + 1, nm, dp⟩, rfl, rfl, by go_num, rfl, rfl, rfl, by go_num, rfl, rfl, rfl, by dsimp only; omega, by dsimp only; omega, by dsimp only; omega, by dsimp only; omega, by dsimp only; omega, H'.out⟩
            rw [if_neg c5] at H
            obtain rfl := Option.some.inj H
            clear H c2 c3 c4
            have hh : (((rfBase hex : Nat) : Int) == 16) = false ∨ ((((rfBase hex : Nat) : Int) == 16) = true ∧ decide (97 ≤ lw b) = false) ∨ ((((rfBase hex : Nat) : Int) == 16) = true ∧ decide (97 ≤ lw b) = true ∧ decide (lw b ≤ 102) = false) := by
              cases hex
              · exact Or.inl rfl
              · by_cases k : 97 ≤ lw b
                · exact Or.inr (Or.inr ⟨rfl, decide_eq_true k, decide_eq_false (fun e => c5 ⟨rfl, k, e⟩)⟩)
                · exact Or.inr (Or.inl ⟨rfl, decide_eq_false k⟩)
            clear c5
            generalize rfBase hex = bs at *
            rcases ho with ⟨o1, o2⟩ | o1
            all_goals
              rcases hh with b5 | ⟨b5, b6⟩ | ⟨b5, b6, b7⟩
              all_goals
                go_wp2_with (go_at_call 141; refine (lower_lw _ _).mono ?_; rintro e w' ⟨rfl, rfl⟩)
                go_meet
                exact ⟨rfl, rfl, rfl, rfl, rfl, rfl, rfl, rfl, rfl, rfl, hi, hnd, hnm, hdp1, hdp2⟩
        case rest =>
          obtain ⟨rfl, rfl, rfl, rfl, rfl, rfl, rfl, rfl, rfl, rfl, hi, hnd, hnm, hdp1, hdp2⟩ := hcut
          have E := AE.out
          clear AE AL
          obtain ⟨m, tr, i, us, sd, sg, nd, nm, dp⟩ := q
          dsimp only at hi hnd hnm hdp1 hdp2
          rw [rfE] at E
          dsimp only at E
          by_cases g0 : i ≤ s.size
          rotate_left
          · rw [if_neg g0] at E; cases E
          rw [if_pos g0] at E
          cases sg
          · rw [if_pos rfl] at E
            obtain rfl := Option.some.inj E
            clear E
            go_wp2
            try rw [Exit.noGoto_ret]
            refine bodyPost_ret (results_tmp7 rfl _ _ _) rfl ?_
            exact ⟨rfl, rfl⟩
          rw [if_neg (by simp)] at E
          have hD : -8000 ≤ rfD hex ⟨m, tr, i, us, sd, true, nd, nm, dp⟩ ∧ rfD hex ⟨m, tr, i, us, sd, true, nd, nm, dp⟩ ≤ 8000 := by
            unfold rfD; dsimp only; cases hex <;> cases sd <;> simp <;> omega
          have hN : rfN hex ⟨m, tr, i, us, sd, true, nd, nm, dp⟩ ≤ 8000 := by
            unfold rfN; dsimp only; cases hex <;> simp <;> omega
          have AD : Hid (rfD hex ⟨m, tr, i, us, sd, true, nd, nm, dp⟩ = (if hex = true then (if sd = true then dp else (nd : Int)) * 4 else (if sd = true then dp else (nd : Int)))) := Lib.hid rfl
          have AM : Hid (rfN hex ⟨m, tr, i, us, sd, true, nd, nm, dp⟩ = if hex = true then nm * 4 else nm) := Lib.hid rfl
          generalize rfD hex ⟨m, tr, i, us, sd, true, nd, nm, dp⟩ = dp2 at *
          generalize rfN hex ⟨m, tr, i, us, sd, true, nd, nm, dp⟩ = nm2 at *
          have AE := Lib.hid E
          clear E
          go_upto_if 142 with fail
          go_cut [17] from 143 to 144 (fun s17 wc => s17 = .int .i64 (if sd = true then dp else (nd : Int)) ∧ w = wc)
          case first =>
            cases sd
            · go_wp2
              go_meet
              exact ⟨rfl, rfl⟩
            · go_wp2
              go_meet
              exact ⟨rfl, rfl⟩
          case rest =>
            obtain ⟨rfl, rfl⟩ := hcut
            have hd1 : -1000 ≤ (if sd = true then dp else (nd : Int)) ∧ (if sd = true then dp else (nd : Int)) ≤ 1000 := by cases sd <;> simp <;> omega
            generalize (if sd = true then dp else (nd : Int)) = dp1 at *
            go_upto_if 145 with fail
            go_cut [16, 17] from 146 to 149 (fun s16 s17 wc => s16 = .int .i64 nm2 ∧ s17 = .int .i64 dp2 ∧ w = wc)
            case first =>
              have e1 := AD.out
              have e2 := AM.out
              cases hex
              · rw [if_neg (by simp)] at e1 e2
                subst e1 e2
                have b7 : (((rfBase false : Nat) : Int) == 16) = false := rfl
                go_wp2
                go_meet
                exact ⟨rfl, rfl, rfl⟩
              · rw [if_pos rfl] at e1 e2
                subst e1 e2
                have b7 : (((rfBase true : Nat) : Int) == 16) = true := rfl
                go_wp2
                go_meet
                exact ⟨by go_num, by go_num, rfl⟩
            case rest =>
              obtain ⟨rfl, rfl, rfl⟩ := hcut
              clear AD AM hd1 hdp1 hdp2 hnd hnm
              have E := AE.out
              clear AE
              have hxx : decide (i < s.size ∧ lw (sb s i) = rfChar hex) = true → i < s.size := by
                intro e; exact (of_decide_eq_true e).1
              have AXX : Hid (decide (i < s.size ∧ lw (sb s i) = rfChar hex) = decide (i < s.size ∧ lw (sb s i) = rfChar hex)) := Lib.hid rfl
              have hEE : (if decide (i < s.size ∧ lw (sb s i) = rfChar hex) = true then (xpF s fF i us).bind fun a => if a.1 = true then rfZ s fF neg hex m tr a.2.1 a.2.2.2 (dp2 + a.2.2.1) nm2 else some ⟨m, 0, neg, tr, hex, a.2.1, false⟩ else if hex = true then some ⟨m, 0, neg, tr, hex, i, false⟩ else rfZ s fF neg hex m tr i us dp2 nm2) = some r := by
                rw [← E]; simp only [decide_eq_true_eq]
              clear E
              generalize hxe : decide (i < s.size ∧ lw (sb s i) = rfChar hex) = xx at hxx hEE AXX
              have AE := Lib.hid hEE
              clear hEE
              have AXE := Lib.hid hxe
              clear hxe AXX
              go_upto_region 57 with fail
              go_cut [161] from 150 to 160 (fun s161 wc => s161 = .bool xx ∧ w = wc)
              case first =>
                clear AE hxx
                have e := AXE.out
                by_cases c1 : i < s.size
                rotate_left
                · have b1 : ¬ ((i : Int) < (s.size : Int)) := by omega
                  rw [decide_eq_false (fun k => c1 k.1)] at e
                  subst e
                  clear c1
                  go_wp2
                  go_meet
                  exact ⟨rfl, rfl⟩
                have b1 : (i : Int) < (s.size : Int) := by omega
                have hb := sb_at c1
                generalize sb s i = b at *
                generalize rfChar hex = ch at *
                have e2 : (lw b == (ch : Int)) = xx := by
                  rw [← e]
                  by_cases k : lw b = (ch : Int)
                  · rw [decide_eq_true ⟨c1, k⟩]; exact beq_iff_eq.2 k
                  · rw [decide_eq_false (fun q => k q.2)]; exact beq_eq_false_iff_ne.2 k
                clear e
                go_wp2_with (go_at_call 141; refine (lower_lw _ _).mono ?_; rintro e w' ⟨rfl, rfl⟩)
                go_meet
                exact ⟨rfl, rfl⟩
              case rest =>
                obtain ⟨rfl, rfl⟩ := hcut
                clear AXE
                go_upto_if 161 with fail
                go_cut [7, 9, 17, 19, 20] from 162 to 240 (fun s7 s9 s17 s19 s20 wc => ∃ (i' : Nat) (us' : Bool) (dp' : Int), s7 = .int .i64 i' ∧ s9 = .bool us' ∧ s17 = .int .i64 dp' ∧ w = wc ∧ i' ≤ s.size ∧ -2000000 ≤ dp' ∧ dp' ≤ 2000000 ∧ Aside (rfZ s fF neg hex m tr i' us' dp' nm2 = some r))
                case first =>
                  have E := AE.out
                  clear AE
                  cases xx
                  · rw [if_neg (by simp)] at E
                    cases hex
                    · rw [if_neg (by simp)] at E
                      have b7 : (((rfBase false : Nat) : Int) == 16) = false := rfl
                      have AE := Lib.hid E
                      clear E
                      go_wp2
                      go_meet
                      exact ⟨i, us, dp2, rfl, rfl, rfl, rfl, g0, by omega, by omega, AE.out⟩
                    · rw [if_pos rfl] at E
                      have b7 : (((rfBase true : Nat) : Int) == 16) = true := rfl
                      obtain rfl := Option.some.inj E
                      clear E
                      go_wp2
                      try rw [Exit.noGoto_ret]
                      refine bodyPost_ret (results_tmp7 rfl _ _ _) rfl ?_
                      exact ⟨rfl, rfl⟩
                  · rw [if_pos rfl] at E
                    have c1 := hxx rfl
                    clear hxx
                    obtain ⟨a, hX, hR⟩ := Option.bind_eq_some_iff.1 E
                    clear E
                    rw [xpF] at hX
                    by_cases c3 : i + 1 < s.size
                    rotate_left
                    · rw [if_neg c3] at hX
                      obtain rfl := Option.some.inj hX
                      rw [if_neg (by simp)] at hR
                      obtain rfl := Option.some.inj hR
                      clear hX hR
                      have b3 : ¬ ((i : Int) + 1 < (s.size : Int)) := by omega
                      go_wp2
                      try rw [Exit.noGoto_ret]
                      refine bodyPost_ret (results_tmp7 rfl _ _ _) rfl ?_
                      exact ⟨rfl, rfl⟩
                    rw [if_pos c3] at hX
                    have b3 : (i : Int) + 1 < (s.size : Int) := by omega
                    have AR := Lib.hid hR
                    have AX := Lib.hid hX
                    clear hR hX
                    go_upto_block 4 with fail
                    have hb1 := sb_at c3
                    have e2 : expAt s i = if sb s (i + 1) = 43 ∨ sb s (i + 1) = 45 then i + 2 else i + 1 := rfl
                    have e3 : expSg s i = if sb s (i + 1) = 45 then -1 else 1 := rfl
                    generalize sb s (i + 1) = b' at *
                    generalize expAt s i = j at *
                    generalize expSg s i = sgn at *
                    have A2 := Lib.hid e2
                    have A3 := Lib.hid e3
                    clear e2 e3
                    go_cut [7, 19] from 171 to 178 (fun s7 s19 wc => s7 = .int .i64 j ∧ s19 = .int .i64 sgn ∧ w = wc ∧ j ≤ 1002 ∧ (sgn = 1 ∨ sgn = -1))
                    case first =>
                      clear AR AX
                      by_cases d1 : b' = 43
                      · have t1 : ((b' : Int) == 43) = true := beq_iff_eq.2 (by omega)
                        have D1 := Lib.hid d1
                        clear d1
                        go_wp2
                        go_meet
                        have q2 := A2.out
                        have q3 := A3.out
                        have d1 := D1.out
                        rw [if_pos (Or.inl d1)] at q2
                        rw [if_neg (by omega)] at q3
                        exact ⟨by go_num, by rw [q3], rfl, by omega, by omega⟩
                      · have t1 : ((b' : Int) == 43) = false := beq_eq_false_iff_ne.2 (by omega)
                        by_cases d2 : b' = 45
                        · have t2 : ((b' : Int) == 45) = true := beq_iff_eq.2 (by omega)
                          have D2 := Lib.hid d2
                          clear d1 d2
                          go_wp2
                          go_meet
                          have q2 := A2.out
                          have q3 := A3.out
                          have d2 := D2.out
                          rw [if_pos (Or.inr d2)] at q2
                          rw [if_pos d2] at q3
                          exact ⟨by go_num, by rw [q3], rfl, by omega, by omega⟩
                        · have t2 : ((b' : Int) == 45) = false := beq_eq_false_iff_ne.2 (by omega)
                          have D1 := Lib.hid d1
                          have D2 := Lib.hid d2
                          clear d1 d2
                          go_wp2
                          go_meet
                          have q2 := A2.out
                          have q3 := A3.out
                          have d1 := D1.out
                          have d2 := D2.out
                          rw [if_neg (by omega)] at q2
                          rw [if_neg (by omega)] at q3
                          exact ⟨by go_num, by rw [q3], rfl, by omega, by omega⟩
                    case rest =>
                      obtain ⟨rfl, rfl, rfl, hj, hsg⟩ := hcut
                      clear A2 A3 hb1 c3
                      have hX := AX.out
                      clear AX
                      by_cases c4 : j < s.size
                      rotate_left
                      · rw [if_neg c4] at hX
                        obtain rfl := Option.some.inj hX
                        have hR := AR.out
                        rw [if_neg (by simp)] at hR
                        obtain rfl := Option.some.inj hR
                        clear hX hR AR
                        have b3 : decide ((s.size : Int) ≤ (j : Int)) = true := decide_eq_true (by omega)
                        go_wp2
                        try rw [Exit.noGoto_ret]
                        refine bodyPost_ret (results_tmp7 rfl _ _ _) rfl ?_
                        exact ⟨rfl, rfl⟩
                      rw [if_pos c4] at hX
                      have b3 : decide ((s.size : Int) ≤ (j : Int)) = false := decide_eq_false (by omega)
                      have c4i : (j : Int) < (s.size : Int) := by omega
                      have hb := sb_at c4
                      generalize sb s j = bj at *
                      by_cases c5 : 48 ≤ bj
                      rotate_left
                      · rw [if_neg c5] at hX
                        obtain rfl := Option.some.inj hX
                        have hR := AR.out
                        rw [if_neg (by simp)] at hR
                        obtain rfl := Option.some.inj hR
                        clear hX hR AR
                        have b4 : decide ((bj : Int) < 48) = true := decide_eq_true (by omega)
                        go_wp2
                        try rw [Exit.noGoto_ret]
                        refine bodyPost_ret (results_tmp7 rfl _ _ _) rfl ?_
                        exact ⟨rfl, rfl⟩
                      rw [if_pos c5] at hX
                      have b4 : decide ((bj : Int) < 48) = false := decide_eq_false (by omega)
                      by_cases c6 : bj ≤ 57
                      rotate_left
                      · rw [if_neg c6] at hX
                        obtain rfl := Option.some.inj hX
                        have hR := AR.out
                        rw [if_neg (by simp)] at hR
                        obtain rfl := Option.some.inj hR
                        clear hX hR AR
                        have b5 : decide (57 < (bj : Int)) = true := decide_eq_true (by omega)
                        go_wp2
                        try rw [Exit.noGoto_ret]
                        refine bodyPost_ret (results_tmp7 rfl _ _ _) rfl ?_
                        exact ⟨rfl, rfl⟩
                      rw [if_pos c6] at hX
                      have b5 : decide (57 < (bj : Int)) = false := decide_eq_false (by omega)
                      obtain ⟨⟨k, e, us1⟩, hX2, hR2⟩ := Option.bind_eq_some_iff.1 hX
                      dsimp only at hR2
                      have AX := Lib.hid hX2
                      have AR2 := Lib.hid hR2
                      clear hX hX2 hR2
                      go_upto_block 5 with fail
                      go_cut [7, 9, 20] from 195 to 233 (fun s7 s9 s20 wc => s7 = .int .i64 k ∧ s9 = .bool us1 ∧ s20 = .int .i64 e ∧ w = wc)
                      case first =>
                        clear b3 b4 b5 c4i hb c4 c5 c6 AR AR2
                        go_wp2_with fail
                        go_loopg [7, 9, 20] fF (fun f s7 s9 s20 wr => ∃ (i e0 : Nat) (u : Bool), s7 = .int .i64 i ∧ s9 = .bool u ∧ s20 = .int .i64 e0 ∧ w = wr ∧ i ≤ 1002 ∧ Aside (expL s f i e0 u = some (k, e, us1)))
                        case atStart => exact ⟨j, 0, us, rfl, rfl, rfl, rfl, by omega, AX.out⟩
                        case round =>
                          clear AX
                          obtain ⟨i, e0, u, rfl, rfl, rfl, rfl, hi, hA⟩ := hrel
                          have H := hA.out
                          clear hA
                          cases gk with
                          | zero => cases H
                          | succ f =>
                          rw [expL] at H
                          by_cases c1 : i < s.size
                          rotate_left
                          · rw [if_neg c1] at H
                            obtain ⟨rfl, E2⟩ := Prod.mk.inj (Option.some.inj H)
                            obtain ⟨rfl, rfl⟩ := Prod.mk.inj E2
                            clear H E2
                            have d1 : decide ((i : Int) < (s.size : Int)) = false := decide_eq_false (by omega)
                            go_wp2
                            go_meet
                            exact ⟨rfl, rfl, rfl, rfl⟩
                          rw [if_pos c1] at H
                          have d1 : decide ((i : Int) < (s.size : Int)) = true := decide_eq_true (by omega)
                          have c1i : (i : Int) < (s.size : Int) := by omega
                          have hb := sb_at c1
                          have hb2 := sb_lt s i
                          generalize sb s i = b at *
                          by_cases c2 : b = 95
                          · rw [if_pos c2] at H
                            have d2 : ((b : Int) == 95) = true := beq_iff_eq.2 (by omega)
                            have d3 : decide ((48 : Int) ≤ (b : Int)) = true := decide_eq_true (by omega)
                            have d4 : decide ((b : Int) ≤ 57) = false := decide_eq_false (by omega)
                            have H' := Lib.hid H
                            clear H c2
                            go_wp2
                            go_roundg f
                            case measure => omega
                            case rel => exact ⟨i + 1, _, _, by go_num, rfl, rfl, rfl, by omega, H'.out⟩
                          rw [if_neg c2] at H
                          have d2 : ((b : Int) == 95) = false := beq_eq_false_iff_ne.2 (by omega)
                          by_cases c4 : 48 ≤ b
                          rotate_left
                          · rw [if_neg c4] at H
                            have d3 : decide ((48 : Int) ≤ (b : Int)) = false := decide_eq_false (by omega)
                            obtain ⟨rfl, E2⟩ := Prod.mk.inj (Option.some.inj H)
                            obtain ⟨rfl, rfl⟩ := Prod.mk.inj E2
                            clear H E2
                            go_wp2
                            go_meet
                            exact ⟨rfl, rfl, rfl, rfl⟩
                          rw [if_pos c4] at H
                          have d3 : decide ((48 : Int) ≤ (b : Int)) = true := decide_eq_true (by omega)
                          by_cases c5 : b ≤ 57
                          rotate_left
                          · rw [if_neg c5] at H
                            have d4 : decide ((b : Int) ≤ 57) = false := decide_eq_false (by omega)
                            obtain ⟨rfl, E2⟩ := Prod.mk.inj (Option.some.inj H)
                            obtain ⟨rfl, rfl⟩ := Prod.mk.inj E2
                            clear H E2
                            go_wp2
                            go_meet
                            exact ⟨rfl, rfl, rfl, rfl⟩
                          rw [if_pos c5] at H
                          have d4 : decide ((b : Int) ≤ 57) = true := decide_eq_true (by omega)
                          by_cases c6 : e0 < 10000
                          · rw [if_pos c6] at H
                            have c6i : (e0 : Int) < 10000 := by omega
                            have H' := Lib.hid H
                            clear H c6
                            go_wp2
                            go_roundg f
                            case measure => omega
                            case rel => exact ⟨i + 1, e0 * 10 + b - 48, _, by go_num, rfl, by congr 1; omega, rfl, by omega, H'.out⟩
                          · rw [if_neg c6] at H
                            by_cases c7 : e0 ≤ 1000000
                            rotate_left
                            · rw [if_neg c7] at H; cases H
                            rw [if_pos c7] at H
                            have d5 : decide ((e0 : Int) < 10000) = false := decide_eq_false (by omega)
                            have H' := Lib.hid H
                            clear H c6
                            go_wp2
                            go_roundg f
                            case measure => omega
                            case rel => exact ⟨i + 1, _, _, by go_num, rfl, rfl, rfl, by omega, H'.out⟩
                      case rest =>
                        obtain ⟨rfl, rfl, rfl, rfl⟩ := hcut
                        have R := AR2.out
                        clear AR2 AX
                        by_cases r1 : k ≤ s.size
                        rotate_left
                        · rw [if_neg r1] at R; cases R
                        rw [if_pos r1] at R
                        by_cases r2 : e ≤ 1000000
                        rotate_left
                        · rw [if_neg r2] at R; cases R
                        rw [if_pos r2] at R
                        obtain rfl := Option.some.inj R
                        clear R
                        have hR := AR.out
                        rw [if_pos rfl] at hR
                        have hm : -1000000 ≤ (e : Int) * sgn ∧ (e : Int) * sgn ≤ 1000000 := by
                          rcases hsg with h | h <;> rw [h] <;> omega
                        dsimp only at hR
                        have AR := Lib.hid hR
                        clear hR
                        generalize hz : (e : Int) * sgn = z at *
                        go_wp2
                        go_meet
                        exact ⟨k, us1, dp2 + z, rfl, rfl, rfl, rfl, r1, by omega, by omega, AR.out⟩
                case rest =>
                  obtain ⟨i', us', dp', rfl, rfl, rfl, rfl, hi', hdp1, hdp2, hA⟩ := hcut
                  clear AE hD
                  have E := hA.out
                  clear hA hxx
                  rw [rfZ] at E
                  have hex : -2100000 ≤ (if m = 0 then (0 : Int) else dp' - nm2) ∧ (if m = 0 then (0 : Int) else dp' - nm2) ≤ 2100000 := by split <;> omega
                  have AE := Lib.hid E
                  clear E
                  have hmz : (m != 0) = !decide (m = 0) := by
                    by_cases k : m = 0
                    · rw [decide_eq_true k]; rw [k]; rfl
                    · rw [decide_eq_false k]; rw [bne_iff_ne.2 k]; rfl
                  have hdp : -2100000 ≤ dp' - (nm2 : Int) ∧ dp' - (nm2 : Int) ≤ 2100000 := by omega
                  generalize hx9 : (if m = 0 then (0 : Int) else dp' - nm2) = ex at *
                  have AV := Lib.hid hx9
                  clear hx9
                  generalize hmd : decide (m = 0) = mz at *
                  have AM := Lib.hid hmd
                  clear hmd
                  go_upto_if 241 with fail
                  go_cut [3] from 242 to 244 (fun s3 wc => s3 = .int .i64 ex ∧ w = wc)
                  case first =>
                    cases mz
                    · go_wp2
                      go_meet
                      have := AV.out
                      rw [if_neg (of_decide_eq_false AM.out)] at this
                      rw [← this]
                      exact ⟨by first | rfl | go_num, rfl⟩
                    · go_wp2
                      go_meet
                      have := AV.out
                      rw [if_pos (of_decide_eq_true AM.out)] at this
                      rw [← this]
                      exact ⟨rfl, rfl⟩
                  case rest =>
                    obtain ⟨rfl, rfl⟩ := hcut
                    have E := AE.out
                    clear AE AM AV
                    cases us'
                    · rw [if_neg (by simp)] at E
                      obtain rfl := Option.some.inj E
                      clear E
                      go_wp2
                      try rw [Exit.noGoto_ret]
                      refine bodyPost_ret (results_tmp7 rfl _ _ _) rfl ?_
                      exact ⟨rfl, rfl⟩
                    · rw [if_pos rfl] at E
                      obtain ⟨b, hU, hR⟩ := Option.bind_eq_some_iff.1 E
                      obtain rfl := Option.some.inj hR
                      have hz : (s.extract 0 i').size ≤ 1000 := by simp only [ByteArray.size_extract]; omega
                      have UO := fun w => uo_calls fF (s.extract 0 i') b w hz hU
                      clear E hR hU hz
                      have hii : (i' : Int) ≤ (s.size : Int) := by omega
                      cases b
                      · go_wp2_with (go_at_call 142; refine (UO _).mono ?_; rintro e w' ⟨rfl, rfl⟩)
                        try rw [Exit.noGoto_ret]
                        refine bodyPost_ret (results_tmp7 rfl _ _ _) rfl ?_
                        exact ⟨rfl, rfl⟩
                      · go_wp2_with (go_at_call 142; refine (UO _).mono ?_; rintro e w' ⟨rfl, rfl⟩)
                        try rw [Exit.noGoto_ret]
                        refine bodyPost_ret (results_tmp7 rfl _ _ _) rfl ?_
                        exact ⟨rfl, rfl⟩
/-- readFloat. -/
theorem rf_calls (fF : Nat) (s : ByteArray) (r : RfR) (w : World) (hs : s.size ≤ 1000) (h : rfF fF s = some r) :
    Calls Tryz.prog 184 #[.string s] w fun e w' => e = .returned (.tuple #[.int .u64 r.m, .int .i64 r.exp, .bool r.neg, .bool r.tr, .bool r.hex, .int .i64 r.i, .bool r.ok]) ∧ w = w' := by
  unfold rfF at h
  by_cases c : s.size = 0
  · rw [if_pos c] at h
    obtain rfl := Option.some.inj h
    exact rf_empty s w c
  · rw [if_neg c] at h
    obtain ⟨q, hq, hE⟩ := Option.bind_eq_some_iff.1 h
    exact rf_main fF s _ _ _ _ q r w hs (by omega) rfl rfl rfl rfl hq hE
end Go.Proofs.YtnggkkdcddpjlaaGreatDoor
