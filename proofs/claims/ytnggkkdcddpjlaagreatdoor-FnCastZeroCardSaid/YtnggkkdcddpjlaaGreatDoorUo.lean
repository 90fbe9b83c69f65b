/- underscoreOK, commonPrefixLenIgnoreCase: what they answer. -/
import Derived.Test.YtnggkkdcddpjlaaGreatDoorRnd
import Derived.Test.YtnggkkdcddpjlaaGreatDoorShelf
namespace Go.Proofs.YtnggkkdcddpjlaaGreatDoor
set_option linter.unusedVariables false
set_option linter.unusedSimpArgs false
open Go.RowKit
/-- A byte made lower case. -/
def lw (b : Nat) : Int := bits .or .u8 (b : Int) 32
/-- The loop of underscoreOK. -/
def uoL (s : ByteArray) (hex : Bool) : Nat → Nat → Nat → Option Bool
  | 0, _, _ => none
  | f + 1, i, saw =>
    if i < s.size then
      (if 48 ≤ sb s i ∧ sb s i ≤ 57 then uoL s hex f (i + 1) 48
       else if hex = true ∧ 97 ≤ lw (sb s i) ∧ lw (sb s i) ≤ 102 then uoL s hex f (i + 1) 48
       else if sb s i = 95 then (if saw = 48 then uoL s hex f (i + 1) 95 else some false)
       else if saw = 95 then some false else uoL s hex f (i + 1) 33)
    else some (decide (saw ≠ 95))
theorem lower_lw (b : Nat) (w : World) : Calls Tryz.prog 141 #[.int .u8 (b : Int)] w fun e w' => e = .returned (.int .u8 (lw b)) ∧ w' = w := Tryz.internal_strconv_lower _ w
/-- A sign ahead. -/
def uoG (s : ByteArray) : Bool := decide (1 ≤ s.size) && (decide (sb s 0 = 45) || decide (sb s 0 = 43))
/-- The text without a sign. -/
def uoS (s : ByteArray) : ByteArray := if uoG s = true then s.extract 1 s.size else s
/-- A base prefix. -/
def uoB (s : ByteArray) : Bool := decide (2 ≤ s.size) && (decide (sb s 0 = 48) && (decide (lw (sb s 1) = 98) || (decide (lw (sb s 1) = 111) || decide (lw (sb s 1) = 120))))
def uoX (s : ByteArray) : Bool := uoB s && decide (lw (sb s 1) = 120)
def uoF (f : Nat) (s : ByteArray) : Option Bool :=
  uoL (uoS s) (uoX (uoS s)) f (if uoB (uoS s) = true then 2 else 0) (if uoB (uoS s) = true then 48 else 94)
set_option maxHeartbeats 4000000 in
set_option maxRecDepth 100000 in
theorem uo_calls (fF : Nat) (s : ByteArray) (r : Bool) (w : World) (hs : s.size ≤ 1000) (h : uoF fF s = some r) :
    Calls Tryz.prog 142 #[.string s] w fun e w' => e = .returned (.bool r) ∧ w = w' := by
  unfold uoF at h
  have ht : (uoS s).size ≤ 1000 := by
    unfold uoS; split
    · simp only [ByteArray.size_extract]; omega
    · exact hs
  have hg : uoG s = true → (0 : Int) < (s.size : Int) := by
    intro e; unfold uoG at e; simp at e; omega
  have AT : Hid (uoS s = if uoG s = true then s.extract 1 s.size else s) := Lib.hid rfl
  have AG : Hid (uoG s = (decide (1 ≤ s.size) && (decide (sb s 0 = 45) || decide (sb s 0 = 43)))) := Lib.hid rfl
  generalize uoG s = sg at *
  generalize uoS s = t at *
  have hp : uoB t = true → (1 : Int) < (t.size : Int) := by
    intro e; unfold uoB at e; simp at e; omega
  have AB : Hid (uoB t = (decide (2 ≤ t.size) && (decide (sb t 0 = 48) && (decide (lw (sb t 1) = 98) || (decide (lw (sb t 1) = 111) || decide (lw (sb t 1) = 120)))))) := Lib.hid rfl
  have AX : Hid (uoX t = (uoB t && decide (lw (sb t 1) = 120))) := Lib.hid rfl
  generalize uoX t = hex at *
  generalize uoB t = bp at *
  have AH := Lib.hid h
  clear h
  go_enter Tryz.func142, Tryz.ntmps142
  go_upto_region 3 with fail
  go_cut [18] from 6 to 17 (fun s18 wc => s18 = .bool sg ∧ w = wc)
  case first =>
    clear hg hp ht
    rcases Nat.eq_zero_or_pos s.size with c1 | c1
    · have b1 : decide ((1 : Int) ≤ (s.size : Int)) = false := decide_eq_false (by omega)
      have q := AG.out
      rw [decide_eq_false (by omega : ¬ 1 ≤ s.size), Bool.false_and] at q
      subst q
      have C1 := Lib.hid c1
      clear c1
      go_wp2
      go_meet
      exact ⟨rfl, rfl⟩
    have b1 : decide ((1 : Int) ≤ (s.size : Int)) = true := decide_eq_true (by omega)
    have hb := sb_at c1
    have c1i : (0 : Int) < (s.size : Int) := by omega
    have c1j : (1 : Int) ≤ (s.size : Int) := by omega
    have q := AG.out
    rw [decide_eq_true (by omega : 1 ≤ s.size), Bool.true_and] at q
    generalize sb s 0 = b at *
    by_cases c2 : b = 45
    · have b2 : ((b : Int) == 45) = true := beq_iff_eq.2 (by omega)
      rw [decide_eq_true c2, Bool.true_or] at q
      subst q
      clear c2
      go_wp2
      go_meet
      exact ⟨rfl, rfl⟩
    have b2 : ((b : Int) == 45) = false := beq_eq_false_iff_ne.2 (by omega)
    rw [decide_eq_false c2, Bool.false_or] at q
    by_cases c3 : b = 43
    · have b3 : ((b : Int) == 43) = true := beq_iff_eq.2 (by omega)
      rw [decide_eq_true c3] at q
      subst q
      clear c3 c2
      go_wp2
      go_meet
      exact ⟨rfl, rfl⟩
    · have b3 : ((b : Int) == 43) = false := beq_eq_false_iff_ne.2 (by omega)
      rw [decide_eq_false c3] at q
      subst q
      clear c2 c3
      go_wp2
      go_meet
      exact ⟨rfl, rfl⟩
  case rest =>
    obtain ⟨rfl, rfl⟩ := hcut
    clear AG
    go_upto_if 18 with fail
    go_cut [0] from 19 to 20 (fun s0 wc => s0 = .string t ∧ w = wc)
    case first =>
      cases sg
      · have q := AT.out
        rw [if_neg (by simp)] at q
        subst q
        go_wp2
        go_meet
        exact ⟨rfl, rfl⟩
      · have q := AT.out
        rw [if_pos rfl] at q
        subst q
        have hg := hg rfl
        go_wp2
        go_meet
        exact ⟨rfl, rfl⟩
    case rest =>
      obtain ⟨rfl, rfl⟩ := hcut
      clear AT hs hg
      go_upto_region 6 with fail
      go_cut [46] from 21 to 45 (fun s46 wc => s46 = .bool bp ∧ w = wc)
      case first =>
        clear hp
        have q := AB.out
        by_cases c1 : 2 ≤ t.size
        rotate_left
        · rw [decide_eq_false c1, Bool.false_and] at q
          have b1 : decide ((2 : Int) ≤ (t.size : Int)) = false := decide_eq_false (by omega)
          subst q
          have C1 := Lib.hid c1
          clear c1
          go_wp2
          go_meet
          exact ⟨rfl, rfl⟩
        rw [decide_eq_true c1, Bool.true_and] at q
        have b1 : decide ((2 : Int) ≤ (t.size : Int)) = true := decide_eq_true (by omega)
        have c1i : (0 : Int) < (t.size : Int) := by omega
        have c1j : (1 : Int) < (t.size : Int) := by omega
        have c1k : (2 : Int) ≤ (t.size : Int) := by omega
        have hb := sb_at (s := t) (i := 0) (by omega)
        have hb1 := sb_at (s := t) (i := 1) (by omega)
        generalize sb t 0 = b at *
        generalize sb t 1 = b' at *
        by_cases c2 : b = 48
        rotate_left
        · rw [decide_eq_false c2, Bool.false_and] at q
          have b2 : ((b : Int) == 48) = false := beq_eq_false_iff_ne.2 (by omega)
          subst q
          clear c2
          go_wp2
          go_meet
          exact ⟨rfl, rfl⟩
        rw [decide_eq_true c2, Bool.true_and] at q
        have b2 : ((b : Int) == 48) = true := beq_iff_eq.2 (by omega)
        by_cases c3 : lw b' = 98
        · rw [decide_eq_true c3, Bool.true_or] at q
          have b3 : (lw b' == 98) = true := beq_iff_eq.2 c3
          subst q
          clear c2 c3
          go_wp2_with (go_at_call 141; refine (lower_lw _ _).mono ?_; rintro e w' ⟨rfl, rfl⟩)
          go_meet
          exact ⟨rfl, rfl⟩
        rw [decide_eq_false c3, Bool.false_or] at q
        have b3 : (lw b' == 98) = false := beq_eq_false_iff_ne.2 c3
        by_cases c4 : lw b' = 111
        · rw [decide_eq_true c4, Bool.true_or] at q
          have b4 : (lw b' == 111) = true := beq_iff_eq.2 c4
          subst q
          clear c2 c3 c4
          go_wp2_with (go_at_call 141; refine (lower_lw _ _).mono ?_; rintro e w' ⟨rfl, rfl⟩)
          go_meet
          exact ⟨rfl, rfl⟩
        rw [decide_eq_false c4, Bool.false_or] at q
        have b4 : (lw b' == 111) = false := beq_eq_false_iff_ne.2 c4
        by_cases c5 : lw b' = 120
        · rw [decide_eq_true c5] at q
          have b5 : (lw b' == 120) = true := beq_iff_eq.2 c5
          subst q
          clear c2 c3 c4 c5
          go_wp2_with (go_at_call 141; refine (lower_lw _ _).mono ?_; rintro e w' ⟨rfl, rfl⟩)
          go_meet
          exact ⟨rfl, rfl⟩
        · rw [decide_eq_false c5] at q
          have b5 : (lw b' == 120) = false := beq_eq_false_iff_ne.2 c5
          subst q
          clear c2 c3 c4 c5
          go_wp2_with (go_at_call 141; refine (lower_lw _ _).mono ?_; rintro e w' ⟨rfl, rfl⟩)
          go_meet
          exact ⟨rfl, rfl⟩
      case rest =>
        obtain ⟨rfl, rfl⟩ := hcut
        clear AB
        go_upto_if 46 with fail
        go_cut [3, 4, 5] from 47 to 51 (fun s3 s4 s5 wc => s3 = .int .i32 ((if bp = true then 48 else 94 : Nat) : Int) ∧ s4 = .int .i64 ((if bp = true then 2 else 0 : Nat) : Int) ∧ s5 = .bool hex ∧ w = wc)
        case first =>
          cases bp
          · have q := AX.out
            rw [Bool.false_and] at q
            subst q
            go_wp2
            go_meet
            exact ⟨rfl, rfl, rfl, rfl⟩
          · have q := AX.out
            rw [Bool.true_and] at q
            have hp := hp rfl
            have hb1 := sb_at (s := t) (i := 1) (by omega)
            generalize sb t 1 = b' at *
            go_wp2_with (go_at_call 141; refine (lower_lw _ _).mono ?_; rintro e w' ⟨rfl, rfl⟩)
            go_meet
            subst q
            exact ⟨rfl, rfl, by congr 1, rfl⟩
        case rest =>
          obtain ⟨rfl, rfl, rfl, rfl⟩ := hcut
          clear AX hp
          have hi0 : (if bp = true then 2 else 0 : Nat) ≤ 1000 := by split <;> omega
          have hw0 : (if bp = true then 48 else 94 : Nat) ≤ 1000 := by split <;> omega
          generalize (if bp = true then 2 else 0 : Nat) = i0 at *
          generalize (if bp = true then 48 else 94 : Nat) = saw0 at *
          go_wp2
          go_loopg [3, 4] fF (fun f s3 s4 wr => ∃ (saw i : Nat), s3 = .int .i32 saw ∧ s4 = .int .i64 i ∧ w = wr ∧ i ≤ 1000 ∧ saw ≤ 1000 ∧ Aside (uoL t hex f i saw = some r))
          case atStart => exact ⟨saw0, i0, rfl, rfl, rfl, hi0, hw0, AH.out⟩
          case round =>
            clear AH
            obtain ⟨saw, i, rfl, rfl, rfl, hi, hsw, hA⟩ := hrel
            have H := hA.out
            clear hA
            cases gk with
            | zero => cases H
            | succ f =>
            rw [uoL] at H
            by_cases c1 : i < t.size
            rotate_left
            · rw [if_neg c1] at H
              have b1 : ¬ ((i : Int) < (t.size : Int)) := by omega
              have H' := Lib.hid (Option.some.inj H)
              clear H
              go_wp2
              go_ret
              refine ⟨?_, rfl⟩
              rw [← H'.out]
              exact ret_bool (by rw [Bool.eq_iff_iff, bne_iff_ne, decide_eq_true_eq]; omega)
            rw [if_pos c1] at H
            have b1 : (i : Int) < (t.size : Int) := by omega
            have hb := sb_at c1
            generalize sb t i = b at *
            by_cases c2 : 48 ≤ b ∧ b ≤ 57
            · rw [if_pos c2] at H
              have b2 : decide ((48 : Int) ≤ (b : Int)) = true := decide_eq_true (by omega)
              have b3 : decide ((b : Int) ≤ 57) = true := decide_eq_true (by omega)
              have H' := Lib.hid H
              clear H c2
              go_wp2
              go_roundg f
              case measure => omega
              case rel => exact ⟨48, i + 1, rfl, by go_num, rfl, by omega, by omega, H'.out⟩
            rw [if_neg c2] at H
            by_cases c3 : hex = true ∧ 97 ≤ lw b ∧ lw b ≤ 102
            · rw [if_pos c3] at H
              obtain ⟨rfl, k1, k2⟩ := c3
              have b5 : decide (97 ≤ lw b) = true := decide_eq_true k1
              have b6 : decide (lw b ≤ 102) = true := decide_eq_true k2
              have H' := Lib.hid H
              clear H
              have ho : (decide ((48 : Int) ≤ (b : Int)) = true ∧ decide ((b : Int) ≤ 57) = false) ∨ decide ((48 : Int) ≤ (b : Int)) = false := by
                by_cases k : 48 ≤ b
                · exact Or.inl ⟨decide_eq_true (by omega), decide_eq_false (by omega)⟩
                · exact Or.inr (decide_eq_false (by omega))
              clear c2
              rcases ho with ⟨b2, b3⟩ | b2
              all_goals
                go_wp2_with (go_at_call 141; refine (lower_lw _ _).mono ?_; rintro e w' ⟨rfl, rfl⟩)
                go_roundg f
                case measure => omega
                case rel => exact ⟨48, i + 1, rfl, by go_num, rfl, by omega, by omega, H'.out⟩
            rw [if_neg c3] at H
            have ho : (decide ((48 : Int) ≤ (b : Int)) = true ∧ decide ((b : Int) ≤ 57) = false) ∨ decide ((48 : Int) ≤ (b : Int)) = false := by
              by_cases k : 48 ≤ b
              · exact Or.inl ⟨decide_eq_true (by omega), decide_eq_false (by omega)⟩
              · exact Or.inr (decide_eq_false (by omega))
            have hh : hex = false ∨ (hex = true ∧ decide (97 ≤ lw b) = false) ∨ (hex = true ∧ decide (97 ≤ lw b) = true ∧ decide (lw b ≤ 102) = false) := by
              cases hex
              · exact Or.inl rfl
              · by_cases k : 97 ≤ lw b
                · exact Or.inr (Or.inr ⟨rfl, decide_eq_true k, decide_eq_false (fun e => c3 ⟨rfl, k, e⟩)⟩)
                · exact Or.inr (Or.inl ⟨rfl, decide_eq_false k⟩)
            have hk : (b = 95 ∧ saw = 48 ∧ ((b : Int) == 95) = true ∧ ((saw : Int) != 48) = false ∧ Aside (uoL t hex f (i + 1) 95 = some r)) ∨ (b = 95 ∧ ((b : Int) == 95) = true ∧ ((saw : Int) != 48) = true ∧ r = false) ∨ (((b : Int) == 95) = false ∧ ((saw : Int) == 95) = true ∧ r = false) ∨ (((b : Int) == 95) = false ∧ ((saw : Int) == 95) = false ∧ Aside (uoL t hex f (i + 1) 33 = some r)) := by
              by_cases k : b = 95
              · rw [if_pos k] at H
                by_cases k2 : saw = 48
                · rw [if_pos k2] at H
                  exact Or.inl ⟨k, k2, beq_iff_eq.2 (by omega), by rw [bne_eq_false_iff_eq]; omega, H⟩
                · rw [if_neg k2] at H
                  exact Or.inr (Or.inl ⟨k, beq_iff_eq.2 (by omega), by rw [bne_iff_ne]; omega, (Option.some.inj H).symm⟩)
              · rw [if_neg k] at H
                by_cases k2 : saw = 95
                · rw [if_pos k2] at H
                  exact Or.inr (Or.inr (Or.inl ⟨beq_eq_false_iff_ne.2 (by omega), beq_iff_eq.2 (by omega), (Option.some.inj H).symm⟩))
                · rw [if_neg k2] at H
                  exact Or.inr (Or.inr (Or.inr ⟨beq_eq_false_iff_ne.2 (by omega), beq_eq_false_iff_ne.2 (by omega), H⟩))
            clear H c2 c3
            have AK := Lib.hid hk
            clear hk
            rcases ho with ⟨b2, b3⟩ | b2
            all_goals
              rcases hh with rfl | ⟨rfl, b5⟩ | ⟨rfl, b5, b6⟩
              all_goals
                rcases AK.out with ⟨-, -, d1, d2, hA⟩ | ⟨-, d1, d2, rfl⟩ | ⟨d1, d2, rfl⟩ | ⟨d1, d2, hA⟩
                · clear AK
                  go_wp2_with (go_at_call 141; refine (lower_lw _ _).mono ?_; rintro e w' ⟨rfl, rfl⟩)
                  go_roundg f
                  case measure => omega
                  case rel => exact ⟨95, i + 1, rfl, by go_num, rfl, by omega, by omega, hA⟩
                · clear AK
                  go_wp2_with (go_at_call 141; refine (lower_lw _ _).mono ?_; rintro e w' ⟨rfl, rfl⟩)
                  go_ret
                  exact ⟨rfl, rfl⟩
                · clear AK
                  go_wp2_with (go_at_call 141; refine (lower_lw _ _).mono ?_; rintro e w' ⟨rfl, rfl⟩)
                  go_ret
                  exact ⟨rfl, rfl⟩
                · clear AK
                  go_wp2_with (go_at_call 141; refine (lower_lw _ _).mono ?_; rintro e w' ⟨rfl, rfl⟩)
                  go_roundg f
                  case measure => omega
                  case rel => exact ⟨33, i + 1, rfl, by go_num, rfl, by omega, by omega, hA⟩
end Go.Proofs.YtnggkkdcddpjlaaGreatDoor
