/- The text functions of cast: zzIndex, zzContains, zzNumber, trimDecimal, zzInSet, zzTrimLeft: what they answer. -/
import Derived.Test.YtnggkkdcddpjlaaGreatDoorPlt
import Derived.Lib.OthersKept
import Derived.Lib.Strings
namespace Go.Proofs.YtnggkkdcddpjlaaGreatDoor
set_option linter.unusedVariables false
set_option linter.unusedSimpArgs false
open Go.RowKit
def dotB : ByteArray := ⟨#[46]⟩
theorem one_byte (s : ByteArray) (i : Nat) (h : i < s.size) : (s.extract i (i + 1)).toList = [s[i]] := by
  rw [Lib.toList_data, Lib.extract_data, Nat.add_sub_cancel_left]
  have h2 : i < s.data.toList.length := h
  rw [List.drop_eq_getElem_cons h2]
  rfl
theorem one_byte_eq (s : ByteArray) (i : Nat) (h : i < s.size) (c : UInt8) : ((s.extract i (i + 1)).toList == [c]) = decide (sb s i = c.toNat) := by
  rw [one_byte s i h, ← sb_at h]
  by_cases e : s[i] = c
  · rw [decide_eq_true (by rw [e]), beq_iff_eq.2 (by rw [e])]
  · rw [decide_eq_false (fun h2 => e (UInt8.toNat_inj.1 h2)), beq_eq_false_iff_ne.2 (fun h2 => e (List.cons.inj h2).1)]
/-- Where the first point stands; none: there is none. -/
def dotF (s : ByteArray) : Bool := (s.data.toList.any fun b => b == 46)
theorem dotF_true (s : ByteArray) (i : Nat) (h : i < s.size) (e : sb s i = 46) : dotF s = true := by
  unfold dotF
  rw [List.any_eq_true]
  refine ⟨s[i], ?_, ?_⟩
  · exact List.getElem_mem (l := s.data.toList) h
  · rw [beq_iff_eq]; apply UInt8.toNat_inj.1; rw [sb_at h]; exact e
theorem dotF_false (s : ByteArray) (h : ∀ j, j < s.size → sb s j ≠ 46) : dotF s = false := by
  unfold dotF
  rw [Bool.eq_false_iff]
  intro h2
  rw [List.any_eq_true] at h2
  obtain ⟨x, hx, hx2⟩ := h2
  obtain ⟨j, hj, rfl⟩ := List.getElem_of_mem hx
  refine h j hj ?_
  rw [beq_iff_eq] at hx2
  rw [← sb_at hj]
  show s.data.toList[j].toNat = 46
  rw [hx2]; rfl
theorem idx_calls (s : ByteArray) (w : World) (hs : s.size ≤ 1000) :
    Calls Tryz.prog 140 #[.string s, .string ⟨#[46]⟩] w fun e w' => (∃ k : Int, e = .returned (.int .i64 k) ∧ decide (0 ≤ k) = dotF s) ∧ w = w' := by
  go_enter Tryz.func140, Tryz.ntmps140
  go_wp2
  go_loopg [5] 2000 (fun k s5 wr => ∃ i : Nat, s5 = .int .i64 i ∧ i ≤ 1000 ∧ w = wr ∧ k = 2000 - i ∧ ∀ j, j < i → sb s j ≠ 46)
  case atStart => exact ⟨0, rfl, by omega, rfl, rfl, fun j hj => by omega⟩
  case round =>
    obtain ⟨i, rfl, hi, rfl, hk, hj⟩ := hrel
    have HJ := Lib.hid hj
    clear hj
    by_cases c : i + 1 ≤ s.size
    · have c1 : (i : Int) + 1 ≤ (s.size : Int) := by omega
      have hb := one_byte_eq s i (by omega) 46
      by_cases c2 : sb s i = 46
      · have hd : ((s.extract i (i + 1)).toList == [46]) = true := by rw [hb]; exact decide_eq_true c2
        have C := Lib.hid c2
        clear hb c2
        go_wp2
        go_ret
        exact ⟨⟨_, rfl, by rw [dotF_true s i (by omega) C.out]; exact decide_eq_true (by omega)⟩, rfl⟩
      · have hd : ((s.extract i (i + 1)).toList == [46]) = false := by rw [hb]; exact decide_eq_false c2
        have C := Lib.hid c2
        clear hb c2
        go_wp2
        go_roundg (2000 - (i + 1))
        case measure => omega
        case rel =>
          exact ⟨i + 1, by go_num, by omega, rfl, rfl, fun j hj => by
            by_cases e : j = i
            · subst e; exact C.out
            · exact HJ.out j (by omega)⟩
    · have c1 : ¬ (i : Int) + 1 ≤ (s.size : Int) := by omega
      go_wp2
      go_ret
      exact ⟨⟨_, rfl, by rw [dotF_false s (fun j hj => HJ.out j (by omega))]; rfl⟩, rfl⟩
theorem has_calls (s : ByteArray) (w : World) (hs : s.size ≤ 1000) :
    Calls Tryz.prog 120 #[.string s, .string ⟨#[46]⟩] w fun e w' => e = .returned (.bool (dotF s)) ∧ w = w' := by
  go_enter Tryz.func120, Tryz.ntmps120
  go_wp2_with (go_at_call 140; refine (idx_calls s _ hs).mono ?_; rintro e w' ⟨⟨k, rfl, hk⟩, rfl⟩)
  go_ret
  exact ⟨rfl, rfl⟩
/-- A sign ahead. -/
def nbG (s : ByteArray) : Bool := decide (0 < s.size) && (decide (sb s 0 = 45) || decide (sb s 0 = 43))
/-- Where the digits from i on end. -/
def dgL (s : ByteArray) : Nat → Nat → Option Nat
  | 0, _ => none
  | f + 1, i => if i < s.size then (if 48 ≤ sb s i then (if sb s i ≤ 57 then dgL s f (i + 1) else some i) else some i) else some i
def nbP (s : ByteArray) (j : Nat) : Bool := decide (j < s.size) && decide (sb s j = 46)
/-- zzNumber: the digits ahead of the point; whether that is all. -/
def nbF (f : Nat) (s : ByteArray) : Option (ByteArray × Bool) :=
  (dgL s f (if nbG s = true then 1 else 0)).bind fun j => if j ≤ s.size then (if nbP s j = true then (dgL s f (j + 1)).bind fun k => some (s.extract 0 j, decide (k = s.size)) else some (s.extract 0 j, decide (j = s.size))) else none
set_option maxHeartbeats 1000000 in
set_option maxRecDepth 100000 in
theorem nb_calls (fF : Nat) (s r : ByteArray) (ok : Bool) (w : World) (hs : s.size ≤ 1000) (h : nbF fF s = some (r, ok)) :
    Calls Tryz.prog 121 #[.string s] w fun e w' => e = .returned (.tuple #[.string r, .bool ok]) ∧ w = w' := by
  unfold nbF at h
  obtain ⟨j, h1, h⟩ := Option.bind_eq_some_iff.1 h
  have AG : Hid (nbG s = (decide (0 < s.size) && (decide (sb s 0 = 45) || decide (sb s 0 = 43)))) := Lib.hid rfl
  have AP : Hid (nbP s j = (decide (j < s.size) && decide (sb s j = 46))) := Lib.hid rfl
  have hG : nbG s = true → 0 < s.size := by
    intro e; unfold nbG at e; rw [Bool.and_eq_true] at e; exact of_decide_eq_true e.1
  have hP : nbP s j = true → j < s.size := by
    intro e; unfold nbP at e; rw [Bool.and_eq_true] at e; exact of_decide_eq_true e.1
  generalize nbG s = sg at *
  generalize nbP s j = pt at *
  by_cases hj : j ≤ s.size
  rotate_left
  · rw [if_neg hj] at h; cases h
  rw [if_pos hj] at h
  have HL := Lib.hid h1
  have HH := Lib.hid h
  clear h h1
  go_enter Tryz.func121, Tryz.ntmps121
  go_upto_region 2 with fail
  go_cut [21] (fun s21 wc => s21 = .bool sg ∧ w = wc)
  case first =>
    have q := AG.out
    clear hG hP AG AP
    rcases Nat.eq_zero_or_pos s.size with c1 | c1
    · have b1 : decide ((0 : Int) < (s.size : Int)) = false := decide_eq_false (by omega)
      rw [decide_eq_false (by omega : ¬ 0 < s.size), Bool.false_and] at q
      subst q
      have c1i : ¬ (0 : Int) < (s.size : Int) := by omega
      have C1 := Lib.hid c1
      clear c1
      go_wp2
      go_meet
      exact ⟨rfl, rfl⟩
    have b1 : decide ((0 : Int) < (s.size : Int)) = true := decide_eq_true (by omega)
    have hb := sb_at c1
    have c1i : (0 : Int) < (s.size : Int) := by omega
    rw [decide_eq_true (by omega : 0 < s.size), Bool.true_and] at q
    generalize sb s 0 = b at *
    by_cases c2 : b = 45
    · have b2 : ((b : Int) == 45) = true := beq_iff_eq.2 (by omega)
      rw [decide_eq_true c2, Bool.true_or] at q
      subst q
      clear c2
      go_wp2
      go_meet
      exact ⟨rfl, rfl⟩
    have b2 : ((b : Int) == 45) = false := beq_eq_false_iff_ne.2 (by omega)
    rw [decide_eq_false c2, Bool.false_or] at q
    by_cases c3 : b = 43
    · have b3 : ((b : Int) == 43) = true := beq_iff_eq.2 (by omega)
      rw [decide_eq_true c3] at q
      subst q
      clear c3 c2
      go_wp2
      go_meet
      exact ⟨rfl, rfl⟩
    · have b3 : ((b : Int) == 43) = false := beq_eq_false_iff_ne.2 (by omega)
      rw [decide_eq_false c3] at q
      subst q
      clear c2 c3
      go_wp2
      go_meet
      exact ⟨rfl, rfl⟩
  case rest =>
    obtain ⟨rfl, rfl⟩ := hcut
    clear AG
    go_upto_if 21 with fail
    go_cut [4] (fun s4 wc => s4 = .int .i64 ((if sg = true then 1 else 0 : Nat) : Int) ∧ w = wc)
    case first =>
      cases sg
      · go_wp2
        go_meet
        exact ⟨rfl, rfl⟩
      · go_wp2
        go_meet
        exact ⟨rfl, rfl⟩
    case rest =>
      obtain ⟨rfl, rfl⟩ := hcut
      have hi0 : (if sg = true then 1 else 0 : Nat) ≤ 1000 := by split <;> omega
      generalize (if sg = true then 1 else 0 : Nat) = i0 at *
      clear hG
      go_upto_block 0 with fail
      go_cut [4] (fun s4 wc => s4 = .int .i64 j ∧ w = wc)
      case first =>
        go_wp2_with fail
        go_loopg [4] fF (fun f s4 wr => ∃ i : Nat, s4 = .int .i64 i ∧ i ≤ 1000 ∧ w = wr ∧ Aside (dgL s f i = some j))
        case atStart => exact ⟨i0, rfl, hi0, rfl, HL.out⟩
        case round =>
          clear HL hi0 AP hP HH
          obtain ⟨i, rfl, hi, rfl, hA⟩ := hrel
          have H := hA.out
          clear hA
          cases gk with
          | zero => cases H
          | succ f =>
          rw [dgL] at H
          by_cases c1 : i < s.size
          · rw [if_pos c1] at H
            have c1i : (i : Int) < (s.size : Int) := by omega
            have b1 : decide ((i : Int) < (s.size : Int)) = true := decide_eq_true c1i
            have hb := sb_at c1
            have hb2 := sb_lt s i
            generalize sb s i = b at *
            by_cases c2 : 48 ≤ b
            · rw [if_pos c2] at H
              have b2 : decide ((48 : Int) ≤ (b : Int)) = true := decide_eq_true (by omega)
              by_cases c3 : b ≤ 57
              · rw [if_pos c3] at H
                have b3 : decide ((b : Int) ≤ 57) = true := decide_eq_true (by omega)
                have H' := Lib.hid H
                clear H
                go_wp2
                go_roundg f
                case measure => omega
                case rel => exact ⟨i + 1, by go_num, by omega, rfl, H'.out⟩
              · rw [if_neg c3] at H
                have b3 : decide ((b : Int) ≤ 57) = false := decide_eq_false (by omega)
                obtain rfl := Option.some.inj H
                clear H
                go_wp2
                go_meet
                exact ⟨rfl, rfl⟩
            · rw [if_neg c2] at H
              have b2 : decide ((48 : Int) ≤ (b : Int)) = false := decide_eq_false (by omega)
              obtain rfl := Option.some.inj H
              clear H
              go_wp2
              go_meet
              exact ⟨rfl, rfl⟩
          · rw [if_neg c1] at H
            have b1 : decide ((i : Int) < (s.size : Int)) = false := decide_eq_false (by omega)
            obtain rfl := Option.some.inj H
            clear H
            go_wp2
            go_meet
            exact ⟨rfl, rfl⟩
      case rest =>
        obtain ⟨rfl, rfl⟩ := hcut
        clear HL hi0
        have hji : (j : Int) ≤ (s.size : Int) := by omega
        go_upto_region 7 with fail
        go_cut [54] (fun s54 wc => s54 = .bool pt ∧ w = wc)
        case first =>
          have q := AP.out
          clear hP AP HH
          by_cases c1 : j < s.size
          rotate_left
          · have b1 : decide ((j : Int) < (s.size : Int)) = false := decide_eq_false (by omega)
            rw [decide_eq_false c1, Bool.false_and] at q
            subst q
            go_wp2
            go_meet
            exact ⟨rfl, rfl⟩
          have b1 : decide ((j : Int) < (s.size : Int)) = true := decide_eq_true (by omega)
          have hb := sb_at c1
          have c1i : (j : Int) < (s.size : Int) := by omega
          rw [decide_eq_true c1, Bool.true_and] at q
          generalize sb s j = b at *
          by_cases c2 : b = 46
          · have b2 : ((b : Int) == 46) = true := beq_iff_eq.2 (by omega)
            rw [decide_eq_true c2] at q
            subst q
            clear c2
            go_wp2
            go_meet
            exact ⟨rfl, rfl⟩
          · have b2 : ((b : Int) == 46) = false := beq_eq_false_iff_ne.2 (by omega)
            rw [decide_eq_false c2] at q
            subst q
            clear c2
            go_wp2
            go_meet
            exact ⟨rfl, rfl⟩
        case rest =>
          obtain ⟨rfl, rfl⟩ := hcut
          clear AP
          cases pt
          · have h := HH.out
            rw [if_neg (by simp)] at h
            obtain ⟨rfl, rfl⟩ := Prod.mk.inj (Option.some.inj h)
            have e : ((j : Int) == (s.size : Int)) = decide (j = s.size) := by
              by_cases c : j = s.size
              · rw [decide_eq_true c, beq_iff_eq]; omega
              · rw [decide_eq_false c, beq_eq_false_iff_ne]; omega
            clear h HH hP
            go_wp2
            go_ret2
            exact ⟨rfl, rfl⟩
          · have h := HH.out
            rw [if_pos rfl] at h
            obtain ⟨k, h2, h⟩ := Option.bind_eq_some_iff.1 h
            obtain ⟨rfl, rfl⟩ := Prod.mk.inj (Option.some.inj h)
            have hj2 := hP rfl
            have e : ((k : Int) == (s.size : Int)) = decide (k = s.size) := by
              by_cases c : k = s.size
              · rw [decide_eq_true c, beq_iff_eq]; omega
              · rw [decide_eq_false c, beq_eq_false_iff_ne]; omega
            have HL := Lib.hid h2
            have E := Lib.hid e
            clear h HH hP h2 e
            go_upto_block 2 with fail
            go_cut [4] (fun s4 wc => s4 = .int .i64 k ∧ w = wc)
            case first =>
              go_wp2_with fail
              go_loopg [4] fF (fun f s4 wr => ∃ i : Nat, s4 = .int .i64 i ∧ i ≤ 1000 ∧ w = wr ∧ Aside (dgL s f i = some k))
              case atStart => exact ⟨j + 1, by go_num, by omega, rfl, HL.out⟩
              case round =>
                clear HL hji hj hj2 E
                obtain ⟨i, rfl, hi, rfl, hA⟩ := hrel
                have H := hA.out
                clear hA
                cases gk with
                | zero => cases H
                | succ f =>
                rw [dgL] at H
                by_cases c1 : i < s.size
                · rw [if_pos c1] at H
                  have c1i : (i : Int) < (s.size : Int) := by omega
                  have b1 : decide ((i : Int) < (s.size : Int)) = true := decide_eq_true c1i
                  have hb := sb_at c1
                  have hb2 := sb_lt s i
                  generalize sb s i = b at *
                  by_cases c2 : 48 ≤ b
                  · rw [if_pos c2] at H
                    have b2 : decide ((48 : Int) ≤ (b : Int)) = true := decide_eq_true (by omega)
                    by_cases c3 : b ≤ 57
                    · rw [if_pos c3] at H
                      have b3 : decide ((b : Int) ≤ 57) = true := decide_eq_true (by omega)
                      have H' := Lib.hid H
                      clear H
                      go_wp2
                      go_roundg f
                      case measure => omega
                      case rel => exact ⟨i + 1, by go_num, by omega, rfl, H'.out⟩
                    · rw [if_neg c3] at H
                      have b3 : decide ((b : Int) ≤ 57) = false := decide_eq_false (by omega)
                      obtain rfl := Option.some.inj H
                      clear H
                      go_wp2
                      go_meet
                      exact ⟨rfl, rfl⟩
                  · rw [if_neg c2] at H
                    have b2 : decide ((48 : Int) ≤ (b : Int)) = false := decide_eq_false (by omega)
                    obtain rfl := Option.some.inj H
                    clear H
                    go_wp2
                    go_meet
                    exact ⟨rfl, rfl⟩
                · rw [if_neg c1] at H
                  have b1 : decide ((i : Int) < (s.size : Int)) = false := decide_eq_false (by omega)
                  obtain rfl := Option.some.inj H
                  clear H
                  go_wp2
                  go_meet
                  exact ⟨rfl, rfl⟩
            case rest =>
              obtain ⟨rfl, rfl⟩ := hcut
              have e := E.out
              clear HL E
              go_wp2
              go_ret2
              exact ⟨rfl, rfl⟩
/-- The part ahead of the point, made a number. -/
def tdW (r : ByteArray) : ByteArray :=
  if (r.toList == [45]) = true then r ++ ⟨#[48]⟩ else if (r.toList == [43]) = true then r ++ ⟨#[48]⟩ else if r.toList.isEmpty = true then ⟨#[48]⟩ else r
theorem nbF_size (f : Nat) (s r : ByteArray) (ok : Bool) (h : nbF f s = some (r, ok)) : r.size ≤ s.size := by
  unfold nbF at h
  obtain ⟨j, _, h⟩ := Option.bind_eq_some_iff.1 h
  have e : (s.extract 0 j).size ≤ s.size := by simp only [ByteArray.size_extract]; omega
  by_cases c : j ≤ s.size
  · rw [if_pos c] at h
    by_cases c2 : nbP s j = true
    · rw [if_pos c2] at h
      obtain ⟨k, _, h⟩ := Option.bind_eq_some_iff.1 h
      obtain ⟨rfl, rfl⟩ := Prod.mk.inj (Option.some.inj h)
      exact e
    · rw [if_neg c2] at h
      obtain ⟨rfl, rfl⟩ := Prod.mk.inj (Option.some.inj h)
      exact e
  · rw [if_neg c] at h; cases h
def tdF (f : Nat) (s : ByteArray) : Option ByteArray :=
  if dotF s = true then (nbF f s).bind fun a => some (if a.2 = true then tdW a.1 else s) else some s
set_option maxHeartbeats 1000000 in
set_option maxRecDepth 100000 in
theorem td_calls (f : Nat) (s r : ByteArray) (w : World) (hs : s.size ≤ 1000) (h : tdF f s = some r) :
    Calls Tryz.prog 88 #[.string s] w fun e w' => e = .returned (.string r) ∧ w = w' := by
  unfold tdF at h
  have A := fun w => has_calls s w hs
  by_cases c1 : dotF s = true
  · rw [if_pos c1] at h
    rw [c1] at A
    obtain ⟨⟨a, ok⟩, h1, h⟩ := Option.bind_eq_some_iff.1 h
    have B := fun w => nb_calls f s a ok w hs h1
    have ha := nbF_size f s a ok h1
    have ha2 : a.size ≤ 1000 := by omega
    dsimp only at h
    obtain rfl := Option.some.inj h
    clear h h1 c1
    cases ok
    · rw [if_neg (by simp)]
      go_enter Tryz.func88, Tryz.ntmps88
      go_wp2_with (first | (go_at_call 120; refine (A _).mono ?_; rintro e w' ⟨rfl, rfl⟩) | (go_at_call 121; refine (B _).mono ?_; rintro e w' ⟨rfl, rfl⟩))
      go_ret
      exact ⟨rfl, rfl⟩
    · rw [if_pos rfl, tdW]
      by_cases d1 : (a.toList == [45]) = true
      · rw [if_pos d1]
        go_enter Tryz.func88, Tryz.ntmps88
        go_wp2_with (first | (go_at_call 120; refine (A _).mono ?_; rintro e w' ⟨rfl, rfl⟩) | (go_at_call 121; refine (B _).mono ?_; rintro e w' ⟨rfl, rfl⟩))
        go_ret
        exact ⟨rfl, rfl⟩
      rw [if_neg d1]
      rw [Bool.not_eq_true] at d1
      by_cases d2 : (a.toList == [43]) = true
      · rw [if_pos d2]
        go_enter Tryz.func88, Tryz.ntmps88
        go_wp2_with (first | (go_at_call 120; refine (A _).mono ?_; rintro e w' ⟨rfl, rfl⟩) | (go_at_call 121; refine (B _).mono ?_; rintro e w' ⟨rfl, rfl⟩))
        go_ret
        exact ⟨rfl, rfl⟩
      rw [if_neg d2]
      rw [Bool.not_eq_true] at d2
      by_cases d3 : a.toList.isEmpty = true
      · rw [if_pos d3]
        go_enter Tryz.func88, Tryz.ntmps88
        go_wp2_with (first | (go_at_call 120; refine (A _).mono ?_; rintro e w' ⟨rfl, rfl⟩) | (go_at_call 121; refine (B _).mono ?_; rintro e w' ⟨rfl, rfl⟩))
        go_ret
        exact ⟨rfl, rfl⟩
      · rw [if_neg d3]
        rw [Bool.not_eq_true] at d3
        go_enter Tryz.func88, Tryz.ntmps88
        go_wp2_with (first | (go_at_call 120; refine (A _).mono ?_; rintro e w' ⟨rfl, rfl⟩) | (go_at_call 121; refine (B _).mono ?_; rintro e w' ⟨rfl, rfl⟩))
        go_ret
        exact ⟨rfl, rfl⟩
  · rw [if_neg c1] at h
    rw [Bool.not_eq_true] at c1
    rw [c1] at A
    obtain rfl := Option.some.inj h
    clear h c1
    go_enter Tryz.func88, Tryz.ntmps88
    go_wp2_with (go_at_call 120; refine (A _).mono ?_; rintro e w' ⟨rfl, rfl⟩)
    go_ret
    exact ⟨rfl, rfl⟩
def plusB : ByteArray := ⟨#[43]⟩
theorem zs_calls (c : Int) (w : World) :
    Calls Tryz.prog 123 #[.int .i32 c, .string ⟨#[43]⟩] w fun e w' => e = .returned (.bool (c == 43)) ∧ Below w.heap.size w w' := by
  have hb : ∀ k, Below w.heap.size w (w.iter ⟨#[43]⟩ k) := fun k => (Below.refl _ _).alloc (Nat.le_refl _) _
  have HB := Lib.hid hb
  clear hb
  go_enter Tryz.func123, Tryz.ntmps123
  go_wp2
  go_loopg [] 2 (fun k wr => (k = 2 ∧ wr = w.iter ⟨#[43]⟩ 0) ∨ (k = 1 ∧ wr = w.iter ⟨#[43]⟩ 1 ∧ (c == 43) = false))
  case atStart => exact Or.inl ⟨rfl, rfl⟩
  case round =>
    rcases hrel with ⟨rfl, rfl⟩ | ⟨rfl, rfl, hc⟩
    · have hnx : ∀ ty, (Instr.next (.pointer (some ⟨w.heap.size, 0, none⟩)) true ty).run Tryz.prog (w.iter ⟨#[43]⟩ 0) = .ok (.tuple #[.bool true, .int .i64 0, .int .i32 43]) (w.iter ⟨#[43]⟩ 1) := fun ty => run_next_ascii w _ 0 ty (by decide) (by decide)
      by_cases c1 : (c == 43) = true
      · go_wp2
        go_ret
        exact ⟨by rw [c1]; rfl, HB.out 1⟩
      · rw [Bool.not_eq_true] at c1
        have C1 := Lib.hid c1
        go_wp2
        go_roundg 1
        case measure => omega
        case rel => exact Or.inr ⟨rfl, rfl, C1.out⟩
    · have hnx : ∀ ty, (Instr.next (.pointer (some ⟨w.heap.size, 0, none⟩)) true ty).run Tryz.prog (w.iter ⟨#[43]⟩ 1) = .ok (.tuple #[.bool false]) (w.iter ⟨#[43]⟩ 1) := fun ty => run_next_end w _ 1 ty (by decide)
      go_wp2
      go_ret
      exact ⟨by rw [hc]; rfl, HB.out 1⟩
/-- The text without the signs '+' ahead. -/
def tlL (s : ByteArray) : Nat → Nat → Option ByteArray
  | 0, _ => none
  | f + 1, i => if i < s.size then (if sb s i = 43 then tlL s f (i + 1) else some (s.extract i s.size)) else some ByteArray.empty
theorem dec_43 (s : ByteArray) (i : Nat) (h : i < s.size) (hne : sb s i ≠ 43) : (((Utf8.decode s i).1 : Int) == 43) = false := by
  rw [beq_eq_false_iff_ne]
  intro e
  by_cases ha : (s[i]'h).toNat < 128
  · rw [decode_ascii s i h ha] at e
    dsimp only at e
    rw [sb_at h] at e
    omega
  · have := (decode_high s i h (by omega)).1
    omega
set_option maxHeartbeats 1000000 in
theorem tl_calls (fF : Nat) (s r : ByteArray) (w : World) (hs : s.size ≤ 1000) (h : tlL s fF 0 = some r) :
    Calls Tryz.prog 91 #[.string s, .string ⟨#[43]⟩] w fun e w' => e = .returned (.string r) ∧ Below w.heap.size w w' := by
  have HH := Lib.hid h
  clear h
  have hb0 : Below w.heap.size w (w.iter s 0) := (Below.refl _ _).alloc (Nat.le_refl _) _
  have hi0 := World.iter_heap w s 0
  go_enter Tryz.func91, Tryz.ntmps91
  go_wp2
  go_loopg [] fF (fun f wr => ∃ i : Nat, Below w.heap.size w wr ∧ wr.heap[w.heap.size]? = some (.stringIter s i) ∧ Aside (tlL s f i = some r))
  case atStart => exact ⟨0, hb0, hi0, HH.out⟩
  case round =>
    clear HH hb0 hi0
    obtain ⟨i, hb, hk, hA⟩ := hrel
    have H := hA.out
    clear hA
    cases gk with
    | zero => cases H
    | succ f =>
    rw [tlL] at H
    by_cases c1 : i < s.size
    · rw [if_pos c1] at H
      have hk2 := Lib.iterAt_heap wr w.heap.size s i (i + (Utf8.decode s i).2) hk
      have hb2 := Lib.below_iterAt hb (Nat.le_refl _) s (i + (Utf8.decode s i).2)
      have hz2 := Lib.iterAt_size wr w.heap.size s (i + (Utf8.decode s i).2)
      have hz3 : w.heap.size < wr.heap.size := (Array.getElem?_eq_some_iff.1 hk).1
      have hnx := fun ty => Lib.run_next_any_at (P := Tryz.prog) wr w.heap.size s i ty hk c1
      by_cases c2 : sb s i = 43
      · rw [if_pos c2] at H
        have hd : Utf8.decode s i = (43, 1) := by
          rw [decode_ascii s i c1 (by rw [sb_at c1]; omega), sb_at c1, c2]
        rw [hd] at hnx hk2 hb2 hz2
        have H' := Lib.hid H
        clear H hd c2 hk
        generalize wr.iterAt w.heap.size s (i + 1) = w2 at *
        have Z := zs_calls 43 w2
        go_wp2_with (go_at_call 123; refine Z.mono ?_; rintro e w3 ⟨rfl, hb3⟩)
        go_roundg f
        case measure => omega
        case rel => exact ⟨i + 1, hb2.trans (hb3.mono (by omega)), (hb3.block _ (by omega)).trans hk2, H'.out⟩
      · rw [if_neg c2] at H
        obtain rfl := Option.some.inj H
        have hd := dec_43 s i c1 c2
        clear H c2 hk
        have hii : (i : Int) ≤ (s.size : Int) := by omega
        generalize wr.iterAt w.heap.size s (i + (Utf8.decode s i).2) = w2 at *
        generalize ((Utf8.decode s i).1 : Int) = u at *
        have Z := zs_calls u w2
        rw [hd] at Z
        clear hd
        go_wp2_with (go_at_call 123; refine Z.mono ?_; rintro e w3 ⟨rfl, hb3⟩)
        go_ret
        exact ⟨rfl, hb2.trans (hb3.mono (by omega))⟩
    · rw [if_neg c1] at H
      obtain rfl := Option.some.inj H
      clear H
      have hnx := fun ty => Lib.run_next_end_at (P := Tryz.prog) wr w.heap.size s i ty hk c1
      go_wp2
      go_ret
      exact ⟨rfl, hb⟩
end Go.Proofs.YtnggkkdcddpjlaaGreatDoor
