/- ParseUint at base 0: what it answers. -/
import Derived.Test.YtnggkkdcddpjlaaGreatDoorUo
import Derived.Test.YtnggkkdcddpjlaaGreatDoorTab
import Derived.Lib.ConvBytes
import Derived.Lib.Strings
namespace Go.Proofs.YtnggkkdcddpjlaaGreatDoor
set_option linter.unusedVariables false
set_option linter.unusedSimpArgs false
open Go.RowKit
/-- A digit of whatever base. -/
def puD (c : Nat) : Option Int := if 48 ≤ c ∧ c ≤ 57 then some ((c : Int) - 48) else if 97 ≤ lw c ∧ lw c ≤ 122 then some (lw c - 97 + 10) else none
/-- The loop of ParseUint: the number, the error (0: none, 1: range, 2: syntax), underscores. -/
def puL (s : ByteArray) (b : Nat) (cut : Int) : Nat → Nat → Int → Bool → Option (Int × Nat × Bool)
  | 0, _, _, _ => none
  | f + 1, i, n, us =>
    if i < s.size then
      (if sb s i = 95 then puL s b cut f (i + 1) n true
       else match puD (sb s i) with
         | none => some (0, 2, us)
         | some d => if (b : Int) ≤ d then some (0, 2, us) else if cut ≤ n then some (18446744073709551615, 1, us)
            else if IntKind.u64.wrap (IntKind.u64.wrap (n * b) + d) < IntKind.u64.wrap (n * b) then some (18446744073709551615, 1, us)
            else puL s b cut f (i + 1) (IntKind.u64.wrap (IntKind.u64.wrap (n * b) + d)) us)
    else some (n, 0, us)
def puB (s : ByteArray) : Nat × ByteArray :=
  if sb s 0 = 48 then (if 3 ≤ s.size then (if lw (sb s 1) = 98 then (2, s.extract 2 s.size) else if lw (sb s 1) = 111 then (8, s.extract 2 s.size) else if lw (sb s 1) = 120 then (16, s.extract 2 s.size) else (8, s.extract 1 s.size)) else (8, s.extract 1 s.size)) else (10, s)
def puC (b : Nat) : Int := if b = 10 then 1844674407370955162 else if b = 16 then 1152921504606846976 else if b = 2 then 9223372036854775808 else 2305843009213693952
def puF (f : Nat) (s : ByteArray) : Option (Int × Nat) :=
  if s.size = 0 then some (0, 2) else
  (puL (puB s).2 (puB s).1 (puC (puB s).1) f 0 0 false).bind fun a =>
    if a.2.1 = 0 then (if a.2.2 = true then (uoF f s).bind fun ok => some (if ok = true then (a.1, 0) else (0, 2)) else some (a.1, 0))
    else if a.2.1 = 1 then some (a.1, 1) else if a.2.1 = 2 then some (a.1, 2) else none
/-- An error value of internal/strconv: none, range (1), syntax (2). -/
def erV (k : Nat) : Value := if k = 0 then .nilIface else .iface 172 (.int .i64 k)
theorem puB_cases (s : ByteArray) : (puB s).1 = 2 ∨ (puB s).1 = 8 ∨ (puB s).1 = 10 ∨ (puB s).1 = 16 := by
  unfold puB
  repeat' split
  all_goals simp
theorem puB_size (s : ByteArray) : (puB s).2.size ≤ s.size := by
  unfold puB
  repeat' split
  all_goals simp only [ByteArray.size_extract]
  all_goals omega
set_option maxRecDepth 100000 in
theorem pu_empty (s : ByteArray) (w : World) (hs : s.size = 0) :
    Calls Tryz.prog 122 #[.string s, .int .i64 0, .int .i64 0] w fun e w' => e = .returned (.tuple #[.int .u64 0, erV 2]) ∧ w = w' := by
  obtain rfl : s = ByteArray.empty := by
    obtain ⟨⟨l⟩⟩ := s
    cases l with
    | nil => rfl
    | cons x l => simp [ByteArray.size] at hs
  go_enter Tryz.func122, Tryz.ntmps122
  go_wp2
  go_ret2
  exact ⟨rfl, rfl⟩
set_option maxHeartbeats 4000000 in
set_option maxRecDepth 100000 in
theorem pu_main (fF : Nat) (s t : ByteArray) (b : Nat) (v : Int) (k : Nat) (us : Bool) (o : Option Bool) (w : World) (hs : s.size ≤ 1000) (h0 : 0 < s.size)
    (hB : puB s = (b, t)) (hL : puL t b (puC b) fF 0 0 false = some (v, k, us)) (ho : k = 0 → us = true → ∃ ok, o = some ok ∧ uoF fF s = some ok) (hk : k ≤ 2) :
    Calls Tryz.prog 122 #[.string s, .int .i64 0, .int .i64 0] w fun e w' => e = .returned (.tuple (if k = 0 ∧ us = true ∧ o = some false then #[.int .u64 0, erV 2] else #[.int .u64 v, erV k])) ∧ Below w.heap.size w w' := by
  have hbc : b = 2 ∨ b = 8 ∨ b = 10 ∨ b = 16 := by have := puB_cases s; rw [hB] at this; exact this
  have hts : t.size ≤ 1000 := by have := puB_size s; rw [hB] at this; dsimp only at this; omega
  have U := fun ok (h : uoF fF s = some ok) w => uo_calls fF s ok w hs h
  have hsn : ¬ s = ByteArray.empty := by intro e; subst e; simp at h0
  have hse : s.toList.isEmpty = false := by
    rw [Lib.toList_data, List.isEmpty_eq_false_iff]
    intro e
    have : s.data.toList.length = s.size := rfl
    rw [e] at this; simp at this; omega
  have h0i : (0 : Int) < (s.size : Int) := by omega
  have HB := Lib.hid hB
  have HL := Lib.hid hL
  have HO := Lib.hid ho
  clear hB hL ho
  go_enter Tryz.func122, Tryz.ntmps122
  go_upto_block 0 with fail
  go_cut [0, 1] (fun s0 s1 wc => s0 = .string t ∧ s1 = .int .i64 b ∧ w = wc)
  case first =>
    have hb := sb_at h0
    have e := HB.out
    unfold puB at e
    clear HB HL HO hbc hts U
    by_cases c1 : sb s 0 = 48
    · rw [if_pos c1] at e
      have b1 : ((sb s 0 : Int) == 48) = true := beq_iff_eq.2 (by omega)
      have C1 := Lib.hid c1
      clear c1
      by_cases c2 : 3 ≤ s.size
      · rw [if_pos c2] at e
        have c2i : (3 : Int) ≤ (s.size : Int) := by omega
        have c2k : (2 : Int) ≤ (s.size : Int) := by omega
        have c2l : (1 : Int) < (s.size : Int) := by omega
        have b2 : decide ((3 : Int) ≤ (s.size : Int)) = true := decide_eq_true c2i
        have hb1 := sb_at (show 1 < s.size by omega)
        generalize sb s 0 = x at *
        generalize sb s 1 = y at *
        by_cases c3 : lw y = 98
        · rw [if_pos c3] at e
          obtain ⟨rfl, rfl⟩ := Prod.mk.inj e
          have b3 : (lw y == 98) = true := beq_iff_eq.2 c3
          clear e c3
          go_wp2_with (go_at_call 141; refine (lower_lw _ _).mono ?_; rintro e w' ⟨rfl, rfl⟩)
          go_meet
          exact ⟨rfl, rfl, rfl⟩
        rw [if_neg c3] at e
        have b3 : (lw y == 98) = false := beq_eq_false_iff_ne.2 c3
        by_cases c4 : lw y = 111
        · rw [if_pos c4] at e
          obtain ⟨rfl, rfl⟩ := Prod.mk.inj e
          have b4 : (lw y == 111) = true := beq_iff_eq.2 c4
          clear e c3 c4
          go_wp2_with (go_at_call 141; refine (lower_lw _ _).mono ?_; rintro e w' ⟨rfl, rfl⟩)
          go_meet
          exact ⟨rfl, rfl, rfl⟩
        rw [if_neg c4] at e
        have b4 : (lw y == 111) = false := beq_eq_false_iff_ne.2 c4
        by_cases c5 : lw y = 120
        · rw [if_pos c5] at e
          obtain ⟨rfl, rfl⟩ := Prod.mk.inj e
          have b5 : (lw y == 120) = true := beq_iff_eq.2 c5
          clear e c3 c4 c5
          go_wp2_with (go_at_call 141; refine (lower_lw _ _).mono ?_; rintro e w' ⟨rfl, rfl⟩)
          go_meet
          exact ⟨rfl, rfl, rfl⟩
        · rw [if_neg c5] at e
          have b5 : (lw y == 120) = false := beq_eq_false_iff_ne.2 c5
          obtain ⟨rfl, rfl⟩ := Prod.mk.inj e
          clear e c3 c4 c5
          go_wp2_with (go_at_call 141; refine (lower_lw _ _).mono ?_; rintro e w' ⟨rfl, rfl⟩)
          go_meet
          exact ⟨rfl, rfl, rfl⟩
      · rw [if_neg c2] at e
        have c2i : ¬ (3 : Int) ≤ (s.size : Int) := by omega
        have b2 : decide ((3 : Int) ≤ (s.size : Int)) = false := decide_eq_false c2i
        obtain ⟨rfl, rfl⟩ := Prod.mk.inj e
        clear e
        have c2j : (1 : Int) ≤ (s.size : Int) := by omega
        go_wp2_with fail
        go_meet
        exact ⟨rfl, rfl, rfl⟩
    · rw [if_neg c1] at e
      have b1 : ((sb s 0 : Int) == 48) = false := beq_eq_false_iff_ne.2 (by omega)
      obtain ⟨rfl, rfl⟩ := Prod.mk.inj e
      clear e
      go_wp2
      go_meet
      exact ⟨rfl, rfl, rfl⟩
  case rest =>
    obtain ⟨rfl, rfl, rfl⟩ := hcut
    clear HB h0i hse hsn
    go_upto_block 2 with fail
    go_cut [10] (fun s10 wc => s10 = .int .u64 (puC b) ∧ w = wc)
    case first =>
      clear HL HO U
      rcases hbc with rfl | rfl | rfl | rfl
      all_goals
        go_wp2
        go_meet
        exact ⟨rfl, rfl⟩
    case rest =>
      obtain ⟨rfl, rfl⟩ := hcut
      have hb0 : (b : Int) ≤ 36 := by omega
      have hcu : 0 ≤ puC b ∧ puC b < 18446744073709551616 := by unfold puC; repeat' split; all_goals omega
      clear hbc
      generalize puC b = cut at *
      have hM : IntKind.u64.wrap (IntKind.u64.wrap 18446744073709551616 - 1) = 18446744073709551615 := by decide
      have hcv := fun w => Lib.run_convert_string_bytes (P := Tryz.prog) w 9 81 5 t Tryz.underlying9 Tryz.underlying81 Tryz.underlying5
      have hcell := fun j => Lib.bytesWorld_cell w 5 t j
      have hbel : Below w.heap.size w (Lib.bytesWorld w 5 t) := ⟨rfl, rfl, rfl, by rw [Lib.bytesWorld_size]; omega, fun j hj => Lib.bytesWorld_at_old w 5 t j hj⟩
      have hsb : ∀ j, j < t.size → (t.data.toList.getD j 0).toNat = sb t j := by
        intro j hj
        rw [← sb_at hj]
        have : j < t.data.toList.length := hj
        rw [List.getD_eq_getElem?_getD, List.getElem?_eq_getElem this]; rfl
      have HC := Lib.hid hcell
      have HBel := Lib.hid hbel
      have HS := Lib.hid hsb
      clear hcell hbel hsb
      go_upto_block 3 with fail
      have hcell : ∀ j, j < t.size → (Lib.bytesWorld w 5 t).cell? ⟨w.heap.size, j, none⟩ = some (.int .u8 (sb t j)) := by
        intro j hj
        rw [← HS.out j hj]; exact HC.out j hj
      have HCE := Lib.hid hcell
      have hbel := HBel.out
      clear HS HC hcell HBel hcv
      generalize Lib.bytesWorld w 5 t = w1 at *
      go_cut [12, 13] (fun s12 s13 wc => s12 = .bool us ∧ s13 = .int .u64 v ∧ w1 = wc ∧ k = 0)
      case first =>
        go_wp2_with fail
        go_loopg [12, 13, 101] fF (fun f s12 s13 s101 wr => ∃ (i : Nat) (n : Int) (u : Bool), s12 = .bool u ∧ s13 = .int .u64 n ∧ s101 = .int .i64 i ∧ i ≤ 1000 ∧ 0 ≤ n ∧ n < 18446744073709551616 ∧ w1 = wr ∧ Aside (puL t b cut f i n u = some (v, k, us)))
        case atStart => exact ⟨0, 0, false, rfl, rfl, rfl, by omega, by omega, by omega, rfl, HL.out⟩
        case round =>
          clear HL HO U
          obtain ⟨i, n, u, rfl, rfl, rfl, hi, hn0, hn1, rfl, hA⟩ := hrel
          have H := hA.out
          clear hA
          cases gk with
          | zero => cases H
          | succ f =>
          rw [puL] at H
          by_cases c1 : i < t.size
          · rw [if_pos c1] at H
            have c1i : (i : Int) < (t.size : Int) := by omega
            have hce := HCE.out i c1
            have hb2 := sb_lt t i
            generalize sb t i = c at *
            by_cases c2 : c = 95
            · rw [if_pos c2] at H
              have b2 : ((c : Int) == 95) = true := beq_iff_eq.2 (by omega)
              have H' := Lib.hid H
              clear H c2
              go_wp2
              go_roundg f
              case measure => omega
              case rel => exact ⟨i + 1, _, _, rfl, rfl, by go_num, by omega, hn0, hn1, rfl, H'.out⟩
            rw [if_neg c2] at H
            have b2 : ((c : Int) == 95) = false := beq_eq_false_iff_ne.2 (by omega)
            have H' := Lib.hid H
            clear H c2
            go_upto_block 5 with fail
            go_cut [12, 16] (fun s12 s16 wc => ∃ d : Int, s12 = .bool u ∧ s16 = .int .u8 d ∧ 0 ≤ d ∧ d ≤ 35 ∧ w1 = wc ∧ puD c = some d)
            case first =>
              by_cases k1 : 48 ≤ c ∧ c ≤ 57
              · have q1 : decide ((48 : Int) ≤ (c : Int)) = true := decide_eq_true (by omega)
                have q2 : decide ((c : Int) ≤ 57) = true := decide_eq_true (by omega)
                have q3 : (48 : Int) ≤ (c : Int) := by omega
                have q4 : (c : Int) ≤ 57 := by omega
                have K1 := Lib.hid k1
                clear k1 H'
                go_wp2
                go_meet
                exact ⟨_, rfl, rfl, by omega, by omega, rfl, by unfold puD; rw [if_pos K1.out]⟩
              · have hq : decide ((48 : Int) ≤ (c : Int)) = false ∨ (decide ((48 : Int) ≤ (c : Int)) = true ∧ decide ((c : Int) ≤ 57) = false) := by
                  by_cases z : 48 ≤ c
                  · exact Or.inr ⟨decide_eq_true (by omega), decide_eq_false (by omega)⟩
                  · exact Or.inl (decide_eq_false (by omega))
                by_cases k2 : 97 ≤ lw c ∧ lw c ≤ 122
                · have q1 : decide ((97 : Int) ≤ lw c) = true := decide_eq_true k2.1
                  have q2 : decide (lw c ≤ 122) = true := decide_eq_true k2.2
                  have q3 := k2.1
                  have q4 := k2.2
                  have K1 := Lib.hid k1
                  have K2 := Lib.hid k2
                  clear k1 k2 H'
                  rcases hq with h1 | ⟨h1, h2⟩
                  all_goals
                    go_wp2_with (go_at_call 141; refine (lower_lw _ _).mono ?_; rintro e w' ⟨rfl, rfl⟩)
                    go_meet
                    exact ⟨_, rfl, rfl, by omega, by omega, rfl, by unfold puD; rw [if_neg K1.out, if_pos K2.out]⟩
                · have hq2 : decide ((97 : Int) ≤ lw c) = false ∨ (decide ((97 : Int) ≤ lw c) = true ∧ decide (lw c ≤ 122) = false) := by
                    by_cases z : 97 ≤ lw c
                    · exact Or.inr ⟨decide_eq_true z, decide_eq_false (by omega)⟩
                    · exact Or.inl (decide_eq_false z)
                  have H := H'.out
                  have hD : puD c = none := by unfold puD; rw [if_neg k1, if_neg k2]
                  rw [hD] at H
                  dsimp only at H
                  obtain ⟨rfl, E2⟩ := Prod.mk.inj (Option.some.inj H)
                  obtain ⟨rfl, rfl⟩ := Prod.mk.inj E2
                  clear k1 k2 H' H E2 hD
                  rcases hq with h1 | ⟨h1, h2⟩ <;> rcases hq2 with h3 | ⟨h3, h4⟩
                  all_goals
                    go_wp2_with (go_at_call 141; refine (lower_lw _ _).mono ?_; rintro e w' ⟨rfl, rfl⟩)
                    go_ret2
                    exact ⟨rfl, hbel⟩
            case rest =>
              obtain ⟨d, rfl, rfl, hd0, hd1, rfl, hD⟩ := hcut
              have H := H'.out
              rw [hD] at H
              dsimp only at H
              clear H' hD hce
              by_cases c3 : (b : Int) ≤ d
              · rw [if_pos c3] at H
                have b3 : decide ((b : Int) ≤ d) = true := decide_eq_true c3
                obtain ⟨rfl, E2⟩ := Prod.mk.inj (Option.some.inj H)
                obtain ⟨rfl, rfl⟩ := Prod.mk.inj E2
                clear H E2
                go_wp2
                go_ret2
                exact ⟨rfl, hbel⟩
              rw [if_neg c3] at H
              have b3 : decide ((b : Int) ≤ d) = false := decide_eq_false c3
              by_cases c4 : cut ≤ n
              · rw [if_pos c4] at H
                have b4 : decide (cut ≤ n) = true := decide_eq_true c4
                obtain ⟨rfl, E2⟩ := Prod.mk.inj (Option.some.inj H)
                obtain ⟨rfl, rfl⟩ := Prod.mk.inj E2
                clear H E2
                go_wp2
                go_ret2
                exact ⟨rfl, hbel⟩
              rw [if_neg c4] at H
              have b4 : decide (cut ≤ n) = false := decide_eq_false c4
              have hp0 := wrap_u64_nonneg (IntKind.u64.wrap (n * b) + d)
              have hp1 : IntKind.u64.wrap (IntKind.u64.wrap (n * b) + d) < 18446744073709551616 := by rw [IntKind.wrap_u64]; omega
              by_cases c5 : IntKind.u64.wrap (IntKind.u64.wrap (n * b) + d) < IntKind.u64.wrap (n * b)
              · rw [if_pos c5] at H
                have b5 : decide (IntKind.u64.wrap (IntKind.u64.wrap (n * b) + d) < IntKind.u64.wrap (n * b)) = true := decide_eq_true c5
                obtain ⟨rfl, E2⟩ := Prod.mk.inj (Option.some.inj H)
                obtain ⟨rfl, rfl⟩ := Prod.mk.inj E2
                clear H E2 hp0 hp1
                go_wp2
                go_ret2
                exact ⟨rfl, hbel⟩
              · rw [if_neg c5] at H
                have b5 : decide (IntKind.u64.wrap (IntKind.u64.wrap (n * b) + d) < IntKind.u64.wrap (n * b)) = false := decide_eq_false c5
                have b6 : decide (18446744073709551615 < IntKind.u64.wrap (IntKind.u64.wrap (n * b) + d)) = false := decide_eq_false (by omega)
                have H' := Lib.hid H
                have P0 := Lib.hid hp0
                have P1 := Lib.hid hp1
                clear H hp0 hp1
                go_wp2
                go_roundg f
                case measure => omega
                case rel => exact ⟨i + 1, _, _, rfl, rfl, by go_num, by omega, P0.out, P1.out, rfl, H'.out⟩
          · rw [if_neg c1] at H
            have c1i : ¬ (i : Int) < (t.size : Int) := by omega
            obtain ⟨rfl, E2⟩ := Prod.mk.inj (Option.some.inj H)
            obtain ⟨rfl, rfl⟩ := Prod.mk.inj E2
            clear H E2
            go_wp2
            go_meet
            exact ⟨rfl, rfl, rfl, trivial⟩
      case rest =>
        obtain ⟨rfl, rfl, rfl, rfl⟩ := hcut
        clear HL HCE
        cases us
        · go_wp2
          go_ret2
          exact ⟨rfl, hbel⟩
        · obtain ⟨ok, rfl, hok⟩ := HO.out rfl rfl
          have U1 := U ok hok
          clear U HO hok
          cases ok
          · go_wp2_with (go_at_call 142; refine (U1 _).mono ?_; rintro e w' ⟨rfl, rfl⟩)
            go_ret2
            exact ⟨rfl, hbel⟩
          · go_wp2_with (go_at_call 142; refine (U1 _).mono ?_; rintro e w' ⟨rfl, rfl⟩)
            go_ret2
            exact ⟨rfl, hbel⟩
end Go.Proofs.YtnggkkdcddpjlaaGreatDoor
