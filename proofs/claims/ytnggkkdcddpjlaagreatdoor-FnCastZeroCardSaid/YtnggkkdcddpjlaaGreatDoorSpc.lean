/- commonPrefixLenIgnoreCase, inf, nan, special: what they answer. -/
import Derived.Test.YtnggkkdcddpjlaaGreatDoorRnd
import Derived.Test.YtnggkkdcddpjlaaGreatDoorExt
namespace Go.Proofs.YtnggkkdcddpjlaaGreatDoor
set_option linter.unusedVariables false
set_option linter.unusedSimpArgs false
open Go.RowKit
def lcB (b : Nat) : Nat := if 65 ≤ b ∧ b ≤ 90 then b + 32 else b
def cpL (s p : ByteArray) (n : Nat) : Nat → Nat → Option Nat
  | 0, _ => none
  | f + 1, i => if i < n then (if lcB (sb s i) = sb p i then cpL s p n f (i + 1) else some i) else some n
set_option maxHeartbeats 2000000 in
theorem cp_calls (fF : Nat) (s p : ByteArray) (r : Nat) (w : World) (hs : s.size ≤ 1000) (hp : p.size ≤ 1000) (h : cpL s p (min p.size s.size) fF 0 = some r) :
    Calls Tryz.prog 199 #[.string s, .string p] w fun e w' => e = .returned (.int .i64 r) ∧ w = w' := by
  obtain ⟨n, hn⟩ : ∃ n, min p.size s.size = n := ⟨_, rfl⟩
  rw [hn] at h
  have A1 := Lib.hid h
  clear h
  have hn1 : n ≤ s.size := by omega
  have hn2 : n ≤ p.size := by omega
  have hm : min (p.size : Int) (s.size : Int) = (n : Int) := by omega
  clear hn
  go_enter Tryz.func199, Tryz.ntmps199
  go_wp2
  clear hm
  go_loopg [6] fF (fun f s6 wr => ∃ i : Nat, s6 = .int .i64 i ∧ i ≤ 1000 ∧ w = wr ∧ Aside (cpL s p n f i = some r))
  case atStart => exact ⟨0, rfl, by omega, rfl, A1.out⟩
  case round =>
    clear A1
    obtain ⟨i, rfl, hi, rfl, hA⟩ := hrel
    have H := hA.out
    clear hA
    cases gk with
    | zero => cases H
    | succ f =>
    rw [cpL] at H
    by_cases c1 : i < n
    rotate_left
    · rw [if_neg c1] at H
      have b1 : ¬ ((i : Int) < (n : Int)) := by omega
      obtain rfl := Option.some.inj H
      clear H
      go_wp2
      go_ret
      exact ⟨rfl, rfl⟩
    rw [if_pos c1] at H
    have b1 : (i : Int) < (n : Int) := by omega
    have b1s : (i : Int) < (s.size : Int) := by omega
    have b1p : (i : Int) < (p.size : Int) := by omega
    have hb := sb_at (s := s) (i := i) (by omega)
    have hc := sb_at (s := p) (i := i) (by omega)
    have hb2 := sb_lt s i
    generalize sb s i = b at *
    generalize sb p i = c at *
    have hl : lcB b = if 65 ≤ b ∧ b ≤ 90 then b + 32 else b := rfl
    generalize lcB b = b' at *
    by_cases c2 : 65 ≤ b ∧ b ≤ 90
    · rw [if_pos c2] at hl
      subst hl
      have b2 : decide ((65 : Int) ≤ (b : Int)) = true := decide_eq_true (by omega)
      have b3 : decide ((b : Int) ≤ 90) = true := decide_eq_true (by omega)
      have b2i : (b : Int) ≤ 90 := by omega
      by_cases c3 : b + 32 = c
      · rw [if_pos c3] at H
        have b4 : ((b : Int) + 32 != (c : Int)) = false := by rw [bne_eq_false_iff_eq]; omega
        have H' := Lib.hid H
        clear H c2 c3
        go_wp2
        go_roundg f
        case measure => omega
        case rel => exact ⟨i + 1, by go_num, by omega, rfl, H'.out⟩
      · rw [if_neg c3] at H
        have b4 : ((b : Int) + 32 != (c : Int)) = true := by rw [bne_iff_ne]; omega
        obtain rfl := Option.some.inj H
        clear H c2 c3
        go_wp2
        go_ret
        exact ⟨rfl, rfl⟩
    · rw [if_neg c2] at hl
      rw [hl] at H
      clear hl
      have ho : (decide ((65 : Int) ≤ (b : Int)) = true ∧ decide ((b : Int) ≤ 90) = false) ∨ decide ((65 : Int) ≤ (b : Int)) = false := by
        by_cases k : 65 ≤ b
        · exact Or.inl ⟨decide_eq_true (by omega), decide_eq_false (by omega)⟩
        · exact Or.inr (decide_eq_false (by omega))
      by_cases c3 : b = c
      · rw [if_pos c3] at H
        have b4 : ((b : Int) != (c : Int)) = false := by rw [bne_eq_false_iff_eq]; omega
        have H' := Lib.hid H
        clear H c2 c3
        rcases ho with ⟨o1, o2⟩ | o1
        all_goals
          go_wp2
          go_roundg f
          case measure => omega
          case rel => exact ⟨i + 1, by go_num, by omega, rfl, H'.out⟩
      · rw [if_neg c3] at H
        have b4 : ((b : Int) != (c : Int)) = true := by rw [bne_iff_ne]; omega
        obtain rfl := Option.some.inj H
        clear H c2 c3
        rcases ho with ⟨o1, o2⟩ | o1
        all_goals
          go_wp2
          go_ret
          exact ⟨rfl, rfl⟩
theorem inf_pos (w : World) : Calls Tryz.prog 200 #[.int .i64 1] w fun e w' => e = .returned (.float .f64 9218868437227405312) ∧ w = w' := by
  go_enter Tryz.func200, Tryz.ntmps200
  go_wp2
  go_ret
  exact ⟨rfl, rfl⟩
theorem inf_neg (w : World) : Calls Tryz.prog 200 #[.int .i64 (-1)] w fun e w' => e = .returned (.float .f64 18442240474082181120) ∧ w = w' := by
  go_enter Tryz.func200, Tryz.ntmps200
  go_wp2
  go_ret
  exact ⟨rfl, rfl⟩
theorem nan_calls (w : World) : Calls Tryz.prog 201 #[] w fun e w' => e = .returned (.float .f64 9221120237041090561) ∧ w = w' := by
  go_enter Tryz.func201, Tryz.ntmps201
  go_wp2
  go_ret
  exact ⟨rfl, rfl⟩
def infinityB : ByteArray := ⟨#[105, 110, 102, 105, 110, 105, 116, 121]⟩
def nanB : ByteArray := ⟨#[110, 97, 110]⟩
def spI (f : Nat) (t : ByteArray) (ng : Bool) (ns : Nat) : Option (Nat × Nat × Bool) :=
  (cpL t infinityB (min infinityB.size t.size) f 0).bind fun n =>
    if n ≤ 8 then
      (if 3 ≤ n then some (if ng = true then 18442240474082181120 else 9218868437227405312, ns + (if n = 8 then 8 else 3), true) else some (0, 0, false))
    else none
def spF (f : Nat) (s : ByteArray) : Option (Nat × Nat × Bool) :=
  if s.size = 0 then some (0, 0, false)
  else if sb s 0 = 43 then spI f (s.extract 1 s.size) false 1
  else if sb s 0 = 45 then spI f (s.extract 1 s.size) true 1
  else if sb s 0 = 105 ∨ sb s 0 = 73 then spI f s false 0
  else if sb s 0 = 110 ∨ sb s 0 = 78 then (cpL s nanB (min nanB.size s.size) f 0).bind fun n => if n = 3 then some (9221120237041090561, 3, true) else some (0, 0, false)
  else some (0, 0, false)
theorem cp_inf (f : Nat) (t : ByteArray) (n : Nat) (hs : t.size ≤ 1000) (h : cpL t infinityB (min infinityB.size t.size) f 0 = some n) (w : World) :
    Calls Tryz.prog 199 #[.string t, .string (ByteArray.mk #[105, 110, 102, 105, 110, 105, 116, 121])] w fun e w' => e = .returned (.int .i64 n) ∧ w' = w :=
  (cp_calls f t infinityB n w hs (by decide) h).mono fun e w' ⟨a, b⟩ => ⟨a, b.symm⟩
theorem cp_nan (f : Nat) (t : ByteArray) (n : Nat) (hs : t.size ≤ 1000) (h : cpL t nanB (min nanB.size t.size) f 0 = some n) (w : World) :
    Calls Tryz.prog 199 #[.string t, .string (ByteArray.mk #[110, 97, 110])] w fun e w' => e = .returned (.int .i64 n) ∧ w' = w :=
  (cp_calls f t nanB n w hs (by decide) h).mono fun e w' ⟨a, b⟩ => ⟨a, b.symm⟩
set_option maxHeartbeats 4000000 in
set_option maxRecDepth 100000 in
theorem sp_calls (f : Nat) (s : ByteArray) (x : Nat) (n : Nat) (ok : Bool) (w : World) (hs : s.size ≤ 1000) (h : spF f s = some (x, n, ok)) :
    Calls Tryz.prog 183 #[.string s] w fun e w' => e = .returned (.tuple #[.float .f64 x, .int .i64 n, .bool ok]) ∧ w = w' := by
  unfold spF at h
  by_cases c0 : s.size = 0
  · rw [if_pos c0] at h
    obtain ⟨rfl, h2⟩ := Prod.mk.inj (Option.some.inj h)
    obtain ⟨rfl, rfl⟩ := Prod.mk.inj h2
    clear h h2
    have hse : s = ByteArray.empty := ByteArray.size_eq_zero_iff.1 c0
    subst hse
    go_enter Tryz.func183, Tryz.ntmps183
    go_wp2
    go_ret3
    exact ⟨rfl, rfl⟩
  rw [if_neg c0] at h
  have hse : ¬ s = ByteArray.empty := by intro e; subst e; simp at c0
  have h0i : (0 : Int) < (s.size : Int) := by omega
  have h1i : (1 : Int) ≤ (s.size : Int) := by omega
  have hz0 : ((s.size : Int) == 0) = false := beq_eq_false_iff_ne.2 (by omega)
  have hb := sb_at (s := s) (i := 0) (by omega)
  have ht : (s.extract 1 s.size).size ≤ 1000 := by simp only [ByteArray.size_extract]; omega
  clear c0
  generalize sb s 0 = b at *
  -- the texts that may say infinity
  have key : ∀ (t : ByteArray) (ng : Bool) (ns : Nat), t.size ≤ 1000 → spI f t ng ns = some (x, n, ok) → ∃ m : Nat, (∀ w, Calls Tryz.prog 199 #[.string t, .string (ByteArray.mk #[105, 110, 102, 105, 110, 105, 116, 121])] w fun e w' => e = .returned (.int .i64 m) ∧ w' = w) ∧
      ((3 < m ∧ m < 8 ∧ ok = true ∧ n = ns + 3 ∧ x = if ng = true then 18442240474082181120 else 9218868437227405312) ∨ (m = 3 ∧ ok = true ∧ n = ns + 3 ∧ x = if ng = true then 18442240474082181120 else 9218868437227405312) ∨
       (m = 8 ∧ ok = true ∧ n = ns + 8 ∧ x = if ng = true then 18442240474082181120 else 9218868437227405312) ∨ (m < 3 ∧ ok = false ∧ n = 0 ∧ x = 0)) := by
    intro t ng ns hts hI
    unfold spI at hI
    obtain ⟨m, h1, h2⟩ := Option.bind_eq_some_iff.1 hI
    refine ⟨m, cp_inf f t m hts h1, ?_⟩
    by_cases k1 : m ≤ 8
    rotate_left
    · rw [if_neg k1] at h2; cases h2
    rw [if_pos k1] at h2
    by_cases k2 : 3 ≤ m
    · rw [if_pos k2] at h2
      obtain ⟨q1, q2⟩ := Prod.mk.inj (Option.some.inj h2)
      obtain ⟨q2, q3⟩ := Prod.mk.inj q2
      by_cases k3 : m = 8
      · rw [if_pos k3] at q2
        exact Or.inr (Or.inr (Or.inl ⟨k3, q3.symm, q2.symm, q1.symm⟩))
      · rw [if_neg k3] at q2
        by_cases k4 : m = 3
        · exact Or.inr (Or.inl ⟨k4, q3.symm, q2.symm, q1.symm⟩)
        · exact Or.inl ⟨by omega, by omega, q3.symm, q2.symm, q1.symm⟩
    · rw [if_neg k2] at h2
      obtain ⟨q1, q2⟩ := Prod.mk.inj (Option.some.inj h2)
      obtain ⟨q2, q3⟩ := Prod.mk.inj q2
      exact Or.inr (Or.inr (Or.inr ⟨by omega, q3.symm, q2.symm, q1.symm⟩))
  by_cases c1 : b = 43
  · rw [if_pos c1] at h
    have b43 : ((b : Int) == 43) = true := beq_iff_eq.2 (by omega)
    have b45 : ((b : Int) == 45) = false := beq_eq_false_iff_ne.2 (by omega)
    clear c1
    obtain ⟨m, hC, hm⟩ := key _ _ _ ht h
    clear key h
    rcases hm with ⟨k1, k2, rfl, rfl, rfl⟩ | ⟨rfl, rfl, rfl, rfl⟩ | ⟨rfl, rfl, rfl, rfl⟩ | ⟨k1, rfl, rfl, rfl⟩
    · have d1 : decide ((3 : Int) < (m : Int)) = true := decide_eq_true (by omega)
      have d2 : decide ((m : Int) < 8) = true := decide_eq_true (by omega)
      go_enter Tryz.func183, Tryz.ntmps183
      go_wp2_with (first | (go_at_call 199; refine (hC _).mono ?_; rintro e w' ⟨rfl, rfl⟩) | (go_at_call 200; refine (inf_pos _).mono ?_; rintro e w' ⟨rfl, rfl⟩) | (go_at_call 200; refine (inf_neg _).mono ?_; rintro e w' ⟨rfl, rfl⟩))
      go_ret3
      exact ⟨rfl, rfl⟩
    · go_enter Tryz.func183, Tryz.ntmps183
      go_wp2_with (first | (go_at_call 199; refine (hC _).mono ?_; rintro e w' ⟨rfl, rfl⟩) | (go_at_call 200; refine (inf_pos _).mono ?_; rintro e w' ⟨rfl, rfl⟩) | (go_at_call 200; refine (inf_neg _).mono ?_; rintro e w' ⟨rfl, rfl⟩))
      go_ret3
      exact ⟨rfl, rfl⟩
    · go_enter Tryz.func183, Tryz.ntmps183
      go_wp2_with (first | (go_at_call 199; refine (hC _).mono ?_; rintro e w' ⟨rfl, rfl⟩) | (go_at_call 200; refine (inf_pos _).mono ?_; rintro e w' ⟨rfl, rfl⟩) | (go_at_call 200; refine (inf_neg _).mono ?_; rintro e w' ⟨rfl, rfl⟩))
      go_ret3
      exact ⟨rfl, rfl⟩
    · have d1 : decide ((3 : Int) < (m : Int)) = false := decide_eq_false (by omega)
      have d2 : ((m : Int) == 3) = false := beq_eq_false_iff_ne.2 (by omega)
      have d3 : ((m : Int) == 8) = false := beq_eq_false_iff_ne.2 (by omega)
      go_enter Tryz.func183, Tryz.ntmps183
      go_wp2_with (first | (go_at_call 199; refine (hC _).mono ?_; rintro e w' ⟨rfl, rfl⟩) | (go_at_call 200; refine (inf_pos _).mono ?_; rintro e w' ⟨rfl, rfl⟩) | (go_at_call 200; refine (inf_neg _).mono ?_; rintro e w' ⟨rfl, rfl⟩))
      go_ret3
      exact ⟨rfl, rfl⟩
  rw [if_neg c1] at h
  have b43 : ((b : Int) == 43) = false := beq_eq_false_iff_ne.2 (by omega)
  by_cases c2 : b = 45
  · rw [if_pos c2] at h
    have b45 : ((b : Int) == 45) = true := beq_iff_eq.2 (by omega)
    clear c1 c2
    obtain ⟨m, hC, hm⟩ := key _ _ _ ht h
    clear key h
    rcases hm with ⟨k1, k2, rfl, rfl, rfl⟩ | ⟨rfl, rfl, rfl, rfl⟩ | ⟨rfl, rfl, rfl, rfl⟩ | ⟨k1, rfl, rfl, rfl⟩
    · have d1 : decide ((3 : Int) < (m : Int)) = true := decide_eq_true (by omega)
      have d2 : decide ((m : Int) < 8) = true := decide_eq_true (by omega)
      go_enter Tryz.func183, Tryz.ntmps183
      go_wp2_with (first | (go_at_call 199; refine (hC _).mono ?_; rintro e w' ⟨rfl, rfl⟩) | (go_at_call 200; refine (inf_pos _).mono ?_; rintro e w' ⟨rfl, rfl⟩) | (go_at_call 200; refine (inf_neg _).mono ?_; rintro e w' ⟨rfl, rfl⟩))
      go_ret3
      exact ⟨rfl, rfl⟩
    · go_enter Tryz.func183, Tryz.ntmps183
      go_wp2_with (first | (go_at_call 199; refine (hC _).mono ?_; rintro e w' ⟨rfl, rfl⟩) | (go_at_call 200; refine (inf_pos _).mono ?_; rintro e w' ⟨rfl, rfl⟩) | (go_at_call 200; refine (inf_neg _).mono ?_; rintro e w' ⟨rfl, rfl⟩))
      go_ret3
      exact ⟨rfl, rfl⟩
    · go_enter Tryz.func183, Tryz.ntmps183
      go_wp2_with (first | (go_at_call 199; refine (hC _).mono ?_; rintro e w' ⟨rfl, rfl⟩) | (go_at_call 200; refine (inf_pos _).mono ?_; rintro e w' ⟨rfl, rfl⟩) | (go_at_call 200; refine (inf_neg _).mono ?_; rintro e w' ⟨rfl, rfl⟩))
      go_ret3
      exact ⟨rfl, rfl⟩
    · have d1 : decide ((3 : Int) < (m : Int)) = false := decide_eq_false (by omega)
      have d2 : ((m : Int) == 3) = false := beq_eq_false_iff_ne.2 (by omega)
      have d3 : ((m : Int) == 8) = false := beq_eq_false_iff_ne.2 (by omega)
      go_enter Tryz.func183, Tryz.ntmps183
      go_wp2_with (first | (go_at_call 199; refine (hC _).mono ?_; rintro e w' ⟨rfl, rfl⟩) | (go_at_call 200; refine (inf_pos _).mono ?_; rintro e w' ⟨rfl, rfl⟩) | (go_at_call 200; refine (inf_neg _).mono ?_; rintro e w' ⟨rfl, rfl⟩))
      go_ret3
      exact ⟨rfl, rfl⟩
  rw [if_neg c2] at h
  have b45 : ((b : Int) == 45) = false := beq_eq_false_iff_ne.2 (by omega)
  by_cases c3 : b = 105 ∨ b = 73
  · rw [if_pos c3] at h
    obtain ⟨m, hC, hm⟩ := key _ _ _ hs h
    clear key h
    rcases c3 with c3 | c3
    · have b105 : ((b : Int) == 105) = true := beq_iff_eq.2 (by omega)
      clear c1 c2 c3
      rcases hm with ⟨k1, k2, rfl, rfl, rfl⟩ | ⟨rfl, rfl, rfl, rfl⟩ | ⟨rfl, rfl, rfl, rfl⟩ | ⟨k1, rfl, rfl, rfl⟩
      · have d1 : decide ((3 : Int) < (m : Int)) = true := decide_eq_true (by omega)
        have d2 : decide ((m : Int) < 8) = true := decide_eq_true (by omega)
        go_enter Tryz.func183, Tryz.ntmps183
        go_wp2_with (first | (go_at_call 199; refine (hC _).mono ?_; rintro e w' ⟨rfl, rfl⟩) | (go_at_call 200; refine (inf_pos _).mono ?_; rintro e w' ⟨rfl, rfl⟩) | (go_at_call 200; refine (inf_neg _).mono ?_; rintro e w' ⟨rfl, rfl⟩))
        go_ret3
        exact ⟨rfl, rfl⟩
      · go_enter Tryz.func183, Tryz.ntmps183
        go_wp2_with (first | (go_at_call 199; refine (hC _).mono ?_; rintro e w' ⟨rfl, rfl⟩) | (go_at_call 200; refine (inf_pos _).mono ?_; rintro e w' ⟨rfl, rfl⟩) | (go_at_call 200; refine (inf_neg _).mono ?_; rintro e w' ⟨rfl, rfl⟩))
        go_ret3
        exact ⟨rfl, rfl⟩
      · go_enter Tryz.func183, Tryz.ntmps183
        go_wp2_with (first | (go_at_call 199; refine (hC _).mono ?_; rintro e w' ⟨rfl, rfl⟩) | (go_at_call 200; refine (inf_pos _).mono ?_; rintro e w' ⟨rfl, rfl⟩) | (go_at_call 200; refine (inf_neg _).mono ?_; rintro e w' ⟨rfl, rfl⟩))
        go_ret3
        exact ⟨rfl, rfl⟩
      · have d1 : decide ((3 : Int) < (m : Int)) = false := decide_eq_false (by omega)
        have d2 : ((m : Int) == 3) = false := beq_eq_false_iff_ne.2 (by omega)
        have d3 : ((m : Int) == 8) = false := beq_eq_false_iff_ne.2 (by omega)
        go_enter Tryz.func183, Tryz.ntmps183
        go_wp2_with (first | (go_at_call 199; refine (hC _).mono ?_; rintro e w' ⟨rfl, rfl⟩) | (go_at_call 200; refine (inf_pos _).mono ?_; rintro e w' ⟨rfl, rfl⟩) | (go_at_call 200; refine (inf_neg _).mono ?_; rintro e w' ⟨rfl, rfl⟩))
        go_ret3
        exact ⟨rfl, rfl⟩
    · have b105 : ((b : Int) == 105) = false := beq_eq_false_iff_ne.2 (by omega)
      have b73 : ((b : Int) == 73) = true := beq_iff_eq.2 (by omega)
      clear c1 c2 c3
      rcases hm with ⟨k1, k2, rfl, rfl, rfl⟩ | ⟨rfl, rfl, rfl, rfl⟩ | ⟨rfl, rfl, rfl, rfl⟩ | ⟨k1, rfl, rfl, rfl⟩
      · have d1 : decide ((3 : Int) < (m : Int)) = true := decide_eq_true (by omega)
        have d2 : decide ((m : Int) < 8) = true := decide_eq_true (by omega)
        go_enter Tryz.func183, Tryz.ntmps183
        go_wp2_with (first | (go_at_call 199; refine (hC _).mono ?_; rintro e w' ⟨rfl, rfl⟩) | (go_at_call 200; refine (inf_pos _).mono ?_; rintro e w' ⟨rfl, rfl⟩) | (go_at_call 200; refine (inf_neg _).mono ?_; rintro e w' ⟨rfl, rfl⟩))
        go_ret3
        exact ⟨rfl, rfl⟩
      · go_enter Tryz.func183, Tryz.ntmps183
        go_wp2_with (first | (go_at_call 199; refine (hC _).mono ?_; rintro e w' ⟨rfl, rfl⟩) | (go_at_call 200; refine (inf_pos _).mono ?_; rintro e w' ⟨rfl, rfl⟩) | (go_at_call 200; refine (inf_neg _).mono ?_; rintro e w' ⟨rfl, rfl⟩))
        go_ret3
        exact ⟨rfl, rfl⟩
      · go_enter Tryz.func183, Tryz.ntmps183
        go_wp2_with (first | (go_at_call 199; refine (hC _).mono ?_; rintro e w' ⟨rfl, rfl⟩) | (go_at_call 200; refine (inf_pos _).mono ?_; rintro e w' ⟨rfl, rfl⟩) | (go_at_call 200; refine (inf_neg _).mono ?_; rintro e w' ⟨rfl, rfl⟩))
        go_ret3
        exact ⟨rfl, rfl⟩
      · have d1 : decide ((3 : Int) < (m : Int)) = false := decide_eq_false (by omega)
        have d2 : ((m : Int) == 3) = false := beq_eq_false_iff_ne.2 (by omega)
        have d3 : ((m : Int) == 8) = false := beq_eq_false_iff_ne.2 (by omega)
        go_enter Tryz.func183, Tryz.ntmps183
        go_wp2_with (first | (go_at_call 199; refine (hC _).mono ?_; rintro e w' ⟨rfl, rfl⟩) | (go_at_call 200; refine (inf_pos _).mono ?_; rintro e w' ⟨rfl, rfl⟩) | (go_at_call 200; refine (inf_neg _).mono ?_; rintro e w' ⟨rfl, rfl⟩))
        go_ret3
        exact ⟨rfl, rfl⟩
  rw [if_neg c3] at h
  have b105 : ((b : Int) == 105) = false := beq_eq_false_iff_ne.2 (by omega)
  have b73 : ((b : Int) == 73) = false := beq_eq_false_iff_ne.2 (by omega)
  clear key
  by_cases c4 : b = 110 ∨ b = 78
  · rw [if_pos c4] at h
    obtain ⟨m, h1, h2⟩ := Option.bind_eq_some_iff.1 h
    have hC := cp_nan f s m hs h1
    clear h h1
    have hc : (((b : Int) == 110) = true) ∨ (((b : Int) == 110) = false ∧ ((b : Int) == 78) = true) := by
      rcases c4 with k | k
      · exact Or.inl (beq_iff_eq.2 (by omega))
      · exact Or.inr ⟨beq_eq_false_iff_ne.2 (by omega), beq_iff_eq.2 (by omega)⟩
    clear c1 c2 c3 c4
    by_cases c5 : m = 3
    · rw [if_pos c5] at h2
      obtain ⟨rfl, h3⟩ := Prod.mk.inj (Option.some.inj h2)
      obtain ⟨rfl, rfl⟩ := Prod.mk.inj h3
      subst c5
      clear h2 h3
      rcases hc with k | ⟨k, k'⟩
      all_goals
        go_enter Tryz.func183, Tryz.ntmps183
        go_wp2_with (first | (go_at_call 199; refine (hC _).mono ?_; rintro e w' ⟨rfl, rfl⟩) | (go_at_call 201; refine (nan_calls _).mono ?_; rintro e w' ⟨rfl, rfl⟩))
        go_ret3
        exact ⟨rfl, rfl⟩
    · rw [if_neg c5] at h2
      obtain ⟨rfl, h3⟩ := Prod.mk.inj (Option.some.inj h2)
      obtain ⟨rfl, rfl⟩ := Prod.mk.inj h3
      have d2 : ((m : Int) == 3) = false := beq_eq_false_iff_ne.2 (by omega)
      clear h2 h3 c5
      rcases hc with k | ⟨k, k'⟩
      all_goals
        go_enter Tryz.func183, Tryz.ntmps183
        go_wp2_with (first | (go_at_call 199; refine (hC _).mono ?_; rintro e w' ⟨rfl, rfl⟩) | (go_at_call 201; refine (nan_calls _).mono ?_; rintro e w' ⟨rfl, rfl⟩))
        go_ret3
        exact ⟨rfl, rfl⟩
  · rw [if_neg c4] at h
    obtain ⟨rfl, h3⟩ := Prod.mk.inj (Option.some.inj h)
    obtain ⟨rfl, rfl⟩ := Prod.mk.inj h3
    have b110 : ((b : Int) == 110) = false := beq_eq_false_iff_ne.2 (by omega)
    have b78 : ((b : Int) == 78) = false := beq_eq_false_iff_ne.2 (by omega)
    clear h h3 c1 c2 c3 c4
    go_enter Tryz.func183, Tryz.ntmps183
    go_wp2
    go_ret3
    exact ⟨rfl, rfl⟩
end Go.Proofs.YtnggkkdcddpjlaaGreatDoor
