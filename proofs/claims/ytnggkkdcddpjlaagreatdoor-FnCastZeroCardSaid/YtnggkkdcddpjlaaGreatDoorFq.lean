/- The shortest digits of a finite float: they are there. No program is read. -/
import Derived.Test.YtnggkkdcddpjlaaGreatDoorFtb
import Derived.Test.YtnggkkdcddpjlaaGreatDoorFp
namespace Go.Proofs.YtnggkkdcddpjlaaGreatDoor
set_option linter.unusedVariables false
set_option linter.unusedSimpArgs false
open Go.RowKit
theorem pw_tab : ∀ q, q < 696 → 9223372036854775808 ≤ pwHi q := by
  have key : (List.range 696).all (fun q => decide (9223372036854775808 ≤ pwHi q)) = true := by kernel_rfl
  intro q hq
  have := List.all_eq_true.1 key q (List.mem_range.2 hq)
  exact of_decide_eq_true this
theorem bits64_01 (u : Nat) : 0 ≤ bits .and .u64 ((u : Int) / 4) 1 ∧ bits .and .u64 ((u : Int) / 4) 1 ≤ 1 := by
  have key : ∀ a : BitVec 64, (a &&& 1#64).toNat ≤ 1 := by
    intro a
    rw [BitVec.toNat_and]
    exact Nat.le_trans Nat.and_le_right (by decide)
  have h := key (BitVec.ofInt 64 ((u : Int) / 4))
  have e : bits .and .u64 ((u : Int) / 4) 1 = IntKind.u64.wrap ((BitVec.ofInt 64 ((u : Int) / 4) &&& 1#64).toNat : Int) := rfl
  rw [e, IntKind.wrap_u64]
  omega
theorem or_ge (a b : Nat) : a ≤ a ||| b := Nat.left_le_or
/-- The scaled number lies between these. -/
theorem usF_b (C : Nat) (hC : C = 1152921504606846976) (x hi lo k a : Nat) (hx : x < 18446744073709551616) (hh : hi < 18446744073709551616) (hk3 : 3 ≤ k) (hk : k ≤ 60) (ha : (a + 1) * C ≤ x * hi / 18446744073709551616 + 1) (ha1 : 1 ≤ a) :
    a ≤ usF x hi lo k ∧ usF x hi lo k < 2305843009213693952 := by
  have hq := hi_lt 18446744073709551616 x hi hx hh
  have h0 : 0 < 2 ^ k := Nat.two_pow_pos _
  have h60 : 2 ^ k ≤ C := by
    rw [hC]
    calc 2 ^ k ≤ 2 ^ 60 := Nat.pow_le_pow_right (by omega) hk
      _ = _ := by decide
  have h8 : 8 ≤ 2 ^ k := by
    calc 8 = 2 ^ 3 := rfl
      _ ≤ _ := Nat.pow_le_pow_right (by omega) hk3
  have up : ∀ y, y < 18446744073709551616 → y / 2 ^ k < 2305843009213693952 := by
    intro y hy
    rw [Nat.div_lt_iff_lt_mul h0]
    calc y < 2305843009213693952 * 8 := by omega
      _ ≤ _ := Nat.mul_le_mul_left _ h8
  have lwb : ∀ y, a * C ≤ y → a ≤ y / 2 ^ k := by
    intro y hy
    rw [Nat.le_div_iff_mul_le h0]
    exact Nat.le_trans (Nat.mul_le_mul_left _ h60) hy
  have e61 : (2 : Nat) ^ 61 = 2305843009213693952 := by decide
  have orl : ∀ y z, y < 2305843009213693952 → z < 2 → y ||| z < 2305843009213693952 := by
    intro y z hy hz
    rw [← e61] at hy ⊢
    exact Nat.or_lt_two_pow hy (by rw [e61]; omega)
  unfold usF
  generalize x * hi / 18446744073709551616 = h at *
  have hlo : a * C + 1 ≤ h := by
    rw [Nat.succ_mul] at ha
    omega
  by_cases c : h / 2 ^ k * 2 ^ k ≠ h
  · rw [if_pos c]
    exact ⟨Nat.le_trans (lwb h (by omega)) (or_ge _ _), orl _ _ (up h hq) (by omega)⟩
  · rw [if_neg c]
    obtain ⟨b, hb, hb2⟩ : ∃ b : Int, (if x * hi % 18446744073709551616 < x * lo / 18446744073709551616 then (1 : Int) else 0) = b ∧ (b = 0 ∨ b = 1) := ⟨_, rfl, by split <;> simp⟩
    rw [hb]
    have hw : wr ((h : Int) - b) = h - b.toNat := by
      unfold wr; rw [IntKind.wrap_u64]; omega
    rw [hw]
    have hbn : b.toNat ≤ 1 := by omega
    refine ⟨Nat.le_trans (lwb _ (by omega)) (or_ge _ _), orl _ _ (up _ (by omega)) (by split <;> omega)⟩
theorem hi_ge (x hi a : Nat) (hx : a ≤ x) (hh : 9223372036854775808 ≤ hi) : a / 2 ≤ x * hi / 18446744073709551616 := by
  have h1 : a * 9223372036854775808 ≤ x * hi := Nat.mul_le_mul hx hh
  have h2 : a * 9223372036854775808 / 18446744073709551616 ≤ x * hi / 18446744073709551616 := Nat.div_le_div_right h1
  have h3 : a / 2 = a * 9223372036854775808 / 18446744073709551616 := by omega
  omega
theorem rdU_b (u : Nat) (h : 3 ≤ u) (h2 : u < 2305843009213693952) : 1 ≤ rdU u ∧ rdU u < 2305843009213693952 := by
  have hb := bits64_01 u
  unfold rdU
  have e1 : wr ((u : Int) + 1) = u + 1 := by unfold wr; rw [IntKind.wrap_u64]; omega
  rw [e1]
  generalize bits .and .u64 ((u : Int) / 4) 1 = b at *
  have e2 : wr (((u + 1 : Nat) : Int) + b) = u + 1 + b.toNat := by unfold wr; rw [IntKind.wrap_u64]; omega
  rw [e2]
  omega
/-- The digits are there, and few. -/
theorem sfD_b (m mn mx : Nat) (e p od : Int) (hm0 : 9223372036854775808 ≤ m) (hm : m < 18446744073709551616) (hn0 : 4611686018427387904 ≤ mn) (hn : mn < 18446744073709551616) (o0 : 0 ≤ od) (o1 : od ≤ 1)
    (p0 : -348 ≤ p) (p1 : p ≤ 347) (k0 : 3 ≤ -(e + p * 108853 / 32768 + 3)) (k1 : -(e + p * 108853 / 32768 + 3) ≤ 60) :
    1 ≤ (sfD m mn mx e p od).1 ∧ (sfD m mn mx e p od).1 < 18446744073709551616 ∧ -900 ≤ (sfD m mn mx e p od).2 ∧ (sfD m mn mx e p od).2 ≤ 900 := by
  have hq : sfQ p < 696 := by unfold sfQ; omega
  have ht := pw_tab (sfQ p) hq
  have hl := (pw_lt (sfQ p)).1
  have K3 : 3 ≤ sfK e p := by unfold sfK; omega
  have K60 : sfK e p ≤ 60 := by unfold sfK; omega
  have h1 := hi_ge mn (pwHi (sfQ p)) 4611686018427387904 hn0 ht
  have h2 := hi_ge m (pwHi (sfQ p)) 9223372036854775808 hm0 ht
  have U1 := usF_b 1152921504606846976 rfl mn (pwHi (sfQ p)) (pwLo (sfQ p)) (sfK e p) 1 hn hl K3 K60 (by omega) (by omega)
  have U2 := usF_b 1152921504606846976 rfl m (pwHi (sfQ p)) (pwLo (sfQ p)) (sfK e p) 3 hm hl K3 K60 (by omega) (by omega)
  have R := rdU_b (sfU m e p) U2.1 U2.2
  have hdn : 1 ≤ sfDn mn e p od ∧ sfDn mn e p od < 4611686018427387904 := by
    unfold sfDn ceU
    have h3 : 1 ≤ sfU mn e p ∧ sfU mn e p < 2305843009213693952 := U1
    generalize sfU mn e p = u at *
    have e0 : wr od = od.toNat := by unfold wr; rw [IntKind.wrap_u64]; omega
    rw [e0]
    have e1 : wr ((u : Int) + (od.toNat : Nat)) = u + od.toNat := by unfold wr; rw [IntKind.wrap_u64]; omega
    rw [e1]
    have e2 : wr (((u + od.toNat : Nat) : Int) + 3) = u + od.toNat + 3 := by unfold wr; rw [IntKind.wrap_u64]; omega
    rw [e2]
    omega
  have hdx : sfDx mx e p od < 4611686018427387904 := by
    unfold sfDx
    have := wr_lt ((sfU mx e p : Int) + wr (-od))
    omega
  unfold sfD
  generalize sfDn mn e p od = dn at *
  generalize sfDx mx e p od = dx at *
  by_cases c1 : dn ≤ dx / 10 * 10
  · rw [if_pos c1]; dsimp only; omega
  rw [if_neg c1]
  by_cases c2 : dn < dx
  · rw [if_pos c2]; dsimp only; omega
  · rw [if_neg c2]; dsimp only; omega
theorem p62 (n : Nat) (h : n ≤ 62) : (1 : Int) ≤ 2 ^ n ∧ (2 : Int) ^ n ≤ 4611686018427387904 := by
  have h1 : 1 ≤ 2 ^ n := Nat.two_pow_pos n
  have h2 : 2 ^ n ≤ 4611686018427387904 := by
    calc 2 ^ n ≤ 2 ^ 62 := Nat.pow_le_pow_right (by omega) h
      _ = _ := by decide
  have e : (2 : Int) ^ n = ((2 ^ n : Nat) : Int) := by rw [Int.natCast_pow]; rfl
  rw [e]; omega
theorem blen_aux : ∀ (k n : Nat), n ≠ 0 → n < 2 ^ k → k ≤ 64 → 1 ≤ Lib.bitLen n ∧ 2 ^ (Lib.bitLen n - 1) ≤ n ∧ n < 2 ^ Lib.bitLen n := by
  intro k
  induction k with
  | zero => intro n h1 h2; simp at h2; omega
  | succ k ih =>
    intro n h1 h2 h3
    have h64 : n < 2 ^ 64 := Nat.lt_of_lt_of_le h2 (Nat.pow_le_pow_right (by omega) h3)
    rw [Lib.bitLen_half n h1 h64]
    by_cases c : n = 1
    · subst c; decide
    · have hp : 2 ^ (k + 1) = 2 * 2 ^ k := by rw [Nat.pow_succ, Nat.mul_comm]
      obtain ⟨a1, a2, a3⟩ := ih (n / 2) (by omega) (by omega) (by omega)
      generalize Lib.bitLen (n / 2) = b at *
      have e1 : 2 ^ (1 + b) = 2 * 2 ^ b := by rw [Nat.add_comm, Nat.pow_succ, Nat.mul_comm]
      have e2 : 2 ^ b = 2 * 2 ^ (b - 1) := by rw [show b = b - 1 + 1 from by omega, Nat.pow_succ, Nat.mul_comm]; simp
      refine ⟨by omega, ?_, by omega⟩
      rw [Nat.add_sub_cancel_left]
      omega
theorem blen (n : Nat) (h : n ≠ 0) (hn : n < 18446744073709551616) : ∃ b, Lib.bitLen n = b ∧ 1 ≤ b ∧ 2 ^ (b - 1) ≤ n ∧ n < 2 ^ b :=
  ⟨_, rfl, blen_aux 64 n h (by rw [show (2 : Nat) ^ 64 = 18446744073709551616 from by decide]; exact hn) (by omega)⟩
theorem sfT157_more (m : Nat) (e : Int) (hm0 : 9223372036854775808 ≤ m) (hm : m < 18446744073709551616) (he0 : (-1137) ≤ e) (he1 : e ≤ 1000) (p mn mx od : Int) (h : sfT157 m e = (p, mn, mx, od)) :
    4611686018427387904 ≤ mn ∧ 3 ≤ -(e + p * 108853 / 32768 + 3) ∧ -(e + p * 108853 / 32768 + 3) ≤ 60 := by
  unfold sfT157 at h
  by_cases c1 : (-1085) ≤ e
  · rw [if_pos c1] at h
    by_cases c2 : m = 9223372036854775808 ∧ (-1085) < e
    · rw [if_pos c2] at h
      simp only [Prod.mk.injEq] at h
      obtain ⟨rfl, rfl, rfl, rfl⟩ := h
      omega
    · rw [if_neg c2] at h
      simp only [Prod.mk.injEq] at h
      obtain ⟨rfl, rfl, rfl, rfl⟩ := h
      clear c2
      omega
  · rw [if_neg c1] at h
    simp only [Prod.mk.injEq] at h
    obtain ⟨rfl, rfl, rfl, rfl⟩ := h
    have hp := p62 ((11 + ((-1085) - e)).toNat - 1) (by omega)
    generalize (2 : Int) ^ ((11 + ((-1085) - e)).toNat - 1) = t at *
    refine ⟨?_, by omega, by omega⟩
    rw [IntKind.wrap_u64, IntKind.wrap_u64]
    omega
theorem sfF157_b (m : Nat) (e : Int) (hm0 : 9223372036854775808 ≤ m) (hm : m < 18446744073709551616) (he0 : (-1137) ≤ e) (he1 : e ≤ 1000) :
    1 ≤ (sfF157 m e).1 ∧ (sfF157 m e).1 < 18446744073709551616 ∧ -900 ≤ (sfF157 m e).2 ∧ (sfF157 m e).2 ≤ 900 := by
  obtain ⟨p, mn, mx, od, hT⟩ : ∃ p mn mx od, sfT157 m e = (p, mn, mx, od) := ⟨_, _, _, _, rfl⟩
  obtain ⟨n0, n1, x0, x1, o0, o1, p0, p1, k0, k1⟩ := sfT157_ok m e hm0 hm he0 he1 p mn mx od hT
  obtain ⟨a, b, c⟩ := sfT157_more m e hm0 hm he0 he1 p mn mx od hT
  unfold sfF157
  rw [hT]
  exact sfD_b m mn.toNat mx.toNat e p od hm0 hm (by omega) (by omega) o0 o1 p0 p1 b c
theorem ft126_some (x : Nat) (hE : ftE126 x < 2047) :
    (1 ≤ (ftR126 x).1 ∧ (ftR126 x).1 < 18446744073709551616 ∧ -900 ≤ (ftR126 x).2 ∧ (ftR126 x).2 ≤ 900 ∨ ftM126 x = 0) ∧
    (9223372036854775808 ≤ ftM126 x * 2 ^ ftS126 x ∧ ftM126 x * 2 ^ ftS126 x < 18446744073709551616 ∨ ftM126 x = 0) := by
  by_cases c0 : ftM126 x = 0
  · exact ⟨Or.inr c0, Or.inr c0⟩
  have hM : ftM126 x < 4503599627370496 * 2 := by unfold ftM126; split <;> omega
  have hX : (-1022) ≤ ftX126 x ∧ ftX126 x ≤ 1023 ∧ (ftE126 x ≠ 0 → 4503599627370496 ≤ ftM126 x) ∧ (ftE126 x = 0 → ftX126 x = (-1022)) := by
    unfold ftX126 ftM126
    by_cases h : ftE126 x = 0
    · rw [if_pos h, if_pos h]; exact ⟨by omega, by omega, fun h2 => absurd h h2, fun _ => by omega⟩
    · rw [if_neg h, if_neg h]; exact ⟨by omega, by omega, fun _ => by omega, fun h2 => absurd h2 h⟩
  obtain ⟨mt, hmt⟩ : ∃ mt, ftM126 x = mt := ⟨_, rfl⟩
  have hS : ftS126 x = 64 - Lib.bitLen mt := by unfold ftS126; rw [hmt]
  have hR : ftR126 x = sfF157 (mt * 2 ^ (64 - Lib.bitLen mt)) (ftX126 x - ((64 - Lib.bitLen mt : Nat) : Int) - 52) := by unfold ftR126 ftS126; rw [hmt]
  rw [hS]
  rw [hmt] at c0 hM hX ⊢
  obtain ⟨b, hb, hb1, hb2, hb3⟩ := blen mt c0 (by omega)
  rw [hb] at hR ⊢
  have hb64 : b ≤ 52 + 1 := by
    apply Nat.le_of_not_lt
    intro hlt
    have : 2 ^ (52 + 1) ≤ 2 ^ (b - 1) := Nat.pow_le_pow_right (by omega) (by omega)
    have e : (2 : Nat) ^ (52 + 1) = 4503599627370496 * 2 := by decide
    omega
  have hbig : ftE126 x ≠ 0 → b = 52 + 1 := by
    intro h
    have h1 := hX.2.2.1 h
    apply Nat.le_antisymm hb64
    apply Nat.le_of_not_lt
    intro hlt
    have : 2 ^ b ≤ 2 ^ 52 := Nat.pow_le_pow_right (by omega) (by omega)
    have e : (2 : Nat) ^ 52 = 4503599627370496 := by decide
    omega
  have hlo : 9223372036854775808 ≤ mt * 2 ^ (64 - b) := by
    calc 9223372036854775808 = 2 ^ 63 := by decide
      _ = 2 ^ (b - 1) * 2 ^ (64 - b) := by rw [← Nat.pow_add]; congr 1; omega
      _ ≤ _ := Nat.mul_le_mul_right _ hb2
  have hhi : mt * 2 ^ (64 - b) < 18446744073709551616 := by
    calc mt * 2 ^ (64 - b) < 2 ^ b * 2 ^ (64 - b) := Nat.mul_lt_mul_of_pos_right hb3 (Nat.two_pow_pos _)
      _ = 2 ^ 64 := by rw [← Nat.pow_add]; congr 1; omega
      _ = _ := by decide
  refine ⟨Or.inl ?_, Or.inl ⟨hlo, hhi⟩⟩
  rw [hR]
  refine sfF157_b _ _ hlo hhi ?_ ?_
  · by_cases h : ftE126 x = 0
    · have := hX.2.2.2 h; omega
    · have := hbig h; omega
  · omega
theorem sfT150_more (m : Nat) (e : Int) (hm0 : 9223372036854775808 ≤ m) (hm : m < 18446744073709551616) (he0 : (-212) ≤ e) (he1 : e ≤ 1000) (p mn mx od : Int) (h : sfT150 m e = (p, mn, mx, od)) :
    4611686018427387904 ≤ mn ∧ 3 ≤ -(e + p * 108853 / 32768 + 3) ∧ -(e + p * 108853 / 32768 + 3) ≤ 60 := by
  unfold sfT150 at h
  by_cases c1 : (-189) ≤ e
  · rw [if_pos c1] at h
    by_cases c2 : m = 9223372036854775808 ∧ (-189) < e
    · rw [if_pos c2] at h
      simp only [Prod.mk.injEq] at h
      obtain ⟨rfl, rfl, rfl, rfl⟩ := h
      omega
    · rw [if_neg c2] at h
      simp only [Prod.mk.injEq] at h
      obtain ⟨rfl, rfl, rfl, rfl⟩ := h
      clear c2
      omega
  · rw [if_neg c1] at h
    simp only [Prod.mk.injEq] at h
    obtain ⟨rfl, rfl, rfl, rfl⟩ := h
    have hp := p62 ((40 + ((-189) - e)).toNat - 1) (by omega)
    generalize (2 : Int) ^ ((40 + ((-189) - e)).toNat - 1) = t at *
    refine ⟨?_, by omega, by omega⟩
    rw [IntKind.wrap_u64, IntKind.wrap_u64]
    omega
theorem sfF150_b (m : Nat) (e : Int) (hm0 : 9223372036854775808 ≤ m) (hm : m < 18446744073709551616) (he0 : (-212) ≤ e) (he1 : e ≤ 1000) :
    1 ≤ (sfF150 m e).1 ∧ (sfF150 m e).1 < 18446744073709551616 ∧ -900 ≤ (sfF150 m e).2 ∧ (sfF150 m e).2 ≤ 900 := by
  obtain ⟨p, mn, mx, od, hT⟩ : ∃ p mn mx od, sfT150 m e = (p, mn, mx, od) := ⟨_, _, _, _, rfl⟩
  obtain ⟨n0, n1, x0, x1, o0, o1, p0, p1, k0, k1⟩ := sfT150_ok m e hm0 hm he0 he1 p mn mx od hT
  obtain ⟨a, b, c⟩ := sfT150_more m e hm0 hm he0 he1 p mn mx od hT
  unfold sfF150
  rw [hT]
  exact sfD_b m mn.toNat mx.toNat e p od hm0 hm (by omega) (by omega) o0 o1 p0 p1 b c
theorem ft125_some (x : Nat) (hE : ftE125 x < 255) :
    (1 ≤ (ftR125 x).1 ∧ (ftR125 x).1 < 18446744073709551616 ∧ -900 ≤ (ftR125 x).2 ∧ (ftR125 x).2 ≤ 900 ∨ ftM125 x = 0) ∧
    (9223372036854775808 ≤ ftM125 x * 2 ^ ftS125 x ∧ ftM125 x * 2 ^ ftS125 x < 18446744073709551616 ∨ ftM125 x = 0) := by
  by_cases c0 : ftM125 x = 0
  · exact ⟨Or.inr c0, Or.inr c0⟩
  have hM : ftM125 x < 8388608 * 2 := by unfold ftM125; split <;> omega
  have hX : (-126) ≤ ftX125 x ∧ ftX125 x ≤ 127 ∧ (ftE125 x ≠ 0 → 8388608 ≤ ftM125 x) ∧ (ftE125 x = 0 → ftX125 x = (-126)) := by
    unfold ftX125 ftM125
    by_cases h : ftE125 x = 0
    · rw [if_pos h, if_pos h]; exact ⟨by omega, by omega, fun h2 => absurd h h2, fun _ => by omega⟩
    · rw [if_neg h, if_neg h]; exact ⟨by omega, by omega, fun _ => by omega, fun h2 => absurd h2 h⟩
  obtain ⟨mt, hmt⟩ : ∃ mt, ftM125 x = mt := ⟨_, rfl⟩
  have hS : ftS125 x = 64 - Lib.bitLen mt := by unfold ftS125; rw [hmt]
  have hR : ftR125 x = sfF150 (mt * 2 ^ (64 - Lib.bitLen mt)) (ftX125 x - ((64 - Lib.bitLen mt : Nat) : Int) - 23) := by unfold ftR125 ftS125; rw [hmt]
  rw [hS]
  rw [hmt] at c0 hM hX ⊢
  obtain ⟨b, hb, hb1, hb2, hb3⟩ := blen mt c0 (by omega)
  rw [hb] at hR ⊢
  have hb64 : b ≤ 23 + 1 := by
    apply Nat.le_of_not_lt
    intro hlt
    have : 2 ^ (23 + 1) ≤ 2 ^ (b - 1) := Nat.pow_le_pow_right (by omega) (by omega)
    have e : (2 : Nat) ^ (23 + 1) = 8388608 * 2 := by decide
    omega
  have hbig : ftE125 x ≠ 0 → b = 23 + 1 := by
    intro h
    have h1 := hX.2.2.1 h
    apply Nat.le_antisymm hb64
    apply Nat.le_of_not_lt
    intro hlt
    have : 2 ^ b ≤ 2 ^ 23 := Nat.pow_le_pow_right (by omega) (by omega)
    have e : (2 : Nat) ^ 23 = 8388608 := by decide
    omega
  have hlo : 9223372036854775808 ≤ mt * 2 ^ (64 - b) := by
    calc 9223372036854775808 = 2 ^ 63 := by decide
      _ = 2 ^ (b - 1) * 2 ^ (64 - b) := by rw [← Nat.pow_add]; congr 1; omega
      _ ≤ _ := Nat.mul_le_mul_right _ hb2
  have hhi : mt * 2 ^ (64 - b) < 18446744073709551616 := by
    calc mt * 2 ^ (64 - b) < 2 ^ b * 2 ^ (64 - b) := Nat.mul_lt_mul_of_pos_right hb3 (Nat.two_pow_pos _)
      _ = 2 ^ 64 := by rw [← Nat.pow_add]; congr 1; omega
      _ = _ := by decide
  refine ⟨Or.inl ?_, Or.inl ⟨hlo, hhi⟩⟩
  rw [hR]
  refine sfF150_b _ _ hlo hhi ?_ ?_
  · by_cases h : ftE125 x = 0
    · have := hX.2.2.2 h; omega
    · have := hbig h; omega
  · omega
end Go.Proofs.YtnggkkdcddpjlaaGreatDoor
