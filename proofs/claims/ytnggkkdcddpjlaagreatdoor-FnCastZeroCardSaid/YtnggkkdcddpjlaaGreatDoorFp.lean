/- Bounded floats: their conversions are defined. No program is read. -/
import Derived.Test.YtnggkkdcddpjlaaGreatDoorFl
import Derived.Laws.FloatArith
import Derived.Laws.Cover2
namespace Go.Proofs.YtnggkkdcddpjlaaGreatDoor
set_option linter.unusedVariables false
set_option linter.unusedSimpArgs false
open Go.RowKit
/-- A finite float whose size is at most c * 2^j. -/
def FB (k : FloatKind) (c j x : Nat) : Prop := ∃ s m p, k.format.read x = .number s m p ∧ -1100 ≤ p ∧ mg m p ≤ c * 2 ^ (j + 1100)
theorem fmt64 : FloatKind.f64.format.leastPlace = -1074 ∧ FloatKind.f64.format.fractionBits = 52 ∧ FloatKind.f64.format.exponentBits = 11 := by decide
theorem fmt32 : FloatKind.f32.format.leastPlace = -149 ∧ FloatKind.f32.format.fractionBits = 23 ∧ FloatKind.f32.format.exponentBits = 8 := by decide
theorem fb_nearest (k : FloatKind) (s : Bool) (m : Nat) (p : Int) (c j : Nat) (hp : -1100 ≤ p) (hc : c < 16777216) (hj : j ≤ 80) (h : mg m p ≤ c * 2 ^ (j + 1100)) : FB k c j (k.format.write (.number s m p)) := by
  show FB k c j (k.format.nearest s m p)
  cases k
  · obtain ⟨a, b, d⟩ := fmt32
    obtain ⟨m', p', e1, e2, e3⟩ := read_nearest FloatKind.f32.format s m p c j hp (by omega) (by omega) (by rw [b]; exact hc) (by rw [a, d]; omega) h
    exact ⟨s, m', p', e1, e2, e3⟩
  · obtain ⟨a, b, d⟩ := fmt64
    obtain ⟨m', p', e1, e2, e3⟩ := read_nearest FloatKind.f64.format s m p c j hp (by omega) (by omega) (by rw [b]; exact Nat.lt_of_lt_of_le hc (by decide)) (by rw [a, d]; omega) h
    exact ⟨s, m', p', e1, e2, e3⟩
theorem fb_conv (k k' : FloatKind) (c j x : Nat) (hc : c < 16777216) (hj : j ≤ 80) (h : FB k c j x) : ∃ y, floatToFloatBits k x k' = some y ∧ FB k' c j y := by
  by_cases hk : k = k'
  · subst hk; exact ⟨x, by unfold floatToFloatBits; rw [if_pos rfl], h⟩
  obtain ⟨s, m, p, e, hp, hm⟩ := h
  have hn := fb_nearest k' s m p c j hp hc hj hm
  refine ⟨_, ?_, hn⟩
  have e' : k.decode x = .number s m p := e
  unfold floatToFloatBits
  rw [if_neg hk, e']
  dsimp only
  obtain ⟨s', m', p', e2, _, _⟩ := hn
  have e3 : k'.decode (k'.encode (.number s m p)) = .number s' m' p' := e2
  rw [e3]
  rfl
theorem zcut (s : Bool) (n d q : Nat) (h : n ≤ q * 2 ^ d) : Ieee.Toward.zero.cut s n d ≤ q := by
  simp only [Ieee.Toward.cut, shl1, Bool.toNat_false, Nat.add_zero]
  rcases Nat.le_total d (n.log2 + 2) with hd | hd
  · rw [Nat.min_eq_left hd]
    exact Nat.div_le_of_le_mul (by rw [Nat.mul_comm]; exact h)
  · rw [Nat.min_eq_right hd, Nat.div_eq_of_lt]
    · exact Nat.zero_le _
    · have := log2_lt n
      calc n < 2 ^ (n.log2 + 1) := this
        _ ≤ _ := Nat.pow_le_pow_right (by omega) (by omega)
theorem fb_int (k : FloatKind) (c j x : Nat) (h : FB k c j x) : ∃ n : Int, (k.decode x).toInt .zero = some n ∧ -((c * 2 ^ j : Nat) : Int) ≤ n ∧ n ≤ ((c * 2 ^ j : Nat) : Int) ∧ ((k.format.order x 0 == some Ordering.lt) = false → 0 ≤ n) := by
  obtain ⟨s, m, p, e, hp, hm⟩ := h
  have e' : k.decode x = .number s m p := e
  have hmag : Ieee.Toward.zero.cut s (m <<< p.toNat) (-p).toNat ≤ c * 2 ^ j := by
    apply zcut
    unfold mg at hm
    rw [Nat.shiftLeft_eq]
    obtain ⟨T, hT⟩ : ∃ T : Nat, T = 1100 := ⟨_, rfl⟩
    have h1 : m * 2 ^ p.toNat * 2 ^ T ≤ c * 2 ^ j * 2 ^ (-p).toNat * 2 ^ T := by
      have e1 : m * 2 ^ p.toNat * 2 ^ T = m * 2 ^ (p + 1100).toNat * 2 ^ (-p).toNat := by
        have e0 : p.toNat + T = (p + 1100).toNat + (-p).toNat := by omega
        rw [Nat.mul_assoc, Nat.mul_assoc, ← Nat.pow_add, ← Nat.pow_add, e0]
      have e2 : c * 2 ^ j * 2 ^ (-p).toNat * 2 ^ T = c * 2 ^ (j + 1100) * 2 ^ (-p).toNat := by
        have e0 : j + ((-p).toNat + T) = j + 1100 + (-p).toNat := by omega
        rw [Nat.mul_assoc, Nat.mul_assoc, Nat.mul_assoc, ← Nat.pow_add, ← Nat.pow_add, ← Nat.pow_add, e0]
      rw [e1, e2]
      exact Nat.mul_le_mul_right _ hm
    exact Nat.le_of_mul_le_mul_right h1 (Nat.two_pow_pos _)
  refine ⟨Ieee.signed s (Ieee.Toward.zero.cut s (m <<< p.toNat) (-p).toNat) 0, ?_, ?_, ?_, ?_⟩
  · rw [e']; rfl
  · unfold Ieee.signed; rw [Nat.shiftLeft_zero]; split <;> omega
  · unfold Ieee.signed; rw [Nat.shiftLeft_zero]; split <;> omega
  · intro ho
    cases s
    · unfold Ieee.signed; rw [Nat.shiftLeft_zero]; simp
    · have hz : m = 0 := by
        apply Classical.byContradiction
        intro hm0
        have e0 : k.format.read 0 = .number false 0 k.format.leastPlace := by cases k <;> decide
        unfold Ieee.Format.order at ho
        rw [e, e0] at ho
        simp only [Ieee.Datum.order, Ieee.signed] at ho
        have hpos : 0 < m <<< (p - min p k.format.leastPlace).toNat := by
          rw [Nat.shiftLeft_eq]; exact Nat.mul_pos (by omega) (Nat.two_pow_pos _)
        simp only [if_true, Nat.zero_shiftLeft] at ho
        have hlt : compare (-((m <<< (p - min p k.format.leastPlace).toNat : Nat) : Int)) (if false = true then -((0 : Nat) : Int) else ((0 : Nat) : Int)) = .lt := by
          show compareOfLessAndEq _ _ = _
          unfold compareOfLessAndEq
          rw [if_pos (by rw [if_neg (by simp)]; omega)]
        rw [hlt] at ho
        simp at ho
      subst hz
      unfold Ieee.signed
      have : Ieee.Toward.zero.cut true (0 <<< p.toNat) (-p).toNat ≤ 0 := zcut true _ _ 0 (by simp)
      rw [Nat.shiftLeft_zero, Nat.le_zero.1 this]
      simp
theorem fb_ival (k : FloatKind) (K : IntKind) (c j x : Nat) (h : FB k c j x) (h1 : K.min ≤ -((c * 2 ^ j : Nat) : Int)) (h2 : ((c * 2 ^ j : Nat) : Int) ≤ K.max) : ∃ n, floatToIntVal k x K = some n := by
  obtain ⟨n, e, a, b, _⟩ := fb_int k c j x h
  refine ⟨n, ?_⟩
  unfold floatToIntVal
  rw [e]
  dsimp only
  rw [if_pos ⟨by omega, by omega⟩]
theorem fb_uval (k : FloatKind) (K : IntKind) (c j x : Nat) (h : FB k c j x) (h1 : K.min = 0) (h2 : ((c * 2 ^ j : Nat) : Int) ≤ K.max) (h0 : (k.format.order x 0 == some Ordering.lt) = false) : ∃ n, floatToIntVal k x K = some n := by
  obtain ⟨n, e, a, b, d⟩ := fb_int k c j x h
  refine ⟨n, ?_⟩
  unfold floatToIntVal
  rw [e]
  dsimp only
  rw [if_pos ⟨by rw [h1]; exact d h0, by omega⟩]
end Go.Proofs.YtnggkkdcddpjlaaGreatDoor
