/- decimal: prefixIsLessThan: what it answers. -/
import Derived.Test.YtnggkkdcddpjlaaGreatDoorTrim
import Derived.Deep.CutBlock
import Derived.Deep.DeepCutAuto
namespace Go.Proofs.YtnggkkdcddpjlaaGreatDoor
set_option linter.unusedVariables false
set_option linter.unusedSimpArgs false
open Go.RowKit
/-- A text's byte, as a number. -/
def sb (s : ByteArray) (i : Nat) : Nat := if h : i < s.size then s[i].toNat else 0
theorem sb_at {s : ByteArray} {i : Nat} (h : i < s.size) : s[i].toNat = sb s i := by simp [sb, h]
theorem sb_lt (s : ByteArray) (i : Nat) : sb s i < 256 := by
  unfold sb; split
  · exact UInt8.toNat_lt _
  · omega
def plT (dg : Nat → Nat) (nd : Nat) (s : ByteArray) : Nat → Nat → Option Bool
  | 0, _ => none
  | f + 1, i => if i < s.size then (if nd ≤ i then some true else (if dg i = sb s i then plT dg nd s f (i + 1) else some (decide (dg i < sb s i)))) else some false
set_option maxHeartbeats 2000000 in
theorem plt_calls (fF : Nat) (dg : Nat → Nat) (nd B c : Nat) (s : ByteArray) (r : Bool) (w : World) (hs : s.size ≤ 1000) (hd : ∀ i, i < nd → w.cell? ⟨B, i, none⟩ = some (.int .u8 (dg i))) (hnd : nd ≤ 800) (hc : nd ≤ c)
    (h : plT dg nd s fF 0 = some r) :
    Calls Tryz.prog 198 #[.slice (some ⟨B, 0, none⟩) nd c, .string s] w fun e w' => e = .returned (.bool r) ∧ ∃ n, w' = w.drewN n := by
  have A1 := Lib.hid h
  clear h
  go_enter Tryz.func198, Tryz.ntmps198
  go_wp2
  go_loopg [5] fF (fun f s5 wr => ∃ i n : Nat, s5 = .int .i64 i ∧ i ≤ 1000 ∧ wr = w.drewN n ∧ Aside (plT dg nd s f i = some r))
  case atStart => exact ⟨0, 0, rfl, by omega, rfl, A1.out⟩
  case round =>
    clear A1
    obtain ⟨i, n, rfl, hi, rfl, hA⟩ := hrel
    have H := hA.out
    clear hA
    cases gk with
    | zero => cases H
    | succ f =>
    rw [plT] at H
    by_cases c1 : i < s.size
    · rw [if_pos c1] at H
      by_cases c2 : nd ≤ i
      · rw [if_pos c2] at H
        have H' := Lib.hid H
        clear H
        go_wp2
        go_ret
        obtain rfl := Option.some.inj H'.out
        exact ⟨rfl, _, rfl⟩
      · rw [if_neg c2] at H
        have c2' : i < nd := by omega
        have c2i : (i : Int) < (nd : Int) := by omega
        have c1i : (i : Int) < (s.size : Int) := by omega
        have cd := hd i c2'
        have hb := sb_at c1
        have hb2 := sb_lt s i
        generalize sb s i = b at *
        by_cases c3 : dg i = b
        · rw [if_pos c3] at H
          have c3b : (((dg i : Nat) : Int) != (b : Int)) = false := by rw [bne_eq_false_iff_eq]; omega
          have H' := Lib.hid H
          clear H c3
          go_wp2
          go_quiet (fail)
          go_wp2
          go_roundg f
          case measure => omega
          case rel => exact ⟨i + 1, _, by go_num, by omega, rfl, H'.out⟩
        · rw [if_neg c3] at H
          have c3b : (((dg i : Nat) : Int) != (b : Int)) = true := by rw [bne_iff_ne]; omega
          have H' := Lib.hid H
          clear H c3
          go_wp2
          go_quiet (fail)
          go_wp2
          go_quiet (fail)
          go_wp2
          go_ret
          obtain rfl := Option.some.inj H'.out
          refine ⟨by simp, ?_⟩
          simp only [World.drewN_drewN]
          exact ⟨_, rfl⟩
    · rw [if_neg c1] at H
      have H' := Lib.hid H
      clear H
      go_wp2
      go_ret
      obtain rfl := Option.some.inj H'.out
      exact ⟨rfl, _, rfl⟩
end Go.Proofs.YtnggkkdcddpjlaaGreatDoor
