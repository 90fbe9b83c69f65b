/- decimal: trim: what it leaves. -/
import Derived.Test.YtnggkkdcddpjlaaGreatDoorDec
namespace Go.Proofs.YtnggkkdcddpjlaaGreatDoor
open Go.RowKit
def trimL : Nat → (Nat → Nat) → Nat → Option Nat
  | 0, _, _ => none
  | k + 1, dg, nd => if 0 < nd then (if nd - 1 < 800 then (if dg (nd - 1) = 48 then trimL k dg (nd - 1) else some nd) else none) else some nd

set_option maxHeartbeats 1000000 in
theorem trim_calls (k : Nat) (x y : Dec) (m : Nat) (B : Nat) (w : World) (hx : DecAt w B x) (hnd : x.nd ≤ 9223372036854775807) (h : trimL k x.dg x.nd = some m) (hy : y = { x with nd := m, dp := if m = 0 then 0 else x.dp }) :
    Calls Tryz.prog 175 #[.pointer (some ⟨B, 0, none⟩)] w fun e w' => e = .returned (.tuple #[]) ∧ DecAt w' B y ∧ Only B w w' := by
  have A0 : Aside (trimL k x.dg x.nd = some m) := h
  have AY := Lib.hid hy
  clear h hy
  go_enter Tryz.func175, Tryz.ntmps175
  go_wp2
  go_loopg [] k (fun k wr => ∃ nd, nd ≤ 9223372036854775807 ∧ DecAt wr B { x with nd := nd } ∧ Only B w wr ∧ Aside (trimL k x.dg nd = some m))
  case atStart => exact ⟨x.nd, hnd, hx, Only.refl _ _, A0⟩
  case round =>
    obtain ⟨nd, hnd', hd, ho, hA⟩ := hrel
    clear hx A0 hnd
    have H := hA.out
    clear hA
    cases gk with
    | zero => cases H
    | succ k =>
    have c800 := hd.n
    have c801 := hd.p
    have f800 := hd.f 800
    have f801 := hd.f 801
    dsimp only at c800 c801
    rw [trimL] at H
    by_cases c1 : 0 < nd
    · rw [if_pos c1] at H
      by_cases c2 : nd - 1 < 800
      · rw [if_pos c2] at H
        have cd := hd.d (nd - 1) c2
        by_cases c3 : x.dg (nd - 1) = 48
        · rw [if_pos c3] at H
          have c3b : (((x.dg (nd - 1) : Nat) : Int) == 48) = true := beq_iff_eq.2 (by omega)
          have H' := Lib.hid H
          clear H c3
          go_wp2
          go_quiet (fail)
          go_wp2
          go_roundg k
          case measure => omega
          case rel =>
            refine ⟨nd - 1, by omega, ?_, ?_, H'.out⟩
            · have := (hd.drewN nq).setN (nd - 1)
              have e : (((nd - 1 : Nat) : Int)) = (nd : Int) - 1 := by omega
              rw [e] at this
              exact this
            · exact (ho.drewN _).setCell _ _
        · rw [if_neg c3] at H
          have c3b : (((x.dg (nd - 1) : Nat) : Int) == 48) = false := beq_eq_false_iff_ne.2 (by omega)
          have H' := Lib.hid H
          clear H c3
          go_wp2
          go_quiet (fail)
          go_wp2
          go_end0
          obtain rfl := Option.some.inj H'.out
          refine ⟨rfl, ?_, ho.drewN _⟩
          rw [AY.out, if_neg (by omega)]
          exact hd.drewN _
      · rw [if_neg c2] at H; cases H
    · rw [if_neg c1] at H
      obtain rfl : nd = 0 := by omega
      have H' := Lib.hid H
      clear H
      go_wp2
      go_quiet (fail)
      go_wp2
      go_end0
      obtain rfl := Option.some.inj H'.out
      refine ⟨rfl, ?_, (ho.drewN _).setCell _ _⟩
      rw [AY.out, if_pos rfl]
      exact (hd.drewN _).setP 0
end Go.Proofs.YtnggkkdcddpjlaaGreatDoor
