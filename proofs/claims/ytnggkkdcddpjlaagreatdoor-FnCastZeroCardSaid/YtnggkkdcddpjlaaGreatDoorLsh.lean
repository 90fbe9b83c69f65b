/- decimal: leftShift: what it leaves. -/
import Derived.Test.YtnggkkdcddpjlaaGreatDoorPlt
import Derived.Test.YtnggkkdcddpjlaaGreatDoorRsh
import Derived.Test.YtnggkkdcddpjlaaGreatDoorTab
namespace Go.Proofs.YtnggkkdcddpjlaaGreatDoor
set_option linter.unusedVariables false
set_option linter.unusedSimpArgs false
open Go.RowKit
/-- The first loop of leftShift: a digit read, a digit written, from the right. -/
def ls1 (k : Nat) : Nat → Nat → Nat → Nat → (Nat → Nat) → Bool → Option (Nat × Nat × (Nat → Nat) × Bool)
  | 0, _, _, _, _, _ => none
  | f + 1, r, v, n, dg, t =>
    if 0 < r then
      (if r ≤ 800 then (if 48 ≤ dg (r - 1) then (if dg (r - 1) ≤ 57 then (if n < 1152921504606846976 then (if 1 ≤ v then
        (if v - 1 < 800 then ls1 k f (r - 1) (v - 1) ((n + (dg (r - 1) - 48) * 2 ^ k) / 10) (dput dg (v - 1) ((n + (dg (r - 1) - 48) * 2 ^ k) % 10 + 48)) t
         else if (n + (dg (r - 1) - 48) * 2 ^ k) % 10 = 0 then ls1 k f (r - 1) (v - 1) ((n + (dg (r - 1) - 48) * 2 ^ k) / 10) dg t
         else ls1 k f (r - 1) (v - 1) ((n + (dg (r - 1) - 48) * 2 ^ k) / 10) dg true)
        else none) else none) else none) else none) else none)
    else some (v, n, dg, t)
/-- The second: the digits of the carry. -/
def ls2 : Nat → Nat → Nat → (Nat → Nat) → Bool → Option ((Nat → Nat) × Bool)
  | 0, _, _, _, _ => none
  | f + 1, v, n, dg, t =>
    if 0 < n then
      (if n < 1152921504606846976 then (if 1 ≤ v then
        (if v - 1 < 800 then ls2 f (v - 1) (n / 10) (dput dg (v - 1) (n % 10 + 48)) t
         else if n % 10 = 0 then ls2 f (v - 1) (n / 10) dg t
         else ls2 f (v - 1) (n / 10) dg true)
        else none) else none)
    else some (dg, t)
theorem shl_wrap (d k : Nat) (hk : k ≤ 60) (h1 : 48 ≤ d) (h2 : d ≤ 57) : IntKind.u64.wrap (((d : Int) - 48) * 2 ^ k) = (((d - 48) * 2 ^ k : Nat) : Int) ∧ (d - 48) * 2 ^ k ≤ 10376293541461622784 := by
  have h3 : 2 ^ k ≤ 2 ^ 60 := Nat.pow_le_pow_right (by omega) hk
  have h4 : (d - 48) * 2 ^ k ≤ 9 * 2 ^ 60 := Nat.mul_le_mul (by omega) h3
  have h5 : ((d : Int) - 48) * 2 ^ k = (((d - 48) * 2 ^ k : Nat) : Int) := by
    have : (d : Int) - 48 = ((d - 48 : Nat) : Int) := by omega
    rw [this]; simp
  rw [h5]
  exact ⟨wrap_u64_nat _ (by omega), by omega⟩
theorem addr_add0 (a : Addr) : a.add 0 = a := rfl
theorem slice_arr {P : Program} (T E N : Nat) (hT : P.underlying T = some (.array N E)) (hs : ∀ w, (sizeOf E).run P w = .ok 1 w) (hN : 0 < N) (a : Addr) (h : Nat) (hh : h ≤ N) (w : World) :
    (Instr.sliceAt T (.pointer (some a)) (some (.int .i64 0)) (some (.int .i64 h)) none).run P w = .ok (.slice (some a) h N) w := by
  have e1 : P.arrayLen T = N := by simp [Program.arrayLen, hT]
  have e2 : P.elem T = E := by simp [Program.elem, hT]
  have := run_sliceAt_array_lh (P := P) w T a (by rw [e1, e2]; exact hT) .i64 .i64 0 h (by omega) (by omega) (by rw [e1]; omega)
  rw [this, e1, e2, hs]
  have hN' : ¬ N = 0 := by omega
  simp [Result.andThen, slicedAt, hN', addr_add0]
theorem slice_dec (B h : Nat) (hh : h ≤ 800) (w : World) : (Instr.sliceAt 221 (.pointer (some ⟨B, 0, none⟩)) (some (.int .i64 0)) (some (.int .i64 h)) none).run Tryz.prog w = .ok (.slice (some ⟨B, 0, none⟩) h 800) w :=
  slice_arr 221 5 800 Tryz.underlying221 (fun _ => by kernel_rfl) (by omega) _ h hh w
set_option maxHeartbeats 2000000 in
set_option maxRecDepth 100000 in
theorem lshift_calls (fF : Nat) (x y : Dec) (k v1 n1 m : Nat) (dg1 dg2 : Nat → Nat) (less t1 t2 : Bool) (dl nd1 : Nat) (B : Nat) (w : World) (hw : Tabs w) (hx : DecAt w B x) (hB : ∀ b o c, w.cell? ⟨8, 0, none⟩ = some (.slice (some ⟨b, o, none⟩) 61 c) → b ≠ B) (hB8 : 8 ≠ B)
    (hk1 : 1 ≤ k) (hk2 : k ≤ 60) (hnd : x.nd ≤ 800)
    (h0 : plT x.dg x.nd (lcS k) fF 0 = some less) (hsz : (lcS k).size ≤ 1000) (hdl : dl = lcD k - (if less then 1 else 0)) (hdl1 : 1 ≤ lcD k) (hdl2 : lcD k ≤ 1000)
    (h1 : ls1 k fF x.nd (x.nd + dl) 0 x.dg x.trunc = some (v1, n1, dg1, t1)) (h2 : ls2 fF v1 n1 dg1 t1 = some (dg2, t2))
    (hn1 : nd1 = if 800 ≤ x.nd + dl then 800 else x.nd + dl) (h3 : trimL fF dg2 nd1 = some m)
    (hdp1 : -1000000000 ≤ x.dp) (hdp2 : x.dp ≤ 1000000000)
    (hy : y = { dg := dg2, nd := m, dp := if m = 0 then 0 else x.dp + dl, neg := x.neg, trunc := t2 }) :
    Calls Tryz.prog 176 #[.pointer (some ⟨B, 0, none⟩), .int .u64 k] w fun e w' => e = .returned (.tuple #[]) ∧ DecAt w' B y ∧ Only B w w' := by
  obtain ⟨lb, lo, lc, l1, l2⟩ := hw.lch
  have hlb := hB _ _ _ l1
  obtain ⟨l3, l4⟩ := l2 k (by omega)
  clear l2 hB
  have c800 := hx.n
  have AY := Lib.hid hy
  have A0 := Lib.hid h0
  have A1 := Lib.hid h1
  have A2 := Lib.hid h2
  have A3 := Lib.hid h3
  have AD := Lib.hid hdl
  have AN := Lib.hid hn1
  clear hy h1 h2 h3 h0 hdl hn1
  have hki : (k : Int) < 61 := by omega
  have hsl := slice_dec B x.nd hnd
  go_enter Tryz.func176, Tryz.ntmps176
  go_wp2
  go_quiet ((go_at_call 198; exact Calls.quiet_of ((plt_calls fF x.dg x.nd B 800 (lcS k) less _ hsz (fun i hi => hx.d i (by omega)) hnd hnd A0.out))))
  go_upto_if 30 with fail
  go_cut [4] (fun s4 wc => s4 = .int .i64 dl ∧ DecAt wc B x ∧ Only B w wc)
  case first =>
    cases less
    · go_wp2
      go_meet
      have := AD.out
      exact ⟨by simp at this; rw [this], hx.drewN _, (Only.refl _ _).drewN _⟩
    · go_wp2
      go_meet
      have := AD.out
      exact ⟨by simp at this; rw [this]; congr 1; omega, hx.drewN _, (Only.refl _ _).drewN _⟩
  case rest =>
    obtain ⟨rfl, hd, ho⟩ := hcut
    have hdl : dl ≤ 1000 := by have := AD.out; split at this <;> omega
    clear hx c800 l1 l3 l4 hlb AD hsl hw A0 hdl1 hdl2 hsz hki
    have c800 := hd.n
    go_wp2
    go_loopg [5, 6, 7] fF (fun f s5 s6 s7 wr => ∃ (r v n : Nat) (dg : Nat → Nat) (t : Bool), s5 = .int .i64 ((r : Int) - 1) ∧ s6 = .int .i64 v ∧ s7 = .int .u64 n ∧ r ≤ 800 ∧ v ≤ 2000 ∧ DecAt wr B { x with dg := dg, trunc := t } ∧ Only B w wr ∧ Aside (ls1 k f r v n dg t = some (v1, n1, dg1, t1)))
    case atStart => exact ⟨x.nd, x.nd + dl, 0, x.dg, x.trunc, rfl, by go_num, rfl, hnd, by omega, hd, ho, A1.out⟩
    case round =>
      clear A1 hd ho c800
      obtain ⟨r, v, n, dg, t, rfl, rfl, rfl, hr, hv, hd, ho, hA⟩ := hrel
      have H := hA.out
      clear hA
      cases gk with
      | zero => cases H
      | succ f =>
      rw [ls1] at H
      by_cases c1 : 0 < r
      · rw [if_pos c1] at H
        obtain ⟨r, rfl⟩ : ∃ r', r = r' + 1 := ⟨r - 1, by omega⟩
        rw [if_pos hr] at H
        simp only [Nat.add_sub_cancel] at H
        have er : ((r + 1 : Nat) : Int) - 1 = (r : Int) := by omega
        rw [er]
        clear er c1
        by_cases c4 : 48 ≤ dg r
        · rw [if_pos c4] at H
          by_cases c5 : dg r ≤ 57
          · rw [if_pos c5] at H
            by_cases c6 : n < 1152921504606846976
            · rw [if_pos c6] at H
              by_cases c7 : 1 ≤ v
              · rw [if_pos c7] at H
                obtain ⟨v, rfl⟩ : ∃ v', v = v' + 1 := ⟨v - 1, by omega⟩
                simp only [Nat.add_sub_cancel] at H
                obtain ⟨hsh, hb⟩ := shl_wrap (dg r) k hk2 c4 c5
                generalize (dg r - 48) * 2 ^ k = z at *
                have cr := hd.d r (by omega)
                dsimp only at cr
                by_cases c8 : v < 800
                · rw [if_pos c8] at H
                  have cv := hd.d v c8
                  have fv := hd.f v
                  dsimp only at cv
                  have H' := Lib.hid H
                  clear H c7
                  go_wp2
                  go_roundg f
                  case measure => omega
                  case rel =>
                    refine ⟨r, v, (n + z) / 10, dput dg v ((n + z) % 10 + 48), t, by first | rfl | go_num, by first | rfl | go_num, by first | rfl | go_num, by omega, by omega, ?_, ho.setCell _ _, H'.out⟩
                    have := hd.setD v ((n + z) % 10 + 48) c8
                    have e : (((n + z) % 10 + 48 : Nat) : Int) = (n : Int) + z - 10 * (((n : Int) + z) / 10) + 48 := by omega
                    rw [e] at this
                    exact this
                · rw [if_neg c8] at H
                  by_cases c9 : (n + z) % 10 = 0
                  · rw [if_pos c9] at H
                    have c9b : ((n : Int) + z - 10 * (((n : Int) + z) / 10) != 0) = false := by rw [bne_eq_false_iff_eq]; omega
                    have H' := Lib.hid H
                    clear H c7 c9
                    go_wp2
                    go_roundg f
                    case measure => omega
                    case rel => exact ⟨r, v, (n + z) / 10, dg, t, by first | rfl | go_num, by first | rfl | go_num, by first | rfl | go_num, by omega, by omega, hd, ho, H'.out⟩
                  · rw [if_neg c9] at H
                    have c9b : ((n : Int) + z - 10 * (((n : Int) + z) / 10) != 0) = true := by rw [bne_iff_ne]; omega
                    have ct := hd.t
                    have ft := hd.f 803
                    have H' := Lib.hid H
                    clear H c7 c9
                    go_wp2
                    go_roundg f
                    case measure => omega
                    case rel => exact ⟨r, v, (n + z) / 10, dg, true, by first | rfl | go_num, by first | rfl | go_num, by first | rfl | go_num, by omega, by omega, hd.setT true, ho.setCell _ _, H'.out⟩
              · rw [if_neg c7] at H; cases H
            · rw [if_neg c6] at H; cases H
          · rw [if_neg c5] at H; cases H
        · rw [if_neg c4] at H; cases H
      · rw [if_neg c1] at H
        obtain rfl : r = 0 := by omega
        obtain ⟨rfl, E2⟩ := Prod.mk.inj (Option.some.inj H)
        obtain ⟨rfl, E3⟩ := Prod.mk.inj E2
        obtain ⟨rfl, rfl⟩ := Prod.mk.inj E3
        clear E2 E3 H c1
        go_wp2
        go_loopg [6, 7] fF (fun f s6 s7 wr => ∃ (v n : Nat) (dg : Nat → Nat) (t : Bool), s6 = .int .i64 v ∧ s7 = .int .u64 n ∧ v ≤ 2000 ∧ DecAt wr B { x with dg := dg, trunc := t } ∧ Only B w wr ∧ Aside (ls2 f v n dg t = some (dg2, t2)))
        case atStart => exact ⟨v, n, dg, t, rfl, rfl, hv, hd, ho, A2.out⟩
        case round =>
          clear A2 hd ho hv
          obtain ⟨v, n, dg, t, rfl, rfl, hv, hd, ho, hA⟩ := hrel
          have H := hA.out
          clear hA
          cases gk with
          | zero => cases H
          | succ f =>
          rw [ls2] at H
          by_cases c1 : 0 < n
          · rw [if_pos c1] at H
            by_cases c6 : n < 1152921504606846976
            · rw [if_pos c6] at H
              by_cases c7 : 1 ≤ v
              · rw [if_pos c7] at H
                obtain ⟨v, rfl⟩ : ∃ v', v = v' + 1 := ⟨v - 1, by omega⟩
                simp only [Nat.add_sub_cancel] at H
                by_cases c8 : v < 800
                · rw [if_pos c8] at H
                  have cv := hd.d v c8
                  have fv := hd.f v
                  dsimp only at cv
                  have H' := Lib.hid H
                  clear H c7
                  go_wp2
                  go_roundg f
                  case measure => omega
                  case rel =>
                    refine ⟨v, n / 10, dput dg v (n % 10 + 48), t, by first | rfl | go_num, by first | rfl | go_num, by omega, ?_, ho.setCell _ _, H'.out⟩
                    have := hd.setD v (n % 10 + 48) c8
                    have e : ((n % 10 + 48 : Nat) : Int) = (n : Int) - 10 * ((n : Int) / 10) + 48 := by omega
                    rw [e] at this
                    exact this
                · rw [if_neg c8] at H
                  by_cases c9 : n % 10 = 0
                  · rw [if_pos c9] at H
                    have c9b : ((n : Int) - 10 * ((n : Int) / 10) != 0) = false := by rw [bne_eq_false_iff_eq]; omega
                    have H' := Lib.hid H
                    clear H c7 c9
                    go_wp2
                    go_roundg f
                    case measure => omega
                    case rel => exact ⟨v, n / 10, dg, t, by first | rfl | go_num, by first | rfl | go_num, by omega, hd, ho, H'.out⟩
                  · rw [if_neg c9] at H
                    have c9b : ((n : Int) - 10 * ((n : Int) / 10) != 0) = true := by rw [bne_iff_ne]; omega
                    have ct := hd.t
                    have ft := hd.f 803
                    have H' := Lib.hid H
                    clear H c7 c9
                    go_wp2
                    go_roundg f
                    case measure => omega
                    case rel => exact ⟨v, n / 10, dg, true, by first | rfl | go_num, by first | rfl | go_num, by omega, hd.setT true, ho.setCell _ _, H'.out⟩
              · rw [if_neg c7] at H; cases H
            · rw [if_neg c6] at H; cases H
          · rw [if_neg c1] at H
            have c800 := hd.n
            have f800 := hd.f 800
            have c801 := hd.p
            have f801 := hd.f 801
            dsimp only at c800 c801
            obtain ⟨rfl, rfl⟩ := Prod.mk.inj (Option.some.inj H)
            clear H
            have hnd1 : nd1 ≤ 800 := by have := AN.out; split at this <;> omega
            by_cases c9 : 800 ≤ x.nd + dl
            · have hN := AN.out
              rw [if_pos c9] at hN
              subst hN
              have hd4 := ((hd.setN (x.nd + dl)).setN 800).setP (x.dp + dl)
              have ho4 := ((ho.setCell 800 (.int .i64 (x.nd + dl))).setCell 800 (.int .i64 800)).setCell 801 (.int .i64 (x.dp + dl))
              have c9i : (800 : Int) ≤ (x.nd : Int) + dl := by omega
              rw [show (((x.nd + dl : Nat) : Int)) = (x.nd : Int) + dl by omega] at hd4
              have Y := AY.out
              clear AN
              go_wp2_with (go_at_call 175; refine (trim_calls fF _ y m B _ hd4 (by dsimp only; omega) A3.out Y).mono ?_; rintro e w' ⟨rfl, hd5, ho5⟩)
              go_end0
              exact ⟨rfl, hd5, ho4.trans ho5⟩
            · have hN := AN.out
              rw [if_neg c9] at hN
              subst hN
              have hd4 := (hd.setN (x.nd + dl)).setP (x.dp + dl)
              have ho4 := (ho.setCell 800 (.int .i64 (x.nd + dl))).setCell 801 (.int .i64 (x.dp + dl))
              rw [show (((x.nd + dl : Nat) : Int)) = (x.nd : Int) + dl by omega] at hd4
              have c9i : (x.nd : Int) + dl < 800 := by omega
              have Y := AY.out
              clear AN
              go_wp2_with (go_at_call 175; refine (trim_calls fF _ y m B _ hd4 (by dsimp only; omega) A3.out Y).mono ?_; rintro e w' ⟨rfl, hd5, ho5⟩)
              go_end0
              exact ⟨rfl, hd5, ho4.trans ho5⟩
end Go.Proofs.YtnggkkdcddpjlaaGreatDoor
