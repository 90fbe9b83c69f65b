/- fmtEFG at 'f': what it appends. -/
import Derived.Test.YtnggkkdcddpjlaaGreatDoorOut
import Derived.Deep.CutBlock
import Derived.Deep.DeepCutAuto
namespace Go.Proofs.YtnggkkdcddpjlaaGreatDoor
set_option linter.unusedVariables false
set_option linter.unusedSimpArgs false
open Go.RowKit
def efS (neg : Bool) : List UInt8 := if neg = true then [45] else []
def dgs (db : Nat → UInt8) (i n : Nat) : List UInt8 := (List.range n).map fun j => db (i + j)
def zrs (n : Nat) : List UInt8 := List.replicate n 48
def efI (db : Nat → UInt8) (dp : Int) (nd : Nat) : List UInt8 := if 0 < dp then dgs db 0 (min nd dp.toNat) ++ zrs (dp.toNat - min nd dp.toNat) else [48]
def efR (db : Nat → UInt8) (dp : Int) (nd : Nat) (prec : Int) : List UInt8 :=
  if 0 < prec then 46 :: (zrs (-dp).toNat ++ dgs db dp.toNat (nd - dp.toNat)) else []
theorem dgs_succ (db : Nat → UInt8) (i n : Nat) : dgs db i (n + 1) = dgs db i n ++ [db (i + n)] := by
  simp [dgs, List.range_succ]
theorem zrs_succ (n : Nat) : zrs (n + 1) = zrs n ++ [48] := by
  simp [zrs, List.replicate_succ']
theorem dgs_len (db : Nat → UInt8) (i n : Nat) : (dgs db i n).length = n := by simp [dgs]
theorem zrs_len (n : Nat) : (zrs n).length = n := by simp [zrs]
theorem efS_len (b : Bool) : (efS b).length ≤ 1 := by cases b <;> simp [efS]
set_option maxHeartbeats 8000000 in
set_option maxRecDepth 100000 in
theorem ef_calls (B bb nd T : Nat) (neg sh : Bool) (db : Nat → UInt8) (dp prec : Int) (C : Array Value) (v bs : Value) (w0 w : World) (hO : Out B w0 w v [])
    (hbs : (bs = .slice none 0 0 ∧ nd = 0 ∧ dp = 0) ∨ (bs = .slice (some ⟨bb, 0, none⟩) 32 32 ∧ w0.heap[bb]? = some (.cells C T (0, 0)))) (hT : T ≠ 5)
    (hc : ∀ i, i < nd → w0.cell? ⟨bb, i, none⟩ = some (.int .u8 ((db i).toNat : Int))) (hnd : nd ≤ 32) (hdp0 : -1000 ≤ dp) (hdp1 : dp ≤ 1000) (hp : prec = max ((nd : Int) - dp) 0 ∨ (nd = 0 ∧ dp = 0 ∧ prec = -1)) :
    Calls Tryz.prog 148 #[v, .bool neg, bs, .int .i64 dp, .int .i64 nd, .int .i64 prec, .int .u8 102, .bool sh] w fun e w' => ∃ v', e = .returned v' ∧ Out B w0 w' v' (efS neg ++ efI db dp nd ++ efR db dp nd prec) := by
  have HS := efS_len neg
  have HB := Lib.hid hbs
  have HC := Lib.hid hc
  have HP := Lib.hid hp
  clear hbs hc hp
  go_enter Tryz.func148, Tryz.ntmps148
  go_upto_region 53 with fail
  go_upto_if 178 with fail
  go_cut [0] (fun s0 wc => ∃ v', v' = s0 ∧ Out B w0 wc v' (efS neg))
  case first =>
    cases neg
    · go_wp2
      go_meet
      exact ⟨v, rfl, hO⟩
    · go_wp2_with (at_builtin; refine put1 rfl _ _ rfl B w0 w v [] 45 rfl hO rfl (by simp) ?_; intro v' w' hO')
      go_meet
      exact ⟨v', rfl, hO'⟩
  case rest =>
    obtain ⟨v, rfl, hO⟩ := hcut
    generalize hsg : efS neg = sg at *
    have HSG := Lib.hid hsg
    clear hsg
    obtain ⟨pd, hpd⟩ : ∃ pd, decide (0 < dp) = pd := ⟨_, rfl⟩
    obtain ⟨pf, hpf⟩ : ∃ pf, decide (0 < prec) = pf := ⟨_, rfl⟩
    have HPD := Lib.hid hpd
    have HPF := Lib.hid hpf
    clear hpd hpf
    go_upto_region 55 with fail
    go_cut [183] (fun s183 wc' => s183 = .bool pd ∧ wc = wc')
    case first =>
      go_wp2_with fail
      go_meet
      exact ⟨by rw [HPD.out], rfl⟩
    case rest =>
    obtain ⟨rfl, rfl⟩ := hcut
    go_upto_if 183 with fail
    go_cut [0, 23, 25] (fun s0 s23 s25 wc => ∃ v', v' = s0 ∧ Out B w0 wc v' (sg ++ efI db dp nd))
    case first =>
      cases pd
      rotate_left
      · as_aux_lemma =>
        have c1 : 0 < dp := of_decide_eq_true HPD.out
        clear HPD
        obtain ⟨d, rfl⟩ : ∃ d : Nat, dp = (d : Int) := ⟨dp.toNat, by omega⟩
        have hd : ((d : Int)).toNat = d := by omega
        obtain ⟨m, hm⟩ : ∃ m : Nat, min nd d = m := ⟨_, rfl⟩
        have hmi : min (nd : Int) (d : Int) = (m : Int) := by omega
        have hzi : (d : Int) - (m : Int) = ((d - m : Nat) : Int) := by omega
        have hE : efI db (d : Int) nd = dgs db 0 m ++ zrs (d - m) := by unfold efI; rw [if_pos c1, hd, hm]
        have hm1 : m ≤ 32 := by omega
        have hm2 : (m : Int) ≤ 32 := by omega
        have hm3 : (0 : Int) ≤ (m : Int) := by omega
        have hmn : m ≤ nd := by omega
        have hmm : max (m : Int) 0 = (m : Int) := by omega
        obtain ⟨z, hz⟩ : ∃ z : Nat, d - m = z := ⟨_, rfl⟩
        rw [hz] at hzi hE
        have hz2 : z ≤ 1000 := by omega
        have HE := Lib.hid hE
        have hbs2 := HB.out.resolve_left (fun h => by have := h.2.2; omega)
        clear hz hE hd hm c1 HP HPF
        obtain ⟨rfl, hbb⟩ := hbs2
        go_upto_block 4 with fail
        go_cut [0, 25] (fun s0 s25 wc => ∃ v', v' = s0 ∧ Out B w0 wc v' (sg ++ dgs db 0 m))
        case first =>
          go_wp2_with fail
          go_loopg [0, 191] 100 (fun k s0 s191 wr => ∃ (i : Nat) (v' : Value), v' = s0 ∧ s191 = .int .i64 i ∧ i ≤ m ∧ k = 100 - i ∧ Out B w0 wr v' (sg ++ dgs db 0 i))
          case atStart => exact ⟨0, _, rfl, rfl, by omega, rfl, by simpa [dgs] using hO⟩
          case round =>
            clear hO
            obtain ⟨i, v', rfl, rfl, hi, hk, hO⟩ := hrel
            by_cases c2 : i < m
            · have c2i : (i : Int) < (m : Int) := by omega
              have hce : wr.cell? ⟨bb, i, none⟩ = some (.int .u8 ((db i).toNat : Int)) := by rw [hO.cell hbb hT]; exact HC.out i (by omega)
              have hln : (sg ++ dgs db 0 i).length ≤ 100000 := by rw [List.length_append, dgs_len]; omega
              go_wp2_with (at_builtin; refine put1 rfl _ _ rfl B w0 wr v' (sg ++ dgs db 0 i) (db i) rfl hO rfl hln ?_; intro v2 w2 hO2)
              go_roundg (100 - (i + 1))
              case measure => omega
              case rel => exact ⟨i + 1, v2, rfl, by go_num, by omega, rfl, by rw [dgs_succ, Nat.zero_add, ← List.append_assoc]; exact hO2⟩
            · have c2i : ¬ (i : Int) < (m : Int) := by omega
              have him : i = m := by omega
              rw [him] at hO
              clear him
              go_wp2
              go_meet
              exact ⟨_, rfl, hO⟩
        case rest =>
          obtain ⟨v, rfl, hO⟩ := hcut
          go_upto_block 6 with fail
          go_wp2_with fail
          go_loopg [0, 203] 2000 (fun k s0 s203 wr => ∃ (i : Nat) (v' : Value), v' = s0 ∧ s203 = .int .i64 i ∧ i ≤ z ∧ k = 2000 - i ∧ Out B w0 wr v' (sg ++ dgs db 0 m ++ zrs i))
          case atStart => exact ⟨0, _, rfl, rfl, by omega, rfl, by simpa [zrs] using hO⟩
          case round =>
            clear hO
            obtain ⟨i, v', rfl, rfl, hi, hk, hO⟩ := hrel
            by_cases c2 : i < z
            · have c2i : (i : Int) < (z : Int) := by omega
              have hln : (sg ++ dgs db 0 m ++ zrs i).length ≤ 100000 := by rw [List.length_append, List.length_append, dgs_len, zrs_len]; omega
              go_wp2_with (at_builtin; refine put1 rfl _ _ rfl B w0 wr v' (sg ++ dgs db 0 m ++ zrs i) 48 rfl hO rfl hln ?_; intro v2 w2 hO2)
              go_roundg (2000 - (i + 1))
              case measure => omega
              case rel => exact ⟨i + 1, v2, rfl, by go_num, by omega, rfl, by rw [zrs_succ, ← List.append_assoc]; exact hO2⟩
            · have c2i : ¬ (i : Int) < (z : Int) := by omega
              have him : i = z := by omega
              rw [him] at hO
              clear him
              go_wp2
              go_meet
              exact ⟨_, rfl, by rw [HE.out, ← List.append_assoc]; exact hO⟩
      · as_aux_lemma =>
        have c1 : ¬ 0 < dp := of_decide_eq_false HPD.out
        have hE : efI db dp nd = [48] := by unfold efI; rw [if_neg c1]
        have HE := Lib.hid hE
        have hln : sg.length ≤ 100000 := by omega
        clear hE HP c1 HPD HPF
        go_wp2_with (at_builtin; refine put1 rfl _ _ rfl B w0 wc v sg 48 rfl hO rfl hln ?_; intro v2 w2 hO2)
        go_meet
        exact ⟨_, rfl, by rw [HE.out]; exact hO2⟩
    case rest =>
      obtain ⟨v, rfl, hO⟩ := hcut
      have hl2 : (sg ++ efI db dp nd).length ≤ 5000 := by
        rw [List.length_append]
        have : (efI db dp nd).length ≤ 2000 := by
          unfold efI; split
          · rw [List.length_append, dgs_len, zrs_len]; omega
          · simp
        omega
      generalize hys : sg ++ efI db dp nd = ys at *
      have HYS := Lib.hid hys
      clear hys
      go_upto_region 67 with fail
      go_cut [213] (fun s213 wc' => s213 = .bool pf ∧ wc = wc')
      case first =>
        go_wp2_with fail
        go_meet
        exact ⟨by rw [HPF.out], rfl⟩
      case rest =>
        obtain ⟨rfl, rfl⟩ := hcut
        cases pf
        · have hR : efR db dp nd prec = [] := by unfold efR; rw [if_neg (of_decide_eq_false HPF.out)]
          have HR := Lib.hid hR
          clear hR
          go_wp2_with fail
          go_ret
          exact ⟨v, rfl, by rw [HR.out, List.append_nil, HSG.out, HYS.out]; exact hO⟩
        · as_aux_lemma =>
          have hp0 := of_decide_eq_true HPF.out
          obtain ⟨lz, hlz⟩ : ∃ lz, (-dp).toNat = lz := ⟨_, rfl⟩
          obtain ⟨of, hof⟩ : ∃ of, dp.toNat = of := ⟨_, rfl⟩
          obtain ⟨mid, hmid⟩ : ∃ mid, nd - of = mid := ⟨_, rfl⟩
          have hpp : prec = (nd : Int) - dp := by rcases HP.out with h | h <;> omega
          have hR : efR db dp nd prec = 46 :: (zrs lz ++ dgs db of mid) := by unfold efR; rw [if_pos hp0, hlz, hof, hmid]
          have f1 : min prec (max 0 (-dp)) = (lz : Int) := by omega
          have f2 : dp + (lz : Int) = (of : Int) := by omega
          have f3 : min (prec - (lz : Int)) (max 0 ((nd : Int) - (of : Int))) = (mid : Int) := by omega
          have f4 : max 0 (prec - (lz : Int) - (mid : Int)) = 0 := by omega
          have g1 : lz ≤ 1000 := by omega
          have g2 : of + mid ≤ nd ∨ mid = 0 := by omega
          have g3 : mid ≤ 32 := by omega
          have g4 : -1000 ≤ dp := hdp0
          have g5 : of ≤ 1000 := by omega
          have g6 : (of : Int) ≤ 1000 := by omega
          have g7 : 0 ≤ prec - (lz : Int) := by omega
          have g8 : prec ≤ 2000 := by omega
          have hbs2 : nd ≠ 0 → bs = .slice (some ⟨bb, 0, none⟩) 32 32 ∧ w0.heap[bb]? = some (.cells C T (0, 0)) := fun h => HB.out.resolve_left (fun h2 => h h2.2.1)
          have HBS := Lib.hid hbs2
          have HR := Lib.hid hR
          clear hR hpp hlz hof hp0 HPF HPD HP HB hbs2
          have HM := Lib.hid hmid
          clear hmid
          go_upto_block 8 with (at_builtin; refine put1 rfl _ _ rfl B w0 wc v ys 46 rfl hO rfl (by omega) ?_; intro v2 w2 hO2)
          have hl3 : (ys ++ [46]).length ≤ 5001 := by rw [List.length_append]; simp; omega
          have HR2 : efR db dp nd prec = [46] ++ (zrs lz ++ dgs db of mid) := HR.out
          have HR := Lib.hid HR2
          clear HR2 hO
          rename Out B w0 w2 v2 (ys ++ [46]) => hO
          have HY : ys ++ efR db dp nd prec = ys ++ [46] ++ zrs lz ++ dgs db of mid := by rw [HR.out]; simp
          have HYY := Lib.hid HY
          clear HR HY
          generalize hys2 : ys ++ [46] = ys2 at *
          go_wp2_with fail
          go_loopg [0, 240] 2000 (fun k s0 s240 wr => ∃ (i : Nat) (v' : Value), v' = s0 ∧ s240 = .int .i64 i ∧ i ≤ lz ∧ k = 2000 - i ∧ Out B w0 wr v' (ys2 ++ zrs i))
          case atStart => exact ⟨0, v2, rfl, rfl, by omega, rfl, by simpa [zrs] using hO⟩
          case round =>
            clear hO
            obtain ⟨i, v', rfl, rfl, hi, hk, hO⟩ := hrel
            by_cases c2 : i < lz
            · have c2i : (i : Int) < (lz : Int) := by omega
              have hln : (ys2 ++ zrs i).length ≤ 100000 := by rw [List.length_append, zrs_len]; omega
              go_wp2_with (at_builtin; refine put1 rfl _ _ rfl B w0 wr v' (ys2 ++ zrs i) 48 rfl hO rfl hln ?_; intro v3 w3 hO3)
              go_roundg (2000 - (i + 1))
              case measure => omega
              case rel => exact ⟨i + 1, v3, rfl, by go_num, by omega, rfl, by rw [zrs_succ, ← List.append_assoc]; exact hO3⟩
            · have c2i : ¬ (i : Int) < (lz : Int) := by omega
              have him : i = lz := by omega
              rw [him] at hO
              have hl4 : (ys2 ++ zrs lz).length ≤ 8000 := by rw [List.length_append, zrs_len]; omega
              clear him hk
              go_upto_block 10 with fail
              generalize ys2 ++ zrs lz = ys3 at *
              go_wp2_with fail
              go_loopg [0, 30, 247] 100 (fun k s0 s30 s247 wr => ∃ (i : Nat) (v' : Value), v' = s0 ∧ s247 = .int .i64 i ∧ i ≤ mid ∧ k = 100 - i ∧ Out B w0 wr v' (ys3 ++ dgs db of i))
              case atStart => exact ⟨0, v', rfl, rfl, by omega, rfl, by simpa [dgs] using hO⟩
              case round =>
                clear hO
                obtain ⟨j, v4, rfl, rfl, hj, hk, hO⟩ := hrel
                by_cases c3 : j < mid
                · have c3i : (j : Int) < (mid : Int) := by omega
                  obtain ⟨rfl, hbb⟩ := HBS.out (by omega)
                  have hce : wr.cell? ⟨bb, of + j, none⟩ = some (.int .u8 ((db (of + j)).toNat : Int)) := by rw [hO.cell hbb hT]; exact HC.out (of + j) (by omega)
                  have hln : (ys3 ++ dgs db of j).length ≤ 100000 := by rw [List.length_append, dgs_len]; omega
                  have h32 : (of : Int) + (j : Int) < 32 := by omega
                  go_wp2_with (at_builtin; refine put1 rfl _ _ rfl B w0 wr v4 (ys3 ++ dgs db of j) (db (of + j)) rfl hO rfl hln ?_; intro v5 w5 hO5)
                  go_roundg (100 - (j + 1))
                  case measure => omega
                  case rel => exact ⟨j + 1, v5, rfl, by go_num, by omega, rfl, by rw [dgs_succ, ← List.append_assoc]; exact hO5⟩
                · have c3i : ¬ (j : Int) < (mid : Int) := by omega
                  have him : j = mid := by omega
                  rw [him] at hO
                  clear him hk
                  go_wp2_with fail
                  go_loopg [0, 261] 1 (fun k s0 s261 wr => v4 = s0 ∧ s261 = .int .i64 0 ∧ Out B w0 wr v4 (ys3 ++ dgs db of mid))
                  case atStart => exact ⟨rfl, rfl, hO⟩
                  case round =>
                    obtain ⟨rfl, rfl, hO2⟩ := hrel
                    go_wp2_with fail
                    go_ret
                    exact ⟨v4, rfl, by rw [HSG.out, HYS.out, HYY.out]; exact hO2⟩
end Go.Proofs.YtnggkkdcddpjlaaGreatDoor
