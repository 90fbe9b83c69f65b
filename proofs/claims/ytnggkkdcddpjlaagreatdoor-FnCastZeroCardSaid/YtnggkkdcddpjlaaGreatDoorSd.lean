/- setDigits: what it answers and what it leaves. -/
import Derived.Test.YtnggkkdcddpjlaaGreatDoorFu
import Derived.Test.YtnggkkdcddpjlaaGreatDoorOut
import Derived.Deep.CutBlock
import Derived.Deep.DeepCutAuto
namespace Go.Proofs.YtnggkkdcddpjlaaGreatDoor
set_option linter.unusedVariables false
set_option linter.unusedSimpArgs false
open Go.Shelf Go.RowKit Go.Sort Go.Lib
/-- The digits of a number, as bytes. -/
def dgB (d : Nat) (i : Nat) : UInt8 := (Lib.decDigits d).getD i 0
/-- What is left without the zeros behind. -/
def tzF (db : Nat → UInt8) : Nat → Nat
  | 0 => 0
  | n + 1 => if (db n).toNat = 48 then tzF db n else n + 1
theorem tzF_le (db : Nat → UInt8) : ∀ n, tzF db n ≤ n := by
  intro n
  induction n with
  | zero => exact Nat.le_refl _
  | succ n ih => unfold tzF; split <;> omega
set_option maxHeartbeats 4000000 in
set_option maxRecDepth 100000 in
theorem sd_calls (bb d : Nat) (p : Int) (C : Array Value) (w : World) (hd1 : 1 ≤ d) (hd : d < 18446744073709551616) (hb : w.heap[bb]? = some (.cells C 214 (0, 0))) (hC : ∀ i, i < 32 → C[i]? = some (.int .u8 0))
    (hf : ∀ i, w.frozen? ⟨bb, i, none⟩ = false) (hp0 : -10000 ≤ p) (hp1 : p ≤ 10000) :
    Calls Tryz.prog 151 #[.slice (some ⟨bb, 0, none⟩) 32 32, .int .u64 d, .int .i64 p, .int .i64 (Lib.nDigits d)] w fun e w' => e = .returned (.tuple #[.int .i64 ((Lib.nDigits d : Int) + p), .int .i64 (tzF (dgB d) (Lib.nDigits d))]) ∧
      (∃ C', w'.heap[bb]? = some (.cells C' 214 (0, 0))) ∧ (∀ i, i < Lib.nDigits d → w'.cell? ⟨bb, i, none⟩ = some (.int .u8 ((dgB d i).toNat : Int))) ∧ Only bb w w' := by
  have hnd20 : Lib.nDigits d ≤ 20 := by have := Lib.numDigits_eq d hd1 hd; split at this <;> omega
  have hcell : ∀ j, j < 32 → w.cell? ⟨bb, j, none⟩ = some (.int .u8 0) := by
    intro j hj
    unfold World.cell?
    rw [hb]
    exact hC j hj
  have hH0 : Holds (fun (b : UInt8) => Value.int .u8 (b.toNat : Int)) w bb 0 (Array.replicate (Lib.nDigits d) (0 : UInt8)) := fun j hj => by
    have hj' : j < Lib.nDigits d := by simpa using hj
    refine ⟨?_, hf _⟩
    rw [Nat.zero_add, hcell j (by omega), getElem!_pos _ j hj]
    simp
  have hfmt := Tryz.internal_strconv_formatBase10 bb 0 32 d (Array.replicate (Lib.nDigits d) 0) w hH0 (by rw [Array.size_replicate]; exact Lib.lt_pow_nDigits d) hd (by rw [Array.size_replicate]; omega)
  rw [Array.size_replicate] at hfmt
  have hpost : ∀ (k v' : Nat) (dk : Array UInt8), FmtInv (Lib.nDigits d) d 0 v' dk →
      (∃ C', ((putRow (fun (b : UInt8) => Value.int .u8 (b.toNat : Int)) w bb 0 dk).drewN k).heap[bb]? = some (.cells C' 214 (0, 0))) ∧
      (∀ i, i < Lib.nDigits d → ((putRow (fun (b : UInt8) => Value.int .u8 (b.toNat : Int)) w bb 0 dk).drewN k).cell? ⟨bb, i, none⟩ = some (.int .u8 ((dgB d i).toNat : Int))) ∧
      Only bb w ((putRow (fun (b : UInt8) => Value.int .u8 (b.toNat : Int)) w bb 0 dk).drewN k) := by
    intro k v' dk hF
    refine ⟨?_, ?_, ?_⟩
    · refine ⟨putCells (fun (b : UInt8) => Value.int .u8 (b.toNat : Int)) 0 dk C, ?_⟩
      show (w.heap.modify bb (onCells (putCells (fun (b : UInt8) => Value.int .u8 (b.toNat : Int)) 0 dk)))[bb]? = _
      rw [Array.getElem?_modify, if_pos rfl, hb]
      rfl
    · intro i hi
      have hl : i < (Lib.decDigits d).length := by rw [Lib.decDigits_length]; exact hi
      have e : dgB d i = dk[i]! := by
        unfold dgB
        rw [List.getD_eq_getElem?_getD, List.getElem?_eq_getElem hl, ← Lib.row_is_numeral hF i hl]; rfl
      rw [e, World.cell?_drewN]
      have := cell?_putRow (fun (b : UInt8) => Value.int .u8 (b.toNat : Int)) w bb 0 _ dk hH0 (by rw [hF.size, Array.size_replicate]) i (by rw [hF.size]; exact hi)
      rw [Nat.zero_add] at this
      exact this
    · exact ⟨rfl, rfl, rfl, by simp [putRow, mapBlock], fun j hj => by
        show (w.heap.modify bb (onCells (putCells (fun (b : UInt8) => Value.int .u8 (b.toNat : Int)) 0 dk)))[j]? = _
        rw [Array.getElem?_modify, if_neg (fun e => hj e.symm)]⟩
  have HP := Lib.hid hpost
  obtain ⟨nd, hnd⟩ : ∃ nd, Lib.nDigits d = nd := ⟨_, rfl⟩
  rw [hnd] at hfmt hnd20
  have HN := Lib.hid hnd
  rw [hnd]
  have h20 : (nd : Int) ≤ 20 := by omega
  clear hpost hH0 hcell hf hC hb hnd
  go_enter Tryz.func151, Tryz.ntmps151
  go_upto_block 0 with (go_at_call 129; refine hfmt.mono ?_; rintro e w' ⟨rfl, k, v', dk, rfl, hF⟩)
  obtain ⟨hc1, hc2, hc3⟩ := HP.out k v' dk (by rw [HN.out]; exact hF)
  rw [HN.out] at hc2
  have HC2 := Lib.hid hc2
  clear hF hc2
  generalize (putRow (fun (b : UInt8) => Value.int .u8 (b.toNat : Int)) w bb 0 dk).drewN k = w2 at *
  go_wp2_with fail
  go_loopg [3] 100 (fun k s3 wr => ∃ (i q : Nat), s3 = .int .i64 i ∧ i ≤ nd ∧ k = 100 - nd + i ∧ tzF (dgB d) i = tzF (dgB d) nd ∧ wr = w2.drewN q)
  case atStart => exact ⟨nd, 0, rfl, Nat.le_refl _, by omega, rfl, rfl⟩
  case round =>
    obtain ⟨i, q, rfl, hi, hk, ht, rfl⟩ := hrel
    have HT := Lib.hid ht
    clear ht
    cases i with
    | zero =>
      have h1 : ¬ (0 : Int) < ((0 : Nat) : Int) := by omega
      have e := HT.out
      rw [tzF] at e
      have E := Lib.hid e
      clear e
      go_wp2
      go_ret2
      refine ⟨by rw [← E.out]; rfl, ?_, fun i hi => HC2.out i hi, ?_⟩
      · exact hc1
      · exact hc3.drewN q
    | succ j =>
      have hcj : (w2.drewN q).cell? ⟨bb, j, none⟩ = some (.int .u8 ((dgB d j).toNat : Int)) := HC2.out j (by omega)
      have h1 : (0 : Int) < ((j + 1 : Nat) : Int) := by omega
      have hj2 : (((j + 1 : Nat) : Int)) - 1 = (j : Int) := by omega
      have e := HT.out
      rw [tzF] at e
      by_cases c : (dgB d j).toNat = 48
      · rw [if_pos c] at e
        have b1 : (((dgB d j).toNat : Int) == 48) = true := beq_iff_eq.2 (by omega)
        have E := Lib.hid e
        clear e c HT
        go_wp2
        go_roundg (100 - nd + j)
        case measure => omega
        case rel => exact ⟨j, q, rfl, by omega, rfl, E.out, rfl⟩
      · rw [if_neg c] at e
        have b1 : (((dgB d j).toNat : Int) == 48) = false := beq_eq_false_iff_ne.2 (by omega)
        have E := Lib.hid e
        clear e c HT
        go_wp2
        go_ret2
        refine ⟨by rw [← E.out]; rfl, ?_, fun i hi => HC2.out i hi, ?_⟩
        · exact hc1
        · exact hc3.drewN q
end Go.Proofs.YtnggkkdcddpjlaaGreatDoor
