/- FormatUint at base 10: what it answers. -/
import Derived.Test.YtnggkkdcddpjlaaGreatDoorTab
import Derived.Shelf.Strconv.Itoa3
import Derived.Lib.AppendIntMem
import Derived.BigCall
import Derived.BigGuard
namespace Go.Proofs.YtnggkkdcddpjlaaGreatDoor
set_option linter.unusedVariables false
set_option linter.unusedSimpArgs false
open Go.Shelf Go.RowKit Go.Sort Go.Lib
theorem below_grow_drew (w : World) (q : Nat) (os : Array Obj) : RowKit.Below w.heap.size w (grow (w.drewN q) os) :=
  ⟨rfl, rfl, rfl, by simp [grow], fun k hk => by simp [grow, Array.getElem?_append, hk]⟩
set_option maxHeartbeats 4000000 in
set_option maxRecDepth 100000 in
theorem fu98_calls (u : Nat) (hu64 : u < 18446744073709551616) (w : World) (hw : Tabs w) :
    Calls Tryz.prog 98 #[.int .u64 u, .int .i64 10] w fun e w' => e = .returned (.string ⟨(Lib.decDigits u).toArray⟩) ∧ RowKit.Below w.heap.size w w' := by
  have htab := hw.pow
  by_cases hs : u < 100
  · go_enter Tryz.func98, Tryz.ntmps98
    go_wp2_with (go_at_call 127; refine (Tryz.internal_strconv_small u hs _).mono ?_; rintro e w' ⟨rfl, rfl⟩)
    go_ret
    exact ⟨rfl, RowKit.Below.refl _ _⟩
  · have hu1 : 1 ≤ u := by omega
    have hnd20 : Lib.nDigits u ≤ 20 := by have := Lib.numDigits_eq u hu1 hu64; split at this <;> omega
    have hal : Tryz.prog.arrayLen 183 = 24 := by simp [Program.arrayLen, Tryz.underlying183]
    have hsl1 : ∀ W, (Instr.sliceAt 183 (.pointer (some ⟨w.heap.size, 0, none⟩)) none (some (.int .i64 (Lib.nDigits u : Int))) none).run Tryz.prog W = .ok (.slice (some ⟨w.heap.size, 0, none⟩) (Lib.nDigits u) 24) W := fun W => by
      rw [run_sliceAt_array_h W 183 ⟨w.heap.size, 0, none⟩ (by simp [Program.arrayLen, Program.elem, Tryz.underlying183]) .i64 (Lib.nDigits u : Int) (by omega) (by rw [hal]; omega)]
      go_simp
    have hH0 := Lib.holds_zero0 w 183 (Lib.nDigits u) (by omega)
    have hfmt := Tryz.internal_strconv_formatBase10 w.heap.size 0 24 u (Array.replicate (Lib.nDigits u) 0) (w.alloc (.cells Lib.zeros24 183)) hH0 (by rw [Array.size_replicate]; exact Lib.lt_pow_nDigits u) hu64 (by rw [Array.size_replicate]; omega)
    rw [Array.size_replicate] at hfmt
    have HH0 := Lib.hid hH0
    have HN := Lib.hid hs
    have b0 : ¬ (u : Int) < 100 := by omega
    clear hH0 hal hs
    go_enter Tryz.func98, Tryz.ntmps98
    go_wp2_with (first
      | (go_at_call 128; refine (Tryz.internal_strconv_numDigits u hu1 hu64 _ (Lib.tabIs_alloc htab _)).mono ?_; rintro e w' ⟨rfl, rfl⟩))
    go_at_call 129
    refine hfmt.mono ?_
    rintro e w' ⟨rfl, k, v', dk, rfl, hF⟩
    have hcv : (convert 81 9 (.slice (some ⟨w.heap.size, 0, none⟩) (Lib.nDigits u) 24)).run Tryz.prog ((putRow (fun (b : UInt8) => Value.int .u8 (b.toNat : Int)) (w.alloc (.cells Lib.zeros24 183)) w.heap.size 0 dk).drewN k) = .ok (.string ⟨(Lib.decDigits u).toArray⟩) ((putRow (fun (b : UInt8) => Value.int .u8 (b.toNat : Int)) (w.alloc (.cells Lib.zeros24 183)) w.heap.size 0 dk).drewN k) := by
      have h := run_convert_bytes_back (P := Tryz.prog) ((putRow (fun (b : UInt8) => Value.int .u8 (b.toNat : Int)) (w.alloc (.cells Lib.zeros24 183)) w.heap.size 0 dk).drewN k) 81 9 5 ⟨w.heap.size, 0, none⟩ 24 (Lib.decDigits u) Tryz.underlying81 Tryz.underlying5 Tryz.underlying9 (fun j hj => by
        rw [Lib.row_is_numeral hF j hj, Lib.add_plain, World.cell?_drewN]
        exact cell?_putRow (fun (b : UInt8) => Value.int .u8 (b.toNat : Int)) _ w.heap.size 0 _ dk HH0.out (by rw [hF.size, Array.size_replicate]) j (by rw [hF.size]; rw [Lib.decDigits_length] at hj; exact hj))
      rw [Lib.decDigits_length] at h
      exact h
    have hbel : RowKit.Below w.heap.size w ((putRow (fun (b : UInt8) => Value.int .u8 (b.toNat : Int)) (w.alloc (.cells Lib.zeros24 183)) w.heap.size 0 dk).drewN k) := by
      rw [alloc_eq_grow]
      obtain ⟨os', _, e⟩ := putRow_grow_new (fun (b : UInt8) => Value.int .u8 (b.toNat : Int)) w #[.cells Lib.zeros24 183] w.heap.size 0 dk (Nat.le_refl _)
      rw [e]
      exact below_grow_drew w k os'
    generalize (putRow (fun (b : UInt8) => Value.int .u8 (b.toNat : Int)) (w.alloc (.cells Lib.zeros24 183)) w.heap.size 0 dk).drewN k = w2 at *
    go_wp2
    go_ret
    exact ⟨rfl, hbel⟩
theorem fu75_calls (u : Nat) (hu64 : u < 18446744073709551616) (w : World) (hw : Tabs w) :
    Calls Tryz.prog 75 #[.int .u64 u, .int .i64 10] w fun e w' => e = .returned (.string ⟨(Lib.decDigits u).toArray⟩) ∧ RowKit.Below w.heap.size w w' := by
  have A := fu98_calls u hu64 w hw
  go_enter Tryz.func75, Tryz.ntmps75
  go_wp2_with (go_at_call 98; refine A.mono ?_; rintro e w' ⟨rfl, hb⟩)
  go_ret
  exact ⟨rfl, hb⟩
end Go.Proofs.YtnggkkdcddpjlaaGreatDoor
