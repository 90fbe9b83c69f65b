/- FormatFloat at 'f', the shortest: what it answers. -/
import Derived.Test.YtnggkkdcddpjlaaGreatDoorFtb
namespace Go.Proofs.YtnggkkdcddpjlaaGreatDoor
set_option linter.unusedVariables false
set_option linter.unusedSimpArgs false
open Go.RowKit
/-- The bytes as a text. -/
theorem ub_cells {B : Nat} {w : World} {v : Value} {xs : List UInt8} (h : w.ownsRow B 5 1 v xs.length (xs.map ub)) (hx : xs ≠ []) :
    ∃ g cap, v = .slice (some ⟨g, 0, none⟩) xs.length cap ∧ ∀ j (hj : j < xs.length), w.cell? ((⟨g, 0, none⟩ : Addr).add j) = some (.int .u8 (xs[j].toNat : Int)) := by
  have hcs := h
  rcases h.2 with ⟨rfl, h0⟩ | ⟨g, cap, cur, rfl, hb, hg, h1, h2, h3, h4⟩
  · exact absurd (List.length_eq_zero_iff.1 h0) hx
  · refine ⟨g, cap, rfl, fun j hj => ?_⟩
    have := World.ownsRow.cells hcs (g := g) rfl j (.int .u8 (xs[j].toNat : Int)) (by rw [List.getElem?_map, List.getElem?_eq_getElem hj]; rfl)
    exact this
theorem efI_ne (db : Nat → UInt8) (dp : Int) (nd : Nat) : efI db dp nd ≠ [] := by
  unfold efI
  by_cases c : 0 < dp
  · rw [if_pos c]
    intro h
    have := congrArg List.length h
    rw [List.length_append, dgs_len, zrs_len] at this
    simp at this
    omega
  · rw [if_neg c]; simp
theorem ftO_ne (ng : Bool) (r : Nat × Int) : ftO ng r ≠ [] := by
  unfold ftO
  intro h
  have h := (List.append_eq_nil_iff.1 h).1
  exact efI_ne _ _ _ (List.append_eq_nil_iff.1 h).2
theorem ftZ_ne (ng : Bool) : ftZ ng ≠ [] := by
  unfold ftZ
  intro h
  have h := (List.append_eq_nil_iff.1 h).1
  exact efI_ne _ _ _ (List.append_eq_nil_iff.1 h).2
theorem mk24 (w : World) : (Instr.makeSlice 81 (.int .i64 0) (.int .i64 (max 3 24))).run Tryz.prog w = .ok (.slice (some ⟨w.heap.size, 0, none⟩) 0 24) (w.alloc (.cells Lib.zeros24 5)) := by kernel_rfl
theorem cv_back (w : World) (g cap : Nat) (xs : List UInt8) (hc : ∀ j (hj : j < xs.length), w.cell? ((⟨g, 0, none⟩ : Addr).add j) = some (.int .u8 (xs[j].toNat : Int))) :
    (convert 81 9 (.slice (some ⟨g, 0, none⟩) xs.length cap)).run Tryz.prog w = .ok (.string ⟨xs.toArray⟩) w :=
  run_convert_bytes_back (P := Tryz.prog) w 81 9 5 ⟨g, 0, none⟩ cap xs Tryz.underlying81 Tryz.underlying5 Tryz.underlying9 (fun j hj => hc j hj)
set_option maxRecDepth 100000 in
theorem ff95_64 (x : Nat) (xs : List UInt8) (hxs : xs ≠ []) (w : World) (hw : Tabs w)
    (H : ∀ (B : Nat) (v : Value) (w : World), Tabs w → B ≤ w.heap.size → w.ownsRow B 5 1 v 0 [] → Calls Tryz.prog 126 #[v, .float .f64 x, .int .u8 102, .int .i64 (-1)] w fun e w' => ∃ v', e = .returned v' ∧ OutAt B w w' v' xs) :
    Calls Tryz.prog 95 #[.float .f64 x, .int .u8 102, .int .i64 (-1), .int .i64 64] w fun e w' => e = .returned (.string ⟨xs.toArray⟩) ∧ Below w.heap.size w w' := by
  have hmk := mk24 w
  have hown := World.ownsRow_made w (e := 5) (base := w.heap.size) (size := 1) Lib.zeros24 24 (Nat.le_refl _) (by unfold maxLen; omega) (by decide)
  have hb0 : Below w.heap.size w (w.alloc (.cells Lib.zeros24 5)) := (Below.refl _ _).alloc (Nat.le_refl _) _
  have hT := hw.belowTop hb0
  have HH := H w.heap.size _ _ hT hb0.size hown
  clear H hown
  go_enter Tryz.func95, Tryz.ntmps95
  go_upto_region 4 with fail
  generalize w.alloc (.cells Lib.zeros24 5) = w1 at *
  go_wp2_with (go_at_call 126; refine HH.mono ?_; rintro e w2 ⟨v', rfl, hO, hB⟩; obtain ⟨g, cap, rfl, hcl⟩ := ub_cells hO hxs; have hcv := cv_back w2 g cap xs hcl)
  go_ret
  exact ⟨rfl, hb0.trans (hB.mono (Nat.le_refl _))⟩
set_option maxRecDepth 100000 in
theorem ff72_64 (x : Nat) (xs : List UInt8) (hxs : xs ≠ []) (w : World) (hw : Tabs w)
    (H : ∀ (B : Nat) (v : Value) (w : World), Tabs w → B ≤ w.heap.size → w.ownsRow B 5 1 v 0 [] → Calls Tryz.prog 126 #[v, .float .f64 x, .int .u8 102, .int .i64 (-1)] w fun e w' => ∃ v', e = .returned v' ∧ OutAt B w w' v' xs) :
    Calls Tryz.prog 72 #[.float .f64 x, .int .u8 102, .int .i64 (-1), .int .i64 64] w fun e w' => e = .returned (.string ⟨xs.toArray⟩) ∧ Below w.heap.size w w' := by
  have A := ff95_64 x xs hxs w hw H
  go_enter Tryz.func72, Tryz.ntmps72
  go_wp2_with (go_at_call 95; refine A.mono ?_; rintro e w2 ⟨rfl, hB⟩)
  go_ret
  exact ⟨rfl, hB⟩
set_option maxRecDepth 100000 in
theorem ff95_32 (x y : Nat) (hy : floatToFloatBits .f64 x .f32 = some y) (xs : List UInt8) (hxs : xs ≠ []) (w : World) (hw : Tabs w)
    (H : ∀ (B : Nat) (v : Value) (w : World), Tabs w → B ≤ w.heap.size → w.ownsRow B 5 1 v 0 [] → Calls Tryz.prog 125 #[v, .float .f32 y, .int .u8 102, .int .i64 (-1)] w fun e w' => ∃ v', e = .returned v' ∧ OutAt B w w' v' xs) :
    Calls Tryz.prog 95 #[.float .f64 x, .int .u8 102, .int .i64 (-1), .int .i64 32] w fun e w' => e = .returned (.string ⟨xs.toArray⟩) ∧ Below w.heap.size w w' := by
  have hmk := mk24 w
  have hown := World.ownsRow_made w (e := 5) (base := w.heap.size) (size := 1) Lib.zeros24 24 (Nat.le_refl _) (by unfold maxLen; omega) (by decide)
  have hb0 : Below w.heap.size w (w.alloc (.cells Lib.zeros24 5)) := (Below.refl _ _).alloc (Nat.le_refl _) _
  have hT := hw.belowTop hb0
  have HH := H w.heap.size _ _ hT hb0.size hown
  clear H hown
  have hcf : ∀ w, (convert 23 77 (.float .f64 x)).run Tryz.prog w = .ok (.float .f32 y) w := fun w => run_convert_float_float w 23 77 .f64 .f32 x y (by rw [Tryz.underlying23]; rfl) Tryz.underlying77 hy
  go_enter Tryz.func95, Tryz.ntmps95
  go_upto_region 2 with fail
  generalize w.alloc (.cells Lib.zeros24 5) = w1 at *
  go_wp2_with (go_at_call 125; refine HH.mono ?_; rintro e w2 ⟨v', rfl, hO, hB⟩; obtain ⟨g, cap, rfl, hcl⟩ := ub_cells hO hxs; have hcv := cv_back w2 g cap xs hcl)
  go_ret
  exact ⟨rfl, hb0.trans (hB.mono (Nat.le_refl _))⟩
set_option maxRecDepth 100000 in
theorem ff72_32 (x y : Nat) (hy : floatToFloatBits .f64 x .f32 = some y) (xs : List UInt8) (hxs : xs ≠ []) (w : World) (hw : Tabs w)
    (H : ∀ (B : Nat) (v : Value) (w : World), Tabs w → B ≤ w.heap.size → w.ownsRow B 5 1 v 0 [] → Calls Tryz.prog 125 #[v, .float .f32 y, .int .u8 102, .int .i64 (-1)] w fun e w' => ∃ v', e = .returned v' ∧ OutAt B w w' v' xs) :
    Calls Tryz.prog 72 #[.float .f64 x, .int .u8 102, .int .i64 (-1), .int .i64 32] w fun e w' => e = .returned (.string ⟨xs.toArray⟩) ∧ Below w.heap.size w w' := by
  have A := ff95_32 x y hy xs hxs w hw H
  go_enter Tryz.func72, Tryz.ntmps72
  go_wp2_with (go_at_call 95; refine A.mono ?_; rintro e w2 ⟨rfl, hB⟩)
  go_ret
  exact ⟨rfl, hB⟩
end Go.Proofs.YtnggkkdcddpjlaaGreatDoor
