/- The walks of the two laws, over a world that holds the tables. -/
import Derived.Test.YtnggkkdcddpjlaaGreatDoorLw
import Derived.StillTailTactics
import Derived.Laws.ResultCell
import Derived.Deep.RegionHeld3
namespace Go.Proofs.YtnggkkdcddpjlaaGreatDoor
set_option linter.unusedVariables false
set_option linter.unusedSimpArgs false
section
open Go.RowKit
def cwIn (M F : Nat) : Bool := FloatKind.f64.format.order F (Op.negFloat .f64 M) == some .gt && FloatKind.f64.format.order F M == some .lt
@[go_sem] theorem run_store_float {P : Program} {w : World} {a : Addr} {m : Mode} (k : FloatKind) (v : Nat) : (store a (.float k v) m).run P w = stored P w a (.float k v) m := run_store P w a _ m rfl
theorem set_same {w : World} {a : Addr} {v : Value} (h : (w.cell? a).isSome = true) : (w.setCell a v).cell? a = some v := by
  obtain ⟨u, hu⟩ := Option.isSome_iff_exists.mp h
  exact World.cell?_setCell_same _ _ _ hu
/-- Seven cells of one block written in a row. -/
def put7 (w : World) (b : Nat) (v0 v1 v2 v3 v4 v5 v6 : Value) : World :=
  ((((((w.setCell ⟨b, 0, none⟩ v0).setCell ⟨b, 1, none⟩ v1).setCell ⟨b, 2, none⟩ v2).setCell ⟨b, 3, none⟩ v3).setCell ⟨b, 4, none⟩ v4).setCell ⟨b, 5, none⟩ v5).setCell ⟨b, 6, none⟩ v6
/-- What the seven cells hold behind the writes. -/
def Has7 (w : World) (b : Nat) (v0 v1 v2 v3 v4 v5 v6 : Value) : Prop :=
  w.cell? ⟨b, 0, none⟩ = some v0 ∧ w.cell? ⟨b, 1, none⟩ = some v1 ∧ w.cell? ⟨b, 2, none⟩ = some v2 ∧ w.cell? ⟨b, 3, none⟩ = some v3 ∧ w.cell? ⟨b, 4, none⟩ = some v4 ∧ w.cell? ⟨b, 5, none⟩ = some v5 ∧ w.cell? ⟨b, 6, none⟩ = some v6
theorem put7_has (w : World) (b : Nat) (v0 v1 v2 v3 v4 v5 v6 u0 u1 u2 u3 u4 u5 u6 : Value) (h : Has7 w b u0 u1 u2 u3 u4 u5 u6) : Has7 (put7 w b v0 v1 v2 v3 v4 v5 v6) b v0 v1 v2 v3 v4 v5 v6 := by
  obtain ⟨h0, h1, h2, h3, h4, h5, h6⟩ := h
  unfold Has7 put7
  refine ⟨?_, ?_, ?_, ?_, ?_, ?_, ?_⟩ <;> simp [set_same, World.cell?_setCell_other, h0, h1, h2, h3, h4, h5, h6]
theorem put7_far (w : World) (b c : Nat) (v0 v1 v2 v3 v4 v5 v6 u0 u1 u2 u3 u4 u5 u6 : Value) (hbc : b ≠ c) (h : Has7 w c u0 u1 u2 u3 u4 u5 u6) : Has7 (put7 w b v0 v1 v2 v3 v4 v5 v6) c u0 u1 u2 u3 u4 u5 u6 := by
  obtain ⟨h0, h1, h2, h3, h4, h5, h6⟩ := h
  unfold Has7 put7
  refine ⟨?_, ?_, ?_, ?_, ?_, ?_, ?_⟩ <;> simp [World.cell?_setCell_other, h0, h1, h2, h3, h4, h5, h6]
theorem put7_frozen (w : World) (b : Nat) (v0 v1 v2 v3 v4 v5 v6 : Value) (a : Addr) : (put7 w b v0 v1 v2 v3 v4 v5 v6).frozen? a = w.frozen? a := by
  unfold put7; simp
theorem put7_below {B : Nat} {w0 w : World} (h : Below B w0 w) (b : Nat) (hb : B ≤ b) (v0 v1 v2 v3 v4 v5 v6 : Value) : Below B w0 (put7 w b v0 v1 v2 v3 v4 v5 v6) :=
  ((((((h.setCell hb _).setCell hb _).setCell hb _).setCell hb _).setCell hb _).setCell hb _).setCell hb _
theorem cw_end (w w5 : World) (v0 v1 v2 v3 v4 v5 v6 u0 u1 u2 u3 u4 u5 u6 : Value) (h : Has7 w5 (w.heap.size + 1) u0 u1 u2 u3 u4 u5 u6) (hb : Below w.heap.size w w5) (fn : Func) (t : Tmp) (hfn : fn.results = #[.cell t 27]) (a : Act)
    (ht : (a.tmps[t]?).getD undef = .pointer (some ⟨w.heap.size + 1, 0, none⟩)) (hdf : a.defers = []) :
    bodyPost Tryz.prog fn (fun e w' => e = .returned (.agg #[v0, v1, v2, v3, v4, v5, v6]) ∧ Below w.heap.size w w') .ret a (put7 w5 (w.heap.size + 1) v0 v1 v2 v3 v4 v5 v6) := by
  obtain ⟨c0, c1, c2, c3, c4, c5, c6⟩ := put7_has w5 (w.heap.size + 1) v0 v1 v2 v3 v4 v5 v6 _ _ _ _ _ _ _ h
  have hb6 := put7_below hb (w.heap.size + 1) (Nat.le_succ _) v0 v1 v2 v3 v4 v5 v6
  generalize put7 w5 (w.heap.size + 1) v0 v1 v2 v3 v4 v5 v6 = w6 at *
  refine bodyPost_ret (v := .agg #[v0, v1, v2, v3, v4, v5, v6]) ?_ hdf ⟨rfl, hb6⟩
  simp [results, hfn, ht, go_sem, c0, c1, c2, c3, c4, c5, c6]
theorem far1 (w : World) (b : Nat) (v u0 u1 u2 u3 u4 u5 u6 : Value) (h : Has7 w (b + 1) u0 u1 u2 u3 u4 u5 u6) : Has7 (w.setCell ⟨b, 3, none⟩ v) (b + 1) u0 u1 u2 u3 u4 u5 u6 := by
  obtain ⟨h0, h1, h2, h3, h4, h5, h6⟩ := h
  unfold Has7
  refine ⟨?_, ?_, ?_, ?_, ?_, ?_, ?_⟩ <;> simp [World.cell?_setCell_other, h0, h1, h2, h3, h4, h5, h6]
set_option maxRecDepth 100000 in
set_option maxHeartbeats 400000 in
theorem cw_run (k I U : Int) (F M n : Nat) (S : ByteArray) (L E : Value) (w : World) (G : Nat) (hn : n = min S.size 400) (hG : G = if cwIn M F = true then F else 0) : Calls Tryz.prog 24 #[.agg #[.int .i64 k, .int .i64 I, .int .u64 U, .float .f64 F, .string S, L, E], .float .f64 M] w fun e w' => e = .returned (anyV (wrap64 ((IntKind.u64.wrap k).tmod 15)) I U G (S.extract 0 n)) ∧ Below w.heap.size w w' := by
  have hmin : min (S.size : Int) 400 = (n : Int) := by omega
  have hn1 : n ≤ S.size := by omega
  have hn2 : (n : Int) ≤ (S.size : Int) := by omega
  clear hn
  unfold anyV
  go_enter Tryz.func24, Tryz.ntmps24
  go_upto_region 1 with fail
  have hb : Below w.heap.size w ((w.alloc (.cells #[.int .i64 k, .int .i64 I, .int .u64 U, .float .f64 F, .string S, L, E] 27)).alloc (.cells #[.int .i64 0, .int .i64 0, .int .u64 0, .float .f64 0, .string ⟨#[]⟩, .slice none 0 0, .slice none 0 0] 27)) :=
    ((Below.refl _ _).alloc (Nat.le_refl _) _).alloc (by simp) _
  have hc : ∀ i v, #[Value.int .i64 k, .int .i64 I, .int .u64 U, .float .f64 F, .string S, L, E][i]? = some v → ((w.alloc (.cells #[.int .i64 k, .int .i64 I, .int .u64 U, .float .f64 F, .string S, L, E] 27)).alloc (.cells #[.int .i64 0, .int .i64 0, .int .u64 0, .float .f64 0, .string ⟨#[]⟩, .slice none 0 0, .slice none 0 0] 27)).cell? ⟨w.heap.size, i, none⟩ = some v := by
    intro i v h
    rw [World.cell?_alloc_past _ _ _ (by simp), World.cell?_alloc_new]; exact h
  have hf : ∀ b i, w.heap.size ≤ b → b < w.heap.size + 2 → ((w.alloc (.cells #[.int .i64 k, .int .i64 I, .int .u64 U, .float .f64 F, .string S, L, E] 27)).alloc (.cells #[.int .i64 0, .int .i64 0, .int .u64 0, .float .f64 0, .string ⟨#[]⟩, .slice none 0 0, .slice none 0 0] 27)).frozen? ⟨b, i, none⟩ = false := by
    intro b i h1 h2
    by_cases hbb : b = w.heap.size + 1
    · exact World.frozen?_alloc_at _ _ _ _ (by simp [hbb])
    · have e : b = w.heap.size := by omega
      subst e
      rw [World.frozen?_alloc_past _ _ _ (by simp)]
      exact World.frozen?_alloc_at _ _ _ _ rfl
  have hd : ∀ i v, #[Value.int .i64 0, .int .i64 0, .int .u64 0, .float .f64 0, .string ⟨#[]⟩, .slice none 0 0, .slice none 0 0][i]? = some v → ((w.alloc (.cells #[.int .i64 k, .int .i64 I, .int .u64 U, .float .f64 F, .string S, L, E] 27)).alloc (.cells #[.int .i64 0, .int .i64 0, .int .u64 0, .float .f64 0, .string ⟨#[]⟩, .slice none 0 0, .slice none 0 0] 27)).cell? ⟨w.heap.size + 1, i, none⟩ = some v := by
    intro i v h
    rw [World.cell?_alloc_at _ _ _ _ (by simp)]; exact h
  have c0 := hc 0 _ rfl
  have c1 := hc 1 _ rfl
  have c2 := hc 2 _ rfl
  have c3 := hc 3 _ rfl
  have c4 := hc 4 _ rfl
  have c5 := hc 5 _ rfl
  have c6 := hc 6 _ rfl
  have d0 := hd 0 _ rfl
  have d1 := hd 1 _ rfl
  have d2 := hd 2 _ rfl
  have d3 := hd 3 _ rfl
  have d4 := hd 4 _ rfl
  have d5 := hd 5 _ rfl
  have d6 := hd 6 _ rfl
  have f1 := fun i => hf w.heap.size i (Nat.le_refl _) (by omega)
  have f2 := fun i => hf (w.heap.size + 1) i (by omega) (by omega)
  clear hc hd hf
  generalize (w.alloc (.cells #[.int .i64 k, .int .i64 I, .int .u64 U, .float .f64 F, .string S, L, E] 27)).alloc (.cells #[.int .i64 0, .int .i64 0, .int .u64 0, .float .f64 0, .string ⟨#[]⟩, .slice none 0 0, .slice none 0 0] 27) = w2 at *
  go_still_tail 19, (by kernel_rfl)
  change wpList _ _ _ _ _ w2.drew
  have hb3 : Below w.heap.size w w2.drew := ⟨hb.os, hb.tape, hb.output, hb.size, hb.block⟩
  have c0 : w2.drew.cell? _ = _ := c0
  have c1 : w2.drew.cell? _ = _ := c1
  have c2 : w2.drew.cell? _ = _ := c2
  have c3 : w2.drew.cell? _ = _ := c3
  have c4 : w2.drew.cell? _ = _ := c4
  have c5 : w2.drew.cell? _ = _ := c5
  have c6 : w2.drew.cell? _ = _ := c6
  have d0 : w2.drew.cell? _ = _ := d0
  have d1 : w2.drew.cell? _ = _ := d1
  have d2 : w2.drew.cell? _ = _ := d2
  have d3 : w2.drew.cell? _ = _ := d3
  have d4 : w2.drew.cell? _ = _ := d4
  have d5 : w2.drew.cell? _ = _ := d5
  have d6 : w2.drew.cell? _ = _ := d6
  have f1 : ∀ i, w2.drew.frozen? ⟨w.heap.size, i, none⟩ = false := f1
  have f2 : ∀ i, w2.drew.frozen? ⟨w.heap.size + 1, i, none⟩ = false := f2
  clear hb
  generalize w2.drew = w3 at *
  go_wp2
  have hs := put7_has w3 w.heap.size (.int .i64 (wrap64 ((IntKind.u64.wrap k).tmod 15))) (.int .i64 I) (.int .u64 U) (.float .f64 F) (.string (S.extract 0 n)) (.slice none 0 0) (.slice none 0 0) _ _ _ _ _ _ _ ⟨c0, c1, c2, c3, c4, c5, c6⟩
  have hd := put7_far w3 w.heap.size (w.heap.size + 1) (.int .i64 (wrap64 ((IntKind.u64.wrap k).tmod 15))) (.int .i64 I) (.int .u64 U) (.float .f64 F) (.string (S.extract 0 n)) (.slice none 0 0) (.slice none 0 0) _ _ _ _ _ _ _ (by omega) ⟨d0, d1, d2, d3, d4, d5, d6⟩
  have hb4 := put7_below hb3 w.heap.size (Nat.le_refl _) (.int .i64 (wrap64 ((IntKind.u64.wrap k).tmod 15))) (.int .i64 I) (.int .u64 U) (.float .f64 F) (.string (S.extract 0 n)) (.slice none 0 0) (.slice none 0 0)
  have g1 : ∀ i, (put7 w3 w.heap.size (.int .i64 (wrap64 ((IntKind.u64.wrap k).tmod 15))) (.int .i64 I) (.int .u64 U) (.float .f64 F) (.string (S.extract 0 n)) (.slice none 0 0) (.slice none 0 0)).frozen? ⟨w.heap.size, i, none⟩ = false := fun i => (put7_frozen ..).trans (f1 i)
  have g2 : ∀ i, (put7 w3 w.heap.size (.int .i64 (wrap64 ((IntKind.u64.wrap k).tmod 15))) (.int .i64 I) (.int .u64 U) (.float .f64 F) (.string (S.extract 0 n)) (.slice none 0 0) (.slice none 0 0)).frozen? ⟨w.heap.size + 1, i, none⟩ = false := fun i => (put7_frozen ..).trans (f2 i)
  unfold put7 at hs hd hb4 g1 g2
  clear c0 c1 c2 c3 c4 c5 c6 d0 d1 d2 d3 d4 d5 d6 f1 f2 hb3
  generalize (((((((w3.setCell ⟨w.heap.size, 0, none⟩ (.int .i64 (wrap64 ((IntKind.u64.wrap k).tmod 15)))).setCell ⟨w.heap.size, 1, none⟩ (.int .i64 I)).setCell ⟨w.heap.size, 2, none⟩ (.int .u64 U)).setCell ⟨w.heap.size, 3, none⟩ (.float .f64 F)).setCell ⟨w.heap.size, 4, none⟩ (.string (S.extract 0 n))).setCell ⟨w.heap.size, 5, none⟩ (.slice none 0 0)).setCell ⟨w.heap.size, 6, none⟩ (.slice none 0 0)) = w4 at *
  clear w3
  obtain ⟨c0, c1, c2, c3, c4, c5, c6⟩ := hs
  obtain ⟨d0, d1, d2, d3, d4, d5, d6⟩ := hd
  have hcw : cwIn M F = (FloatKind.f64.format.order F (Op.negFloat .f64 M) == some .gt && FloatKind.f64.format.order F M == some .lt) := rfl
  rw [hcw] at hG
  clear hcw
  have hdf := fun v : Value => put7_far
  clear hdf
  rw [fl_neg]
  cases hx : (FloatKind.f64.format.order F (Op.negFloat .f64 M) == some .gt) <;> cases hy : (FloatKind.f64.format.order F M == some .lt)
  all_goals rw [hx, hy] at hG
  all_goals (first | (have hG : G = F := hG) | (have hG : G = 0 := hG))
  all_goals go_wp2
  all_goals subst hG
  · change bodyPost Tryz.prog Tryz.f24 _ Exit.ret _ (put7 (w4.setCell ⟨w.heap.size, 3, none⟩ (.float .f64 0)) (w.heap.size + 1) (.int .i64 (wrap64 ((IntKind.u64.wrap k).tmod 15))) (.int .i64 I) (.int .u64 U) (.float .f64 0) (.string (S.extract 0 n)) (.slice none 0 0) (.slice none 0 0))
    refine cw_end w _ _ _ _ _ _ _ _ _ _ _ _ _ _ _ (far1 _ _ _ _ _ _ _ _ _ _ ⟨d0, d1, d2, d3, d4, d5, d6⟩) (hb4.setCell (Nat.le_refl _) _) Tryz.f24 4 (by kernel_rfl) _ ?_ ?_
    · rfl
    · rfl
  · change bodyPost Tryz.prog Tryz.f24 _ Exit.ret _ (put7 (w4.setCell ⟨w.heap.size, 3, none⟩ (.float .f64 0)) (w.heap.size + 1) (.int .i64 (wrap64 ((IntKind.u64.wrap k).tmod 15))) (.int .i64 I) (.int .u64 U) (.float .f64 0) (.string (S.extract 0 n)) (.slice none 0 0) (.slice none 0 0))
    refine cw_end w _ _ _ _ _ _ _ _ _ _ _ _ _ _ _ (far1 _ _ _ _ _ _ _ _ _ _ ⟨d0, d1, d2, d3, d4, d5, d6⟩) (hb4.setCell (Nat.le_refl _) _) Tryz.f24 4 (by kernel_rfl) _ ?_ ?_
    · rfl
    · rfl
  · change bodyPost Tryz.prog Tryz.f24 _ Exit.ret _ (put7 (w4.setCell ⟨w.heap.size, 3, none⟩ (.float .f64 0)) (w.heap.size + 1) (.int .i64 (wrap64 ((IntKind.u64.wrap k).tmod 15))) (.int .i64 I) (.int .u64 U) (.float .f64 0) (.string (S.extract 0 n)) (.slice none 0 0) (.slice none 0 0))
    refine cw_end w _ _ _ _ _ _ _ _ _ _ _ _ _ _ _ (far1 _ _ _ _ _ _ _ _ _ _ ⟨d0, d1, d2, d3, d4, d5, d6⟩) (hb4.setCell (Nat.le_refl _) _) Tryz.f24 4 (by kernel_rfl) _ ?_ ?_
    · rfl
    · rfl
  · change bodyPost Tryz.prog Tryz.f24 _ Exit.ret _ (put7 w4 (w.heap.size + 1) (.int .i64 (wrap64 ((IntKind.u64.wrap k).tmod 15))) (.int .i64 I) (.int .u64 U) (.float .f64 G) (.string (S.extract 0 n)) (.slice none 0 0) (.slice none 0 0))
    refine cw_end w _ _ _ _ _ _ _ _ _ _ _ _ _ _ _ (⟨d0, d1, d2, d3, d4, d5, d6⟩) (hb4) Tryz.f24 4 (by kernel_rfl) _ ?_ ?_
    · rfl
    · rfl
end
section
open Go.RowKit
theorem read_place (x : Nat) : ∀ s m p, FloatKind.f64.format.read x = .number s m p → -1100 ≤ p := by
  intro s m p h
  have h0 := fmt64.1
  unfold Ieee.Format.read at h
  rw [h0] at h
  dsimp only at h
  split at h
  · injection h with _ _ h; omega
  · split at h
    · injection h with _ _ h; omega
    · split at h <;> cases h
theorem cmp_lt (a b : Int) (h : compare a b = .lt) : a < b := by
  rw [Int.compare_eq_lt] at h; exact h
theorem cmp_gt (a b : Int) (h : compare a b = .gt) : b < a := by
  rw [Int.compare_eq_gt] at h; exact h
theorem cw_fb (M F c j mM : Nat) (pM : Int) (e1 : FloatKind.f64.format.read M = .number false mM pM) (e2 : FloatKind.f64.format.read (Op.negFloat .f64 M) = .number true mM pM)
    (hp : -1100 ≤ pM) (hm : mg mM pM ≤ c * 2 ^ (j + 1100)) (h : cwIn M F = true) : FB .f64 c j F := by
  unfold cwIn at h
  rw [Bool.and_eq_true] at h
  obtain ⟨h1, h2⟩ := h
  unfold Ieee.Format.order at h1 h2
  rw [e2] at h1
  rw [e1] at h2
  cases hF : FloatKind.f64.format.read F with
  | nan s t => rw [hF] at h1; simp [Ieee.Datum.order] at h1
  | infinity s => rw [hF] at h1 h2; cases s <;> simp [Ieee.Datum.order] at h1 h2
  | number s m p =>
    have hp0 := read_place F s m p hF
    rw [hF] at h1 h2
    simp only [Ieee.Datum.order, beq_iff_eq, Option.some.injEq] at h1 h2
    have h1 := cmp_gt _ _ h1
    have h2 := cmp_lt _ _ h2
    refine ⟨s, m, p, hF, hp0, Nat.le_trans ?_ hm⟩
    unfold mg
    simp only [Ieee.signed, Nat.shiftLeft_eq] at h1 h2
    have h3 : m * 2 ^ (p - min p pM).toNat ≤ mM * 2 ^ (pM - min p pM).toNat := by
      cases s
      · simp only [Bool.false_eq_true, if_false] at h1 h2; omega
      · simp only [Bool.false_eq_true, if_false, if_true] at h1 h2; omega
    have a1 : (p + 1100).toNat = (p - min p pM).toNat + (min p pM + 1100).toNat := by omega
    have a2 : (pM + 1100).toNat = (pM - min p pM).toNat + (min p pM + 1100).toNat := by omega
    rw [a1, a2, Nat.pow_add, Nat.pow_add, ← Nat.mul_assoc, ← Nat.mul_assoc]
    exact Nat.mul_le_mul_right _ h3
theorem cw_zero (c j : Nat) : FB .f64 c j 0 := ⟨false, 0, -1074, by decide, by decide, by unfold mg; rw [Nat.zero_mul]; exact Nat.zero_le _⟩
theorem mg_pow (m a c j : Nat) (p : Int) (hm : m = c * 2 ^ a) (hp : a + (p + 1100).toNat = j + 1100) : mg m p ≤ c * 2 ^ (j + 1100) := by
  unfold mg
  rw [hm, Nat.mul_assoc, ← Nat.pow_add, hp]
  exact Nat.le_refl _
theorem cw_plain (F : Nat) : FB .f64 1 61 (if cwIn 4881901996069617664 F = true then F else 0) := by
  split
  · rename_i h
    exact cw_fb _ F 1 61 (2 ^ 52) 9 (by decide) (by decide) (by decide) (mg_pow _ 52 1 61 9 (by decide) (by decide)) h
  · exact cw_zero _ _
theorem cw_near (F : Nat) : FB .f64 127 0 (if cwIn 4638637247447433216 F = true then F else 0) := by
  split
  · rename_i h
    exact cw_fb _ F 127 0 (127 * 2 ^ 46) (-46) (by decide) (by decide) (by decide) (mg_pow _ 46 127 0 (-46) (by decide) (by decide)) h
  · exact cw_zero _ _
theorem two_box (w w' : World) (c0 c1 c2 c3 c4 c5 c6 z0 z1 z2 z3 z4 z5 z6 : Value)
    (hb : Below ((w.alloc (.cells #[c0, c1, c2, c3, c4, c5, c6] 27)).alloc (.cells #[z0, z1, z2, z3, z4, z5, z6] 27)).heap.size ((w.alloc (.cells #[c0, c1, c2, c3, c4, c5, c6] 27)).alloc (.cells #[z0, z1, z2, z3, z4, z5, z6] 27)) w') :
    Has7 w' (w.heap.size + 1) z0 z1 z2 z3 z4 z5 z6 ∧ (∀ i, w'.frozen? ⟨w.heap.size + 1, i, none⟩ = false) ∧ Below w.heap.size w w' := by
  have hz : ∀ i v, #[z0, z1, z2, z3, z4, z5, z6][i]? = some v → w'.cell? ⟨w.heap.size + 1, i, none⟩ = some v := by
    intro i v h
    rw [hb.cell (p := ⟨w.heap.size + 1, i, none⟩) (by simp), World.cell?_alloc_at _ _ _ _ (by simp)]
    exact h
  refine ⟨⟨hz 0 _ rfl, hz 1 _ rfl, hz 2 _ rfl, hz 3 _ rfl, hz 4 _ rfl, hz 5 _ rfl, hz 6 _ rfl⟩, ?_, ?_⟩
  · intro i
    rw [hb.frozen (p := ⟨w.heap.size + 1, i, none⟩) (by simp)]
    exact World.frozen?_alloc_at _ _ _ _ (by simp)
  · exact ((((Below.refl _ _).alloc (Nat.le_refl _) _).alloc (by simp) _).trans (hb.mono (by simp; omega)))
set_option maxRecDepth 100000 in
set_option maxHeartbeats 400000 in
theorem cp_run (k I U K : Int) (F G : Nat) (S T : ByteArray) (L E : Value) (w : World)
    (hc : ∀ w, Calls Tryz.prog 24 #[.agg #[.int .i64 k, .int .i64 I, .int .u64 U, .float .f64 F, .string S, L, E], .float .f64 4881901996069617664] w fun e w' => e = .returned (.agg #[.int .i64 K, .int .i64 I, .int .u64 U, .float .f64 G, .string T, .slice none 0 0, .slice none 0 0]) ∧ Below w.heap.size w w') :
    Calls Tryz.prog 6 #[.agg #[.int .i64 k, .int .i64 I, .int .u64 U, .float .f64 F, .string S, L, E]] w fun e w' => e = .returned (.agg #[.int .i64 K, .int .i64 I, .int .u64 U, .float .f64 G, .string T, .slice none 0 0, .slice none 0 0]) ∧ Below w.heap.size w w' := by
  go_enter Tryz.func6, Tryz.ntmps6
  go_wp2_with (go_at_call 24; refine (hc _).mono ?_; rintro e w' ⟨rfl, hb⟩; obtain ⟨⟨d0, d1, d2, d3, d4, d5, d6⟩, f2, hb1⟩ := two_box w w' _ _ _ _ _ _ _ _ _ _ _ _ _ _ hb)
  change bodyPost Tryz.prog Tryz.f6 _ Exit.ret _ (put7 w' (w.heap.size + 1) (.int .i64 K) (.int .i64 I) (.int .u64 U) (.float .f64 G) (.string T) (.slice none 0 0) (.slice none 0 0))
  refine cw_end w _ _ _ _ _ _ _ _ _ _ _ _ _ _ _ ⟨d0, d1, d2, d3, d4, d5, d6⟩ hb1 Tryz.f6 2 (by kernel_rfl) _ ?_ ?_
  · rfl
  · rfl
set_option maxRecDepth 100000 in
set_option maxHeartbeats 400000 in
theorem cn_run (k I U K : Int) (F G : Nat) (S T : ByteArray) (L E : Value) (w : World)
    (hc : ∀ w, Calls Tryz.prog 24 #[.agg #[.int .i64 k, .int .i64 I, .int .u64 U, .float .f64 F, .string S, L, E], .float .f64 4638637247447433216] w fun e w' => e = .returned (.agg #[.int .i64 K, .int .i64 I, .int .u64 U, .float .f64 G, .string T, .slice none 0 0, .slice none 0 0]) ∧ Below w.heap.size w w') :
    Calls Tryz.prog 19 #[.agg #[.int .i64 k, .int .i64 I, .int .u64 U, .float .f64 F, .string S, L, E]] w fun e w' => e = .returned (.agg #[.int .i64 K, .int .i64 I, .int .u64 U, .float .f64 G, .string T, .slice none 0 0, .slice none 0 0]) ∧ Below w.heap.size w w' := by
  go_enter Tryz.func19, Tryz.ntmps19
  go_wp2_with (go_at_call 24; refine (hc _).mono ?_; rintro e w' ⟨rfl, hb⟩; obtain ⟨⟨d0, d1, d2, d3, d4, d5, d6⟩, f2, hb1⟩ := two_box w w' _ _ _ _ _ _ _ _ _ _ _ _ _ _ hb)
  change bodyPost Tryz.prog Tryz.f19 _ Exit.ret _ (put7 w' (w.heap.size + 1) (.int .i64 K) (.int .i64 I) (.int .u64 U) (.float .f64 G) (.string T) (.slice none 0 0) (.slice none 0 0))
  refine cw_end w _ _ _ _ _ _ _ _ _ _ _ _ _ _ _ ⟨d0, d1, d2, d3, d4, d5, d6⟩ hb1 Tryz.f19 2 (by kernel_rfl) _ ?_ ?_
  · rfl
  · rfl

set_option maxRecDepth 100000 in
set_option maxHeartbeats 400000 in
theorem fits_run (k I U : Int) (F : Nat) (S : ByteArray) (pL pE : Option Addr) (nL nE cL cE : Nat) (w : World) :
    Calls Tryz.prog 5 #[.agg #[.int .i64 k, .int .i64 I, .int .u64 U, .float .f64 F, .string S, .slice pL nL cL, .slice pE nE cE]] w fun e w' => ∃ b, e = .returned (.bool b) ∧ Below w.heap.size w w' := by
  have hb0 : Below w.heap.size w (w.alloc (.cells #[.int .i64 k, .int .i64 I, .int .u64 U, .float .f64 F, .string S, .slice pL nL cL, .slice pE nE cE] 27)) := (Below.refl _ _).alloc (Nat.le_refl _) _
  go_enter Tryz.func5, Tryz.ntmps5
  go_wp2
  all_goals go_ret
  all_goals exact ⟨_, rfl, hb0⟩
theorem kindInt_run (k : Int) (w : World) : Calls Tryz.prog 21 #[.int .i64 k] w fun e w' => e = .returned (.int .i64 (wrap64 (2 + wrap64 ((IntKind.u64.wrap k).tmod 5)))) ∧ w = w' := by
  go_enter Tryz.func21, Tryz.ntmps21
  go_wp2
  go_ret
  exact ⟨rfl, rfl⟩
theorem kindUint_run (k : Int) (w : World) : Calls Tryz.prog 23 #[.int .i64 k] w fun e w' => e = .returned (.int .i64 (wrap64 (7 + wrap64 ((IntKind.u64.wrap k).tmod 5)))) ∧ w = w' := by
  go_enter Tryz.func23, Tryz.ntmps23
  go_wp2
  go_ret
  exact ⟨rfl, rfl⟩
set_option maxRecDepth 100000 in
set_option maxHeartbeats 400000 in
theorem same_run (a : Nat) (w : World) : Calls Tryz.prog 15 #[.float .f64 a, .float .f64 a] w fun e w' => e = .returned (.bool true) ∧ Below w.heap.size w w' := by
  cases hx : (FloatKind.f64.format.order a a != some Ordering.eq)
  all_goals go_enter Tryz.func15, Tryz.ntmps15
  all_goals go_wp2
  all_goals go_ret
  all_goals exact ⟨by simp, Below.refl _ _⟩
end
section
open Go.RowKit
theorem seven : AnsI 8 (anyV 2 7 0 0 ⟨#[]⟩) (.int .i64 7) false :=
  to8 2 7 0 0 ⟨#[]⟩ _ 7 false (val_2 7 0 0 ⟨#[]⟩) (xe27_ok _ _ (fun w => tn_int_int 7 w))
set_option maxRecDepth 100000 in
set_option maxHeartbeats 400000 in
theorem lives_run (w : World) (hw : Tabs w) (h2 : Two w) : Calls Tryz.prog 18 #[] w fun e w' => e = .returned (.bool true) ∧ Below w.heap.size w w' := by
  have HS := seven
  unfold anyV at HS
  go_enter Tryz.func18, Tryz.ntmps18
  go_wp2_with (go_at_call 8; refine (HS _ hw h2).mono ?_; rintro e w'' ⟨rfl, hb2⟩)
  go_ret
  exact ⟨rfl, hb2⟩
set_option maxRecDepth 100000 in
set_option maxHeartbeats 400000 in
theorem castInt_run (kd : Int) (k I U : Int) (F : Nat) (S : ByteArray) (q37 : Int) (b37 : Bool) (H37 : AnsI 37 (anyV k I U F S) (.int .i64 q37) b37) (Z37 : b37 = true → q37 = 0) (q38 : Int) (b38 : Bool) (H38 : AnsI 38 (anyV k I U F S) (.int .i64 q38) b38) (Z38 : b38 = true → q38 = 0) (q39 : Int) (b39 : Bool) (H39 : AnsI 39 (anyV k I U F S) (.int .i64 q39) b39) (Z39 : b39 = true → q39 = 0) (q40 : Int) (b40 : Bool) (H40 : AnsI 40 (anyV k I U F S) (.int .i64 q40) b40) (Z40 : b40 = true → q40 = 0) (q8 : Int) (b8 : Bool) (H8 : AnsI 8 (anyV k I U F S) (.int .i64 q8) b8) (Z8 : b8 = true → q8 = 0) : ∃ (q : Int) (b : Bool), (b = true → q = 0) ∧ ∀ w, Tabs w → Two w → Calls Tryz.prog 20 #[.int .i64 kd, anyV k I U F S] w fun e w' => e = .returned (.tuple #[.int .i64 q, .bool (!b)]) ∧ Below w.heap.size w w' := by
  by_cases e3 : kd = 3
  · refine ⟨q37, b37, Z37, ?_⟩
    subst e3
    intro w hw h2
    have hb0 := bel_box w k I U F S
    have hw0 := hw.belowTop hb0
    have h20 := two_below h2 hb0
    have HX := H37 _ hw0 h20
    clear H37 H38 H39 H40 H8 Z37 Z38 Z39 Z40 Z8
    unfold anyV at *
    go_enter Tryz.func20, Tryz.ntmps20
    go_wp2_with (go_at_call 37; refine HX.mono ?_; rintro e w' ⟨rfl, hb⟩)
    go_ret2
    exact ⟨rfl, hb0.trans (hb.mono hb0.size)⟩
  by_cases e4 : kd = 4
  · refine ⟨q38, b38, Z38, ?_⟩
    subst e4
    intro w hw h2
    have hb0 := bel_box w k I U F S
    have hw0 := hw.belowTop hb0
    have h20 := two_below h2 hb0
    have HX := H38 _ hw0 h20
    clear H37 H38 H39 H40 H8 Z37 Z38 Z39 Z40 Z8
    unfold anyV at *
    go_enter Tryz.func20, Tryz.ntmps20
    go_wp2_with (go_at_call 38; refine HX.mono ?_; rintro e w' ⟨rfl, hb⟩)
    go_ret2
    exact ⟨rfl, hb0.trans (hb.mono hb0.size)⟩
  by_cases e5 : kd = 5
  · refine ⟨q39, b39, Z39, ?_⟩
    subst e5
    intro w hw h2
    have hb0 := bel_box w k I U F S
    have hw0 := hw.belowTop hb0
    have h20 := two_below h2 hb0
    have HX := H39 _ hw0 h20
    clear H37 H38 H39 H40 H8 Z37 Z38 Z39 Z40 Z8
    unfold anyV at *
    go_enter Tryz.func20, Tryz.ntmps20
    go_wp2_with (go_at_call 39; refine HX.mono ?_; rintro e w' ⟨rfl, hb⟩)
    go_ret2
    exact ⟨rfl, hb0.trans (hb.mono hb0.size)⟩
  by_cases e6 : kd = 6
  · refine ⟨q40, b40, Z40, ?_⟩
    subst e6
    intro w hw h2
    have hb0 := bel_box w k I U F S
    have hw0 := hw.belowTop hb0
    have h20 := two_below h2 hb0
    have HX := H40 _ hw0 h20
    clear H37 H38 H39 H40 H8 Z37 Z38 Z39 Z40 Z8
    unfold anyV at *
    go_enter Tryz.func20, Tryz.ntmps20
    go_wp2_with (go_at_call 40; refine HX.mono ?_; rintro e w' ⟨rfl, hb⟩)
    go_ret2
    exact ⟨rfl, hb0.trans (hb.mono hb0.size)⟩
  · refine ⟨q8, b8, Z8, ?_⟩
    intro w hw h2
    have hb0 := bel_box w k I U F S
    have hw0 := hw.belowTop hb0
    have h20 := two_below h2 hb0
    have HX := H8 _ hw0 h20
    clear H37 H38 H39 H40 H8 Z37 Z38 Z39 Z40 Z8
    unfold anyV at *
    go_enter Tryz.func20, Tryz.ntmps20
    go_wp2_with (go_at_call 8; refine HX.mono ?_; rintro e w' ⟨rfl, hb⟩)
    go_ret2
    exact ⟨rfl, hb0.trans (hb.mono hb0.size)⟩
set_option maxRecDepth 100000 in
set_option maxHeartbeats 400000 in
theorem castUint_run (kd : Int) (k I U : Int) (F : Nat) (S : ByteArray) (q41 : Int) (b41 : Bool) (H41 : AnsI 41 (anyV k I U F S) (.int .u64 q41) b41) (Z41 : b41 = true → q41 = 0) (q42 : Int) (b42 : Bool) (H42 : AnsI 42 (anyV k I U F S) (.int .u64 q42) b42) (Z42 : b42 = true → q42 = 0) (q43 : Int) (b43 : Bool) (H43 : AnsI 43 (anyV k I U F S) (.int .u64 q43) b43) (Z43 : b43 = true → q43 = 0) (q44 : Int) (b44 : Bool) (H44 : AnsI 44 (anyV k I U F S) (.int .u64 q44) b44) (Z44 : b44 = true → q44 = 0) (q9 : Int) (b9 : Bool) (H9 : AnsI 9 (anyV k I U F S) (.int .u64 q9) b9) (Z9 : b9 = true → q9 = 0) : ∃ (q : Int) (b : Bool), (b = true → q = 0) ∧ ∀ w, Tabs w → Two w → Calls Tryz.prog 22 #[.int .i64 kd, anyV k I U F S] w fun e w' => e = .returned (.tuple #[.int .u64 q, .bool (!b)]) ∧ Below w.heap.size w w' := by
  by_cases e8 : kd = 8
  · refine ⟨q41, b41, Z41, ?_⟩
    subst e8
    intro w hw h2
    have hb0 := bel_box w k I U F S
    have hw0 := hw.belowTop hb0
    have h20 := two_below h2 hb0
    have HX := H41 _ hw0 h20
    clear H41 H42 H43 H44 H9 Z41 Z42 Z43 Z44 Z9
    unfold anyV at *
    go_enter Tryz.func22, Tryz.ntmps22
    go_wp2_with (go_at_call 41; refine HX.mono ?_; rintro e w' ⟨rfl, hb⟩)
    go_ret2
    exact ⟨rfl, hb0.trans (hb.mono hb0.size)⟩
  by_cases e9 : kd = 9
  · refine ⟨q42, b42, Z42, ?_⟩
    subst e9
    intro w hw h2
    have hb0 := bel_box w k I U F S
    have hw0 := hw.belowTop hb0
    have h20 := two_below h2 hb0
    have HX := H42 _ hw0 h20
    clear H41 H42 H43 H44 H9 Z41 Z42 Z43 Z44 Z9
    unfold anyV at *
    go_enter Tryz.func22, Tryz.ntmps22
    go_wp2_with (go_at_call 42; refine HX.mono ?_; rintro e w' ⟨rfl, hb⟩)
    go_ret2
    exact ⟨rfl, hb0.trans (hb.mono hb0.size)⟩
  by_cases e10 : kd = 10
  · refine ⟨q43, b43, Z43, ?_⟩
    subst e10
    intro w hw h2
    have hb0 := bel_box w k I U F S
    have hw0 := hw.belowTop hb0
    have h20 := two_below h2 hb0
    have HX := H43 _ hw0 h20
    clear H41 H42 H43 H44 H9 Z41 Z42 Z43 Z44 Z9
    unfold anyV at *
    go_enter Tryz.func22, Tryz.ntmps22
    go_wp2_with (go_at_call 43; refine HX.mono ?_; rintro e w' ⟨rfl, hb⟩)
    go_ret2
    exact ⟨rfl, hb0.trans (hb.mono hb0.size)⟩
  by_cases e11 : kd = 11
  · refine ⟨q44, b44, Z44, ?_⟩
    subst e11
    intro w hw h2
    have hb0 := bel_box w k I U F S
    have hw0 := hw.belowTop hb0
    have h20 := two_below h2 hb0
    have HX := H44 _ hw0 h20
    clear H41 H42 H43 H44 H9 Z41 Z42 Z43 Z44 Z9
    unfold anyV at *
    go_enter Tryz.func22, Tryz.ntmps22
    go_wp2_with (go_at_call 44; refine HX.mono ?_; rintro e w' ⟨rfl, hb⟩)
    go_ret2
    exact ⟨rfl, hb0.trans (hb.mono hb0.size)⟩
  · refine ⟨q9, b9, Z9, ?_⟩
    intro w hw h2
    have hb0 := bel_box w k I U F S
    have hw0 := hw.belowTop hb0
    have h20 := two_below h2 hb0
    have HX := H9 _ hw0 h20
    clear H41 H42 H43 H44 H9 Z41 Z42 Z43 Z44 Z9
    unfold anyV at *
    go_enter Tryz.func22, Tryz.ntmps22
    go_wp2_with (go_at_call 9; refine HX.mono ?_; rintro e w' ⟨rfl, hb⟩)
    go_ret2
    exact ⟨rfl, hb0.trans (hb.mono hb0.size)⟩
end
section
open Go.RowKit
/-- The box behind the first store, and the world around it. -/
structure St (w0 : World) (B : Nat) (v0 v1 v2 v3 v4 v5 v6 : Value) (w : World) : Prop where
  has : Has7 w B v0 v1 v2 v3 v4 v5 v6
  fr : ∀ i, w.frozen? ⟨B, i, none⟩ = false
  tabs : Tabs w
  two : Two w
  bel : Below w0.heap.size w0 w
  lt : B < w.heap.size
theorem St.step {w0 w w' : World} {B : Nat} {v0 v1 v2 v3 v4 v5 v6 : Value} (h : St w0 B v0 v1 v2 v3 v4 v5 v6 w) (hb : Below w.heap.size w w') : St w0 B v0 v1 v2 v3 v4 v5 v6 w' := by
  obtain ⟨⟨h0, h1, h2, h3, h4, h5, h6⟩, hf, ht, h2', hbl, hl⟩ := h
  refine ⟨⟨?_, ?_, ?_, ?_, ?_, ?_, ?_⟩, ?_, ht.belowTop hb, two_below h2' hb, hbl.trans (hb.mono hbl.size), Nat.lt_of_lt_of_le hl hb.size⟩
  · exact (hb.cell (p := ⟨B, 0, none⟩) hl).trans h0
  · exact (hb.cell (p := ⟨B, 1, none⟩) hl).trans h1
  · exact (hb.cell (p := ⟨B, 2, none⟩) hl).trans h2
  · exact (hb.cell (p := ⟨B, 3, none⟩) hl).trans h3
  · exact (hb.cell (p := ⟨B, 4, none⟩) hl).trans h4
  · exact (hb.cell (p := ⟨B, 5, none⟩) hl).trans h5
  · exact (hb.cell (p := ⟨B, 6, none⟩) hl).trans h6
  · intro i
    exact (hb.frozen (p := ⟨B, i, none⟩) hl).trans (hf i)
theorem St.box (w : World) (v0 v1 v2 v3 v4 v5 v6 : Value) (ht : Tabs w) (h2 : Two w) : St w w.heap.size v0 v1 v2 v3 v4 v5 v6 (w.alloc (.cells #[v0, v1, v2, v3, v4, v5, v6] 27)) := by
  have hb : Below w.heap.size w (w.alloc (.cells #[v0, v1, v2, v3, v4, v5, v6] 27)) := (Below.refl _ _).alloc (Nat.le_refl _) _
  have hz : ∀ i v, #[v0, v1, v2, v3, v4, v5, v6][i]? = some v → (w.alloc (.cells #[v0, v1, v2, v3, v4, v5, v6] 27)).cell? ⟨w.heap.size, i, none⟩ = some v := by
    intro i v h
    rw [World.cell?_alloc_new]; exact h
  refine ⟨⟨hz 0 _ rfl, hz 1 _ rfl, hz 2 _ rfl, hz 3 _ rfl, hz 4 _ rfl, hz 5 _ rfl, hz 6 _ rfl⟩, ?_, ht.belowTop hb, two_below h2 hb, hb, by simp⟩
  intro i
  exact World.frozen?_alloc_at _ _ _ _ rfl
theorem St.put {w0 w : World} {v0 v1 v2 v3 v4 v5 v6 : Value} (h : St w0 w0.heap.size v0 v1 v2 v3 v4 v5 v6 w) (ht : Tabs w0) (h2 : Two w0) (u0 u1 u2 u3 u4 u5 u6 : Value) : St w0 w0.heap.size u0 u1 u2 u3 u4 u5 u6 (put7 w w0.heap.size u0 u1 u2 u3 u4 u5 u6) := by
  have hb := put7_below h.bel w0.heap.size (Nat.le_refl _) u0 u1 u2 u3 u4 u5 u6
  refine ⟨put7_has _ _ _ _ _ _ _ _ _ _ _ _ _ _ _ _ h.has, fun i => (put7_frozen ..).trans (h.fr i), ht.belowTop hb, two_below h2 hb, hb, ?_⟩
  have := h.lt
  unfold put7
  simpa [World.setCell] using this
set_option maxRecDepth 100000 in
set_option maxHeartbeats 1000000 in
theorem fn3_run (k I U K : Int) (F G : Nat) (S T : ByteArray) (L E : Value) (n7 : Bool) (n8 n9 : Int) (n10 : Nat) (n11 : ByteArray) (b7 b8 b9 b10 b11 : Bool)
    (H5 : ∀ w, Calls Tryz.prog 5 #[.agg #[.int .i64 k, .int .i64 I, .int .u64 U, .float .f64 F, .string S, L, E]] w fun e w' => ∃ b, e = .returned (.bool b) ∧ Below w.heap.size w w')
    (H6 : ∀ w, Calls Tryz.prog 6 #[.agg #[.int .i64 k, .int .i64 I, .int .u64 U, .float .f64 F, .string S, L, E]] w fun e w' => e = .returned (.agg #[.int .i64 K, .int .i64 I, .int .u64 U, .float .f64 G, .string T, .slice none 0 0, .slice none 0 0]) ∧ Below w.heap.size w w')
    (H7 : AnsI 7 (anyV K I U G T) (.bool n7) b7) (H8 : AnsI 8 (anyV K I U G T) (.int .i64 n8) b8) (H9 : AnsI 9 (anyV K I U G T) (.int .u64 n9) b9) (H10 : AnsI 10 (anyV K I U G T) (.float .f64 n10) b10) (H11 : AnsI 11 (anyV K I U G T) (.string n11) b11)
    (H12 : AnsC 12 (anyV K I U G T) (.bool n7)) (H13 : AnsC 13 (anyV K I U G T) (.int .i64 n8)) (H14 : AnsC 14 (anyV K I U G T) (.int .u64 n9)) (H16 : AnsC 16 (anyV K I U G T) (.float .f64 n10)) (H17 : AnsC 17 (anyV K I U G T) (.string n11))
    (H15 : ∀ a w, Calls Tryz.prog 15 #[.float .f64 a, .float .f64 a] w fun e w' => e = .returned (.bool true) ∧ Below w.heap.size w w')
    (H18 : ∀ w, Tabs w → Two w → Calls Tryz.prog 18 #[] w fun e w' => e = .returned (.bool true) ∧ Below w.heap.size w w')
    (w : World) (hw : Tabs w) (h2 : Two w) :
    Calls Tryz.prog 3 #[.agg #[.int .i64 k, .int .i64 I, .int .u64 U, .float .f64 F, .string S, L, E]] w fun e w' => e = .returned (.bool true) ∧ Below w.heap.size w w' := by
  have hs := St.box w (.int .i64 k) (.int .i64 I) (.int .u64 U) (.float .f64 F) (.string S) L E hw h2
  unfold anyV at *
  go_enter Tryz.func3, Tryz.ntmps3
  go_upto_region 3 with (go_at_call 5; refine (H5 _).mono ?_; rintro e w' ⟨b, rfl, hb⟩; replace hs := hs.step hb; obtain ⟨c0, c1, c2, c3, c4, c5, c6⟩ := hs.has; have fr := hs.fr)
  · go_ret
    exact ⟨rfl, hs.bel⟩
  · go_upto_region 4 with (go_at_call 6; refine (H6 _).mono ?_; rintro e w9 ⟨rfl, hb9⟩; replace hs := hs.step hb9; clear hb9 c0 c1 c2 c3 c4 c5 c6 fr; obtain ⟨c0, c1, c2, c3, c4, c5, c6⟩ := hs.has; have fr := hs.fr)
    replace hs := hs.put hw h2 (.int .i64 K) (.int .i64 I) (.int .u64 U) (.float .f64 G) (.string T) (.slice none 0 0) (.slice none 0 0)
    clear c0 c1 c2 c3 c4 c5 c6 fr
    unfold put7 at hs
    generalize (((((((w9.setCell ⟨w.heap.size, 0, none⟩ (.int .i64 K)).setCell ⟨w.heap.size, 1, none⟩ (.int .i64 I)).setCell ⟨w.heap.size, 2, none⟩ (.int .u64 U)).setCell ⟨w.heap.size, 3, none⟩ (.float .f64 G)).setCell ⟨w.heap.size, 4, none⟩ (.string T)).setCell ⟨w.heap.size, 5, none⟩ (.slice none 0 0)).setCell ⟨w.heap.size, 6, none⟩ (.slice none 0 0)) = w4 at *
    obtain ⟨c0, c1, c2, c3, c4, c5, c6⟩ := hs.has
    have fr := hs.fr
    go_upto_region 5 with (go_at_call 7; refine (H7 _ hs.tabs hs.two).mono ?_; rintro e w' ⟨rfl, hb⟩; replace hs := hs.step hb; clear hb c0 c1 c2 c3 c4 c5 c6 fr; obtain ⟨c0, c1, c2, c3, c4, c5, c6⟩ := hs.has; have fr := hs.fr)
    go_upto_region 6 with (go_at_call 8; refine (H8 _ hs.tabs hs.two).mono ?_; rintro e w' ⟨rfl, hb⟩; replace hs := hs.step hb; clear hb c0 c1 c2 c3 c4 c5 c6 fr; obtain ⟨c0, c1, c2, c3, c4, c5, c6⟩ := hs.has; have fr := hs.fr)
    go_upto_region 7 with (go_at_call 9; refine (H9 _ hs.tabs hs.two).mono ?_; rintro e w' ⟨rfl, hb⟩; replace hs := hs.step hb; clear hb c0 c1 c2 c3 c4 c5 c6 fr; obtain ⟨c0, c1, c2, c3, c4, c5, c6⟩ := hs.has; have fr := hs.fr)
    go_upto_region 8 with (go_at_call 10; refine (H10 _ hs.tabs hs.two).mono ?_; rintro e w' ⟨rfl, hb⟩; replace hs := hs.step hb; clear hb c0 c1 c2 c3 c4 c5 c6 fr; obtain ⟨c0, c1, c2, c3, c4, c5, c6⟩ := hs.has; have fr := hs.fr)
    go_upto_region 9 with (go_at_call 11; refine (H11 _ hs.tabs hs.two).mono ?_; rintro e w' ⟨rfl, hb⟩; replace hs := hs.step hb; clear hb c0 c1 c2 c3 c4 c5 c6 fr; obtain ⟨c0, c1, c2, c3, c4, c5, c6⟩ := hs.has; have fr := hs.fr)
    go_wp2_with (first | (go_at_call 12; refine (H12 _ hs.tabs hs.two).mono ?_; rintro e w' ⟨rfl, hb⟩; replace hs := hs.step hb; clear hb c0 c1 c2 c3 c4 c5 c6 fr; obtain ⟨c0, c1, c2, c3, c4, c5, c6⟩ := hs.has; have fr := hs.fr) | (go_at_call 13; refine (H13 _ hs.tabs hs.two).mono ?_; rintro e w' ⟨rfl, hb⟩; replace hs := hs.step hb; clear hb c0 c1 c2 c3 c4 c5 c6 fr; obtain ⟨c0, c1, c2, c3, c4, c5, c6⟩ := hs.has; have fr := hs.fr) | (go_at_call 14; refine (H14 _ hs.tabs hs.two).mono ?_; rintro e w' ⟨rfl, hb⟩; replace hs := hs.step hb; clear hb c0 c1 c2 c3 c4 c5 c6 fr; obtain ⟨c0, c1, c2, c3, c4, c5, c6⟩ := hs.has; have fr := hs.fr) | (go_at_call 16; refine (H16 _ hs.tabs hs.two).mono ?_; rintro e w' ⟨rfl, hb⟩; replace hs := hs.step hb; clear hb c0 c1 c2 c3 c4 c5 c6 fr; obtain ⟨c0, c1, c2, c3, c4, c5, c6⟩ := hs.has; have fr := hs.fr) | (go_at_call 15; refine (H15 _ _).mono ?_; rintro e w' ⟨rfl, hb⟩; replace hs := hs.step hb; clear hb c0 c1 c2 c3 c4 c5 c6 fr; obtain ⟨c0, c1, c2, c3, c4, c5, c6⟩ := hs.has; have fr := hs.fr) | (go_at_call 17; refine (H17 _ hs.tabs hs.two).mono ?_; rintro e w' ⟨rfl, hb⟩; replace hs := hs.step hb; clear hb c0 c1 c2 c3 c4 c5 c6 fr; obtain ⟨c0, c1, c2, c3, c4, c5, c6⟩ := hs.has; have fr := hs.fr) | (go_at_call 18; refine (H18 _ hs.tabs hs.two).mono ?_; rintro e w' ⟨rfl, hb⟩; replace hs := hs.step hb; clear hb c0 c1 c2 c3 c4 c5 c6 fr; obtain ⟨c0, c1, c2, c3, c4, c5, c6⟩ := hs.has; have fr := hs.fr))
    go_ret
    exact ⟨rfl, hs.bel⟩
end
section
open Go.RowKit
theorem St.drew {w0 w : World} {B : Nat} {v0 v1 v2 v3 v4 v5 v6 : Value} (h : St w0 B v0 v1 v2 v3 v4 v5 v6 w) : St w0 B v0 v1 v2 v3 v4 v5 v6 w.drew :=
  h.step ⟨rfl, rfl, rfl, Nat.le_refl _, fun _ _ => rfl⟩
set_option maxRecDepth 100000 in
set_option maxHeartbeats 4000000 in
theorem fn4_run (kd k1 k2 k I U K : Int) (F G : Nat) (S T : ByteArray) (L E : Value) (n7 : Bool) (n8 n9 : Int) (n10 : Nat) (n11 : ByteArray) (b7 b8 b9 b10 : Bool)
    (Z7 : b7 = true → n7 = false) (Z8 : b8 = true → n8 = 0) (Z9 : b9 = true → n9 = 0) (Z10 : b10 = true → n10 = 0)
    (H5 : ∀ w, Calls Tryz.prog 5 #[.agg #[.int .i64 k, .int .i64 I, .int .u64 U, .float .f64 F, .string S, L, E]] w fun e w' => ∃ b, e = .returned (.bool b) ∧ Below w.heap.size w w')
    (H19 : ∀ w, Calls Tryz.prog 19 #[.agg #[.int .i64 k, .int .i64 I, .int .u64 U, .float .f64 F, .string S, L, E]] w fun e w' => e = .returned (.agg #[.int .i64 K, .int .i64 I, .int .u64 U, .float .f64 G, .string T, .slice none 0 0, .slice none 0 0]) ∧ Below w.heap.size w w')
    (H7 : AnsI 7 (anyV K I U G T) (.bool n7) b7) (H10 : AnsI 10 (anyV K I U G T) (.float .f64 n10) b10) (H11 : AnsI 11 (anyV K I U G T) (.string n11) false)
    (H21 : ∀ w, Calls Tryz.prog 21 #[.int .i64 kd] w fun e w' => e = .returned (.int .i64 k1) ∧ w = w')
    (H23 : ∀ w, Calls Tryz.prog 23 #[.int .i64 kd] w fun e w' => e = .returned (.int .i64 k2) ∧ w = w')
    (H20 : ∀ w, Tabs w → Two w → Calls Tryz.prog 20 #[.int .i64 k1, anyV K I U G T] w fun e w' => e = .returned (.tuple #[.int .i64 n8, .bool (!b8)]) ∧ Below w.heap.size w w')
    (H22 : ∀ w, Tabs w → Two w → Calls Tryz.prog 22 #[.int .i64 k2, anyV K I U G T] w fun e w' => e = .returned (.tuple #[.int .u64 n9, .bool (!b9)]) ∧ Below w.heap.size w w')
    (H18 : ∀ w, Tabs w → Two w → Calls Tryz.prog 18 #[] w fun e w' => e = .returned (.bool true) ∧ Below w.heap.size w w')
    (w : World) (hw : Tabs w) (h2 : Two w) :
    Calls Tryz.prog 4 #[.int .i64 kd, .agg #[.int .i64 k, .int .i64 I, .int .u64 U, .float .f64 F, .string S, L, E]] w fun e w' => e = .returned (.bool true) ∧ Below w.heap.size w w' := by
  have hs := St.box w (.int .i64 k) (.int .i64 I) (.int .u64 U) (.float .f64 F) (.string S) L E hw h2
  unfold anyV at *
  go_enter Tryz.func4, Tryz.ntmps4
  go_upto_region 3 with (go_at_call 5; refine (H5 _).mono ?_; rintro e w' ⟨b, rfl, hb⟩; replace hs := hs.step hb; obtain ⟨c0, c1, c2, c3, c4, c5, c6⟩ := hs.has; have fr := hs.fr)
  · go_ret
    exact ⟨rfl, hs.bel⟩
  · go_upto_region 4 with (go_at_call 19; refine (H19 _).mono ?_; rintro e w9 ⟨rfl, hb⟩; replace hs := hs.step hb; clear hb c0 c1 c2 c3 c4 c5 c6 fr; obtain ⟨c0, c1, c2, c3, c4, c5, c6⟩ := hs.has; have fr := hs.fr)
    replace hs := hs.put hw h2 (.int .i64 K) (.int .i64 I) (.int .u64 U) (.float .f64 G) (.string T) (.slice none 0 0) (.slice none 0 0)
    clear c0 c1 c2 c3 c4 c5 c6 fr
    unfold put7 at hs
    generalize (((((((w9.setCell ⟨w.heap.size, 0, none⟩ (.int .i64 K)).setCell ⟨w.heap.size, 1, none⟩ (.int .i64 I)).setCell ⟨w.heap.size, 2, none⟩ (.int .u64 U)).setCell ⟨w.heap.size, 3, none⟩ (.float .f64 G)).setCell ⟨w.heap.size, 4, none⟩ (.string T)).setCell ⟨w.heap.size, 5, none⟩ (.slice none 0 0)).setCell ⟨w.heap.size, 6, none⟩ (.slice none 0 0)) = w4 at *
    obtain ⟨c0, c1, c2, c3, c4, c5, c6⟩ := hs.has
    have fr := hs.fr
    go_upto_region 5 with (go_at_call 7; refine (H7 _ hs.tabs hs.two).mono ?_; rintro e w' ⟨rfl, hb⟩; replace hs := hs.step hb; clear hb c0 c1 c2 c3 c4 c5 c6 fr; obtain ⟨c0, c1, c2, c3, c4, c5, c6⟩ := hs.has; have fr := hs.fr)
    replace hs := hs.drew
    clear c0 c1 c2 c3 c4 c5 c6 fr
    obtain ⟨c0, c1, c2, c3, c4, c5, c6⟩ := hs.has
    have fr := hs.fr
    go_region_held3 (fun w' => w'.cell? ⟨w.heap.size, 0, none⟩ = some (.int .i64 K) ∧ w'.cell? ⟨w.heap.size, 1, none⟩ = some (.int .i64 I) ∧ w'.cell? ⟨w.heap.size, 2, none⟩ = some (.int .u64 U) ∧ w'.cell? ⟨w.heap.size, 3, none⟩ = some (.float .f64 G) ∧ w'.cell? ⟨w.heap.size, 4, none⟩ = some (.string T) ∧ w'.cell? ⟨w.heap.size, 5, none⟩ = some (.slice none 0 0) ∧ w'.cell? ⟨w.heap.size, 6, none⟩ = some (.slice none 0 0)) (exact hs.has)
      (first
        | (go_at_call 21; refine (H21 _).mono ?_; rintro e w' ⟨rfl, rfl⟩)
        | (go_at_call 20; refine (H20 _ hs.tabs hs.two).mono ?_; rintro e w' ⟨rfl, hb⟩; replace hs := hs.step hb; clear hb c0 c1 c2 c3 c4 c5 c6 fr; obtain ⟨c0, c1, c2, c3, c4, c5, c6⟩ := hs.has; have fr := hs.fr))
    go_upto_region 6 with fail
    replace hs := hs.drew
    clear c0 c1 c2 c3 c4 c5 c6 fr
    obtain ⟨c0, c1, c2, c3, c4, c5, c6⟩ := hs.has
    have fr := hs.fr
    go_region_held3 (fun w' => w'.cell? ⟨w.heap.size, 0, none⟩ = some (.int .i64 K) ∧ w'.cell? ⟨w.heap.size, 1, none⟩ = some (.int .i64 I) ∧ w'.cell? ⟨w.heap.size, 2, none⟩ = some (.int .u64 U) ∧ w'.cell? ⟨w.heap.size, 3, none⟩ = some (.float .f64 G) ∧ w'.cell? ⟨w.heap.size, 4, none⟩ = some (.string T) ∧ w'.cell? ⟨w.heap.size, 5, none⟩ = some (.slice none 0 0) ∧ w'.cell? ⟨w.heap.size, 6, none⟩ = some (.slice none 0 0)) (exact hs.has)
      (first
        | (go_at_call 23; refine (H23 _).mono ?_; rintro e w' ⟨rfl, rfl⟩)
        | (go_at_call 22; refine (H22 _ hs.tabs hs.two).mono ?_; rintro e w' ⟨rfl, hb⟩; replace hs := hs.step hb; clear hb c0 c1 c2 c3 c4 c5 c6 fr; obtain ⟨c0, c1, c2, c3, c4, c5, c6⟩ := hs.has; have fr := hs.fr))
    go_upto_region 8 with (go_at_call 10; refine (H10 _ hs.tabs hs.two).mono ?_; rintro e w' ⟨rfl, hb⟩; replace hs := hs.step hb; clear hb c0 c1 c2 c3 c4 c5 c6 fr; obtain ⟨c0, c1, c2, c3, c4, c5, c6⟩ := hs.has; have fr := hs.fr)
    go_upto_region 9 with (go_at_call 11; refine (H11 _ hs.tabs hs.two).mono ?_; rintro e w' ⟨rfl, hb⟩; replace hs := hs.step hb; clear hb c0 c1 c2 c3 c4 c5 c6 fr; obtain ⟨c0, c1, c2, c3, c4, c5, c6⟩ := hs.has; have fr := hs.fr)
    cases b8 <;> cases b9 <;> cases b7 <;> cases b10
    all_goals try rw [Z8 rfl]
    all_goals try rw [Z9 rfl]
    all_goals try rw [Z7 rfl]
    all_goals try rw [Z10 rfl]
    all_goals clear Z7 Z8 Z9 Z10 H20 H22 H21 H23 H7 H10 H11 H5 H19
    all_goals go_wp2_with (go_at_call 18; refine (H18 _ hs.tabs hs.two).mono ?_; rintro e w' ⟨rfl, hb⟩; replace hs := hs.step hb)
    all_goals go_ret
    all_goals exact ⟨rfl, hs.bel⟩
end
section
open Go.RowKit
def anyArg (k I U : Int) (F : Nat) (S : ByteArray) (pL pE : Option Addr) (nL nE cL cE : Nat) : Value := .agg #[.int .i64 k, .int .i64 I, .int .u64 U, .float .f64 F, .string S, .slice pL nL cL, .slice pE nE cE]
theorem kind_range (k : Int) : 0 ≤ wrap64 ((IntKind.u64.wrap k).tmod 15) ∧ wrap64 ((IntKind.u64.wrap k).tmod 15) < 15 := by
  have h0 : 0 ≤ IntKind.u64.wrap k := by simp [IntKind.wrap, IntKind.signed, IntKind.bits]; omega
  have h1 : 0 ≤ (IntKind.u64.wrap k).tmod 15 := Int.tmod_nonneg _ h0
  have h2 : (IntKind.u64.wrap k).tmod 15 < 15 := Int.tmod_lt_of_pos _ (by decide)
  generalize (IntKind.u64.wrap k).tmod 15 = x at *
  have : wrap64 x = x := by unfold wrap64; omega
  omega
theorem cut_size (S : ByteArray) : (S.extract 0 (min S.size 400)).size ≤ 400 := by
  rw [ByteArray.size_extract]; omega
theorem cut_lt (M F : Nat) (h : F < 18446744073709551616) : (if cwIn M F = true then F else 0) < 18446744073709551616 := by
  split <;> omega
theorem law_plain (k I U : Int) (F : Nat) (S : ByteArray) (pL pE : Option Addr) (nL nE cL cE : Nat) (hI0 : -9223372036854775808 ≤ I) (hI1 : I ≤ 9223372036854775807) (hU0 : 0 ≤ U) (hU1 : U < 18446744073709551616) (hF1 : F < 18446744073709551616)
    (w : World) (hw : Tabs w) (h2 : Two w) : Calls Tryz.prog 3 #[anyArg k I U F S pL pE nL nE cL cE] w fun e w' => e = .returned (.bool true) ∧ Below w.heap.size w w' := by
  obtain ⟨hk0, hk1⟩ := kind_range k
  obtain ⟨p, hp, hv⟩ := value_pv 1 61 (by decide) (by decide) _ I U _ _ hk0 hk1 hI0 hI1 hU0 hU1 (cw_plain F) (cut_lt _ F hF1) (cut_size S)
  obtain ⟨n7, b7, e7, _⟩ := boolE 1 61 p hp
  obtain ⟨n8, b8, e8, _⟩ := intE 1 61 p hp (by decide)
  obtain ⟨n9, b9, e9, _⟩ := uintE 1 61 p hp (by decide)
  obtain ⟨n10, b10, e10, _⟩ := f64E 1 61 p hp (by decide) (by decide)
  obtain ⟨n11, e11⟩ := strE 1 61 p hp (by decide) (by decide)
  exact fn3_run k I U _ F _ S _ (.slice pL nL cL) (.slice pE nE cE) n7 n8 n9 n10 n11 b7 b8 b9 b10 false
    (fun w => fits_run k I U F S pL pE nL nE cL cE w)
    (fun w => cp_run k I U _ F _ S _ _ _ w (fun w => cw_run k I U F 4881901996069617664 _ S _ _ w _ rfl rfl))
    (to7 _ _ _ _ _ _ _ _ hv e7) (to8 _ _ _ _ _ _ _ _ hv e8) (to9 _ _ _ _ _ _ _ _ hv e9) (to10 _ _ _ _ _ _ _ _ hv e10) (to11 _ _ _ _ _ _ _ _ hv e11)
    (c12 _ _ _ _ _ _ _ _ hv e7) (c13 _ _ _ _ _ _ _ _ hv e8) (c14 _ _ _ _ _ _ _ _ hv e9) (c16 _ _ _ _ _ _ _ _ hv e10) (c17 _ _ _ _ _ _ _ _ hv e11)
    (fun a w => same_run a w) (fun w hw h2 => lives_run w hw h2) w hw h2
theorem wz64 (n : Int) (h : n = 0) : wrap64 n = 0 := by subst h; kernel_rfl
theorem wzu64 (n : Int) (h : n = 0) : IntKind.u64.wrap n = 0 := by subst h; kernel_rfl
theorem law_zero (kd k I U : Int) (F : Nat) (S : ByteArray) (pL pE : Option Addr) (nL nE cL cE : Nat) (hI0 : -9223372036854775808 ≤ I) (hI1 : I ≤ 9223372036854775807) (hU0 : 0 ≤ U) (hU1 : U < 18446744073709551616) (hF1 : F < 18446744073709551616)
    (w : World) (hw : Tabs w) (h2 : Two w) : Calls Tryz.prog 4 #[.int .i64 kd, anyArg k I U F S pL pE nL nE cL cE] w fun e w' => e = .returned (.bool true) ∧ Below w.heap.size w w' := by
  obtain ⟨hk0, hk1⟩ := kind_range k
  obtain ⟨p, hp, hv⟩ := value_pv 127 0 (by decide) (by decide) _ I U _ _ hk0 hk1 hI0 hI1 hU0 hU1 (cw_near F) (cut_lt _ F hF1) (cut_size S)
  obtain ⟨n7, b7, e7, z7⟩ := boolE 127 0 p hp
  obtain ⟨n8, b8, e8, z8⟩ := intE 127 0 p hp (by decide)
  obtain ⟨n9, b9, e9, z9⟩ := uintE 127 0 p hp (by decide)
  obtain ⟨n10, b10, e10, z10⟩ := f64E 127 0 p hp (by decide) (by decide)
  obtain ⟨n11, e11⟩ := strE 127 0 p hp (by decide) (by decide)
  obtain ⟨n37, b37, e37, z37⟩ := i8E 127 0 p hp (by decide)
  obtain ⟨n38, b38, e38, z38⟩ := i16E 127 0 p hp (by decide)
  obtain ⟨n39, b39, e39, z39⟩ := i32E 127 0 p hp (by decide)
  obtain ⟨n40, b40, e40, z40⟩ := i64E 127 0 p hp (by decide)
  obtain ⟨n41, b41, e41, z41⟩ := u8E 127 0 p hp (by decide)
  obtain ⟨n42, b42, e42, z42⟩ := u16E 127 0 p hp (by decide)
  obtain ⟨n43, b43, e43, z43⟩ := u32E 127 0 p hp (by decide)
  obtain ⟨n44, b44, e44, z44⟩ := u64E 127 0 p hp (by decide)
  obtain ⟨q, bq, zq, hq⟩ := castInt_run (wrap64 (2 + wrap64 ((IntKind.u64.wrap kd).tmod 5))) _ I U _ _
    _ _ (to37 _ _ _ _ _ _ _ _ hv e37) (fun h => wz64 _ (z37 h)) _ _ (to38 _ _ _ _ _ _ _ _ hv e38) (fun h => wz64 _ (z38 h)) _ _ (to39 _ _ _ _ _ _ _ _ hv e39) (fun h => wz64 _ (z39 h)) _ _ (to40 _ _ _ _ _ _ _ _ hv e40) z40 _ _ (to8 _ _ _ _ _ _ _ _ hv e8) z8
  obtain ⟨u, bu, zu, hu⟩ := castUint_run (wrap64 (7 + wrap64 ((IntKind.u64.wrap kd).tmod 5))) _ I U _ _
    _ _ (to41 _ _ _ _ _ _ _ _ hv e41) (fun h => wzu64 _ (z41 h)) _ _ (to42 _ _ _ _ _ _ _ _ hv e42) (fun h => wzu64 _ (z42 h)) _ _ (to43 _ _ _ _ _ _ _ _ hv e43) (fun h => wzu64 _ (z43 h)) _ _ (to44 _ _ _ _ _ _ _ _ hv e44) z44 _ _ (to9 _ _ _ _ _ _ _ _ hv e9) z9
  exact fn4_run kd _ _ k I U _ F _ S _ (.slice pL nL cL) (.slice pE nE cE) n7 q u n10 n11 b7 bq bu b10 z7 zq zu z10
    (fun w => fits_run k I U F S pL pE nL nE cL cE w)
    (fun w => cn_run k I U _ F _ S _ _ _ w (fun w => cw_run k I U F 4638637247447433216 _ S _ _ w _ rfl rfl))
    (to7 _ _ _ _ _ _ _ _ hv e7) (to10 _ _ _ _ _ _ _ _ hv e10) (to11 _ _ _ _ _ _ _ _ hv e11)
    (fun w => kindInt_run kd w) (fun w => kindUint_run kd w) hq hu (fun w hw h2 => lives_run w hw h2) w hw h2
end
end Go.Proofs.YtnggkkdcddpjlaaGreatDoor
