/- What the row lists gives the tables; the struct argument opened; what both cards share. -/
import Derived.Test.YtnggkkdcddpjlaaGreatDoorRows
import Derived.Test.YtnggkkdcddpjlaaGreatDoorExt
import Derived.Test.YtnggkkdcddpjlaaGreatDoorTab
import Derived.OpenShut
import Derived.Deep.Strs
import Derived.Lib.LaidTab
import Derived.Below
import Derived.ReadAgain
import Derived.Deep.Frames
import Derived.Deep.Modes
import Derived.WalkKit
import Derived.ProofKit
import Derived.Lay
import Derived.MakeChecks
namespace Go.Proofs.YtnggkkdcddpjlaaGreatDoor
set_option linter.unusedVariables false
set_option linter.unusedSimpArgs false
section
open Go.ChangeShapes Go.WideShapes Go.RowKit
section
variable {H : Type} {enc : TypeId × Value → H} {P : Program} {w : World} {base : Nat} {sp : Nat → Bool} {held : Bool} {fuel : Nat} {t : TypeId} {cs : List Value}
theorem laid_at : ∀ {l : List (String × DataW Unit)} {ps : List MemPlace}, DataW.LaidVars P w l ps → ∀ n d, (n, d) ∈ l →
    ∃ g t cs fuel p, P.globalNamed n = some g ∧ (P.globals[g]?).map (·.type) = some t ∧ w.var? P n = some cs ∧ DataW.trod (fun _ => ()) P w 0 (fun _ => true) false fuel t cs.toList = some (d, p) ∧ ∀ x ∈ MemPlace.row ⟨g, 0, none⟩ cs.size, x ∈ ps
  | [], _, _, n, d, hm => by cases hm
  | (n', d') :: r, ps, ⟨g, t, cs, fuel, p, q, h1, h2, h3, h4, hr, e⟩, n, d, hm => by
    rcases List.mem_cons.1 hm with hm | hm
    · cases hm
      exact ⟨g, t, cs, fuel, p, h1, h2, h3, h4, fun x hx => by rw [e]; exact List.mem_append.2 (.inl (List.mem_append.2 (.inl hx)))⟩
    · obtain ⟨g, t, cs, fuel, p, h1, h2, h3, h4, h5⟩ := laid_at hr n d hm
      exact ⟨g, t, cs, fuel, p, h1, h2, h3, h4, fun x hx => by rw [e]; exact List.mem_append.2 (.inr (h5 x hx))⟩
theorem trod_float {k : FloatKind} {x : DataW H × List MemPlace} (ht : P.underlying t = some (.float k)) (h : DataW.trod enc P w base sp held fuel t cs = some x) : ∃ b, cs = [.float k b] ∧ x = (.lit (.float k b), []) := by
  cases fuel with
  | zero => simp [DataW.trod] at h
  | succ n =>
    unfold DataW.trod at h
    rw [ht] at h
    split at h <;> simp_all
theorem lit_int {k : IntKind} {z : Int} {p : List MemPlace} (ht : P.underlying t = some (.int k)) (h : DataW.trod enc P w base sp held fuel t cs = some (.lit (.int k z), p)) : cs = [.int k z] := by
  obtain ⟨n, rfl, e, _⟩ := DataW.trod_int ht h
  simp at e
  simp [e]
theorem lit_bool {z : Bool} {p : List MemPlace} (ht : P.underlying t = some .bool) (h : DataW.trod enc P w base sp held fuel t cs = some (.lit (.bool z), p)) : cs = [.bool z] := by
  obtain ⟨n, rfl, e⟩ := DataW.trod_bool ht h
  simp at e
  simp [e]
theorem lit_float {k : FloatKind} {z : Nat} {p : List MemPlace} (ht : P.underlying t = some (.float k)) (h : DataW.trod enc P w base sp held fuel t cs = some (.lit (.float k z), p)) : cs = [.float k z] := by
  obtain ⟨n, rfl, e⟩ := trod_float ht h
  simp at e
  simp [e]
theorem lit_string {z : List UInt8} {p : List MemPlace} (ht : P.underlying t = some .string) (h : DataW.trod enc P w base sp held fuel t cs = some (.lit (.string z), p)) : cs = [.string ⟨z.toArray⟩] := by
  obtain ⟨n, rfl, e, _⟩ := DataW.trod_string ht h
  simp at e
  obtain ⟨rfl, _⟩ := e
  rfl
theorem slice_at {e : TypeId} {ds : List (DataW H)} {p : List MemPlace} (ht : P.underlying t = some (.slice e)) (hne : ds ≠ []) (h : DataW.trod enc P w base sp held fuel t cs = some (.slice ds [], p)) :
    ∃ a cap m, cs = [.slice (some a) ds.length cap] ∧ ∀ i d, ds[i]? = some d → ∃ cs' q, w.cells? base (a.add (i * P.cellsOf e)) (P.cellsOf e) = some cs' ∧ DataW.trod enc P w base sp held m e cs' = some (d, q) := by
  rcases DataW.trod_slice ht h with ⟨_, e⟩ | ⟨a, len, cap, elems, rest, m, _, rfl, e, _, _, _, hl, hi, _, _⟩
  · simp at e
  · simp only [Prod.mk.injEq, DataW.slice.injEq] at e
    obtain ⟨⟨rfl, e2⟩, _⟩ := e
    refine ⟨a, cap, m, by simp [hl], ?_⟩
    intro i d hd
    have hlt : i < elems.length := by
      have := (List.getElem?_eq_some_iff.1 hd).1
      simpa using this
    have h2 := hi i (by omega)
    rw [List.getElem?_map, Option.map_eq_some_iff] at hd
    obtain ⟨⟨d', q⟩, h3, rfl⟩ := hd
    rw [h3, Option.bind_eq_some_iff] at h2
    obtain ⟨cs', h4, h5⟩ := h2
    exact ⟨cs', q, h4, h5⟩
theorem array_at {n : Nat} {e : TypeId} {ds : List (DataW H)} {p : List MemPlace} (ht : P.underlying t = some (.array n e)) (h : DataW.trod enc P w base sp held fuel t cs = some (.agg ds, p)) :
    ds.length = n ∧ cs.length = P.cellsOf t ∧ ∃ m, ∀ i d, ds[i]? = some d → ∃ q, DataW.trod enc P w base sp held m e ((cs.drop (i * P.cellsOf e)).take (P.cellsOf e)) = some (d, q) := by
  obtain ⟨xs, m, _, ex, hl, hn, hi⟩ := DataW.trod_array ht h
  simp only [Prod.mk.injEq, DataW.agg.injEq] at ex
  obtain ⟨rfl, _⟩ := ex
  refine ⟨by simpa using hn, hl, m, ?_⟩
  intro i d hd
  have hlt : i < xs.length := by
    have := (List.getElem?_eq_some_iff.1 hd).1
    simpa using this
  have h2 := hi i (by omega)
  rw [List.getElem?_map, Option.map_eq_some_iff] at hd
  obtain ⟨⟨d', q⟩, h3, rfl⟩ := hd
  exact ⟨q, h2.trans h3⟩
theorem take_one (l : List Value) (i : Nat) (v : Value) (h : (l.drop i).take 1 = [v]) : l[i]? = some v := by
  have h1 := congrArg (·[0]?) h
  simpa [List.getElem?_take, List.getElem?_drop] using h1
theorem add_cell {a : Addr} {i : Nat} {v : Value} (hs : a.spot = none) (h : w.cell? (a.add i) = some v) : w.cell? ⟨a.block, a.off + i, none⟩ = some v := by
  unfold Addr.add at h
  split at h
  · subst i
    cases a
    simp only at hs
    subst hs
    exact h
  · exact h
theorem spot_none {a : Addr} {v : Value} (h : w.cell? a = some v) : a.spot = none := by
  unfold World.cell? at h
  split at h
  · split at h
    · cases h
    · rename_i hs
      cases hsp : a.spot with
      | none => rfl
      | some s => rw [hsp] at hs; exact absurd rfl hs
  · cases h
theorem iface_at {ms : Array (String × TypeId)} {nm : String} {d : DataW H} {p : List MemPlace} (ht : P.underlying t = some (.interface ms)) (h : DataW.trod enc P w base sp false fuel t cs = some (.iface nm d, p)) : ∃ u v, cs = [.iface u v] := by
  cases fuel with
  | zero => simp [DataW.trod] at h
  | succ n =>
    unfold DataW.trod at h
    rw [ht] at h
    split at h <;> simp_all
theorem add_none (b o n : Nat) : (⟨b, o, none⟩ : Addr).add n = ⟨b, o + n, none⟩ := by
  unfold Addr.add
  split
  · rename_i h; rw [h]; rfl
  · rfl
theorem take_sub (l : List Value) (a n o : Nat) (v : Value) (ho : o < n) (h : ((((l.drop a).take n).drop o).take 1) = [v]) : l[a + o]? = some v := by
  have h1 := take_one _ _ _ h
  rw [List.getElem?_take, if_pos ho, List.getElem?_drop] at h1
  exact h1
end
theorem arr_toList (cs : Array Value) (i : Nat) : cs.toList[i]? = cs[i]? := by simp
theorem tab_pow {W : World} {ps : List MemPlace} {L : List (String × DataW Unit)} (h : DataW.LaidVars Tryz.prog W L ps) (m : ("internal/strconv.uint64pow10", Rows.laid_internal_strconv_uint64pow10) ∈ L) : Lib.TabIs Tryz.prog W "internal/strconv.uint64pow10" .u64 Lib.pow10Tab := by
  have ed : (Rows.laid_internal_strconv_uint64pow10 : DataW Unit) = Lib.tabData .u64 Lib.pow10Tab := by kernel_rfl
  obtain ⟨g, t, cs, fuel, p, h1, h2, h3, h4, _⟩ := laid_at h _ _ m
  obtain rfl := Option.some.inj ((show Tryz.prog.globalNamed "internal/strconv.uint64pow10" = some 4 by kernel_rfl).symm.trans h1)
  obtain rfl := Option.some.inj ((show (Tryz.prog.globals[4]?).map (·.type) = some 227 by kernel_rfl).symm.trans h2)
  rw [ed] at h4
  unfold Lib.TabIs
  rw [h3, ← Lib.cells_of_tab Tryz.underlying227 Tryz.underlying22 (by kernel_rfl) (by kernel_rfl) h4]
theorem tab_err {W : World} {ps : List MemPlace} {L : List (String × DataW Unit)} (h : DataW.LaidVars Tryz.prog W L ps) (n : String) (d : DataW Unit) (nm : String) (g0 : Nat) (m : (n, .iface nm d) ∈ L) (hg : Tryz.prog.globalNamed n = some g0) (ht : (Tryz.prog.globals[g0]?).map (·.type) = some 52) : ∃ t p, W.cell? ⟨g0, 0, none⟩ = some (.iface t p) := by
  obtain ⟨g, t, cs, fuel, p, h1, h2, h3, h4, _⟩ := laid_at h _ _ m
  obtain rfl := Option.some.inj (hg.symm.trans h1)
  obtain rfl := Option.some.inj (ht.symm.trans h2)
  obtain ⟨u, v, e⟩ := iface_at Tryz.underlying52 h4
  refine ⟨u, v, ?_⟩
  rw [World.var?_cell h1 h3 0, ← arr_toList, e]
  rfl
theorem tab_opt {W : World} {ps : List MemPlace} {L : List (String × DataW Unit)} (h : DataW.LaidVars Tryz.prog W L ps) (m : ("internal/strconv.optimize", Rows.laid_internal_strconv_optimize) ∈ L) : W.cell? ⟨3, 0, none⟩ = some (.bool true) := by
  obtain ⟨g, t, cs, fuel, p, h1, h2, h3, h4, _⟩ := laid_at h _ _ m
  obtain rfl := Option.some.inj ((show Tryz.prog.globalNamed "internal/strconv.optimize" = some 3 by kernel_rfl).symm.trans h1)
  obtain rfl := Option.some.inj ((show (Tryz.prog.globals[3]?).map (·.type) = some 4 by kernel_rfl).symm.trans h2)
  have e := lit_bool Tryz.underlying4 h4
  rw [World.var?_cell h1 h3 0, ← arr_toList, e]
  rfl
set_option maxRecDepth 100000 in
theorem tab_info {W : World} {ps : List MemPlace} {L : List (String × DataW Unit)} (h : DataW.LaidVars Tryz.prog W L ps) (n : String) (a b c : Int) (g0 : Nat) (m : (n, .agg [.lit (.int .u64 a), .lit (.int .u64 b), .lit (.int .i64 c)]) ∈ L) (hg : Tryz.prog.globalNamed n = some g0) (ht : (Tryz.prog.globals[g0]?).map (·.type) = some 257) :
    W.cell? ⟨g0, 0, none⟩ = some (.int .u64 a) ∧ W.cell? ⟨g0, 1, none⟩ = some (.int .u64 b) ∧ W.cell? ⟨g0, 2, none⟩ = some (.int .i64 c) ∧ MemPlace.cell g0 0 ∈ ps := by
  obtain ⟨g, t, cs, fuel, p, h1, h2, h3, h4, h5⟩ := laid_at h _ _ m
  obtain rfl := Option.some.inj (hg.symm.trans h1)
  obtain rfl := Option.some.inj (ht.symm.trans h2)
  obtain ⟨⟨y0, q0⟩, ⟨y1, q1⟩, ⟨y2, q2⟩, m', e, hl, e0, e1, e2⟩ := Go.Deep.trod_struct3 Tryz.underlying257 h4
  simp only [Prod.mk.injEq, DataW.agg.injEq, List.cons.injEq, and_true] at e
  obtain ⟨⟨rfl, rfl, rfl⟩, _⟩ := e
  have k0 := take_one _ _ _ (lit_int Tryz.underlying58 e0)
  have k1 := take_one _ _ _ (lit_int Tryz.underlying58 e1)
  have k2 := take_one _ _ _ (lit_int Tryz.underlying3 e2)
  rw [arr_toList] at k0 k1 k2
  refine ⟨(World.var?_cell h1 h3 0).trans k0, (World.var?_cell h1 h3 1).trans k1, (World.var?_cell h1 h3 2).trans k2, h5 _ ?_⟩
  have hsz : 0 < cs.size := (Array.getElem?_eq_some_iff.1 k0).1
  unfold MemPlace.row
  exact List.mem_map.2 ⟨0, List.mem_range.2 hsz, rfl⟩
theorem map_at {α β : Type} (f : α → β) (l : List α) (dflt : α) (i : Nat) (hi : i < l.length) : (l.map f)[i]? = some (f (l.getD i dflt)) := by
  rw [List.getElem?_map, List.getElem?_eq_getElem hi, List.getD_eq_getElem?_getD, List.getElem?_eq_getElem hi]
  rfl
set_option maxRecDepth 100000 in
theorem tab_p10 {W : World} {ps : List MemPlace} {L : List (String × DataW Unit)} (h : DataW.LaidVars Tryz.prog W L ps) (m : ("internal/strconv.pow10Tab", Go.Pinned.pow10Tab) ∈ L) :
    ∀ i, i < 696 → W.cell? ⟨7, i * 2, none⟩ = some (.int .u64 (pwHi i)) ∧ W.cell? ⟨7, i * 2 + 1, none⟩ = some (.int .u64 (pwLo i)) := by
  obtain ⟨g, t, cs, fuel, p, h1, h2, h3, h4, _⟩ := laid_at h _ _ m
  obtain rfl := Option.some.inj ((show Tryz.prog.globalNamed "internal/strconv.pow10Tab" = some 7 by kernel_rfl).symm.trans h1)
  obtain rfl := Option.some.inj ((show (Tryz.prog.globals[7]?).map (·.type) = some 271 by kernel_rfl).symm.trans h2)
  unfold Go.Pinned.pow10Tab at h4
  obtain ⟨hn, hl, m', hi⟩ := array_at Tryz.underlying271 h4
  rw [show Tryz.prog.cellsOf 270 = 2 by kernel_rfl] at hi
  rw [List.length_map] at hn
  intro i h696
  obtain ⟨q, h5⟩ := hi i _ (map_at _ _ (0, 0) i (by omega))
  obtain ⟨⟨y0, q0⟩, ⟨y1, q1⟩, m2, e, _, e0, e1⟩ := Go.ChangeShapes.trod_struct2 Tryz.underlying270 h5
  simp only [Prod.mk.injEq, DataW.agg.injEq, List.cons.injEq, and_true] at e
  obtain ⟨⟨rfl, rfl⟩, _⟩ := e
  have k0 := take_sub _ _ _ _ _ (by decide) (lit_int Tryz.underlying22 e0)
  have k1 := take_sub _ _ _ _ _ (by decide) (lit_int Tryz.underlying22 e1)
  rw [arr_toList] at k0 k1
  exact ⟨(World.var?_cell h1 h3 _).trans k0, (World.var?_cell h1 h3 _).trans k1⟩
set_option maxRecDepth 100000 in
theorem tab_lch {W : World} {ps : List MemPlace} {L : List (String × DataW Unit)} (h : DataW.LaidVars Tryz.prog W L ps) (m : ("internal/strconv.leftcheats", Go.Pinned.leftcheats) ∈ L) :
    ∃ b o c, W.cell? ⟨8, 0, none⟩ = some (.slice (some ⟨b, o, none⟩) 61 c) ∧ ∀ k, k < 61 → W.cell? ⟨b, o + k * 2, none⟩ = some (.int .i64 (lcD k)) ∧ W.cell? ⟨b, o + k * 2 + 1, none⟩ = some (.string (lcS k)) := by
  obtain ⟨g, t, cs, fuel, p, h1, h2, h3, h4, _⟩ := laid_at h _ _ m
  obtain rfl := Option.some.inj ((show Tryz.prog.globalNamed "internal/strconv.leftcheats" = some 8 by kernel_rfl).symm.trans h1)
  obtain rfl := Option.some.inj ((show (Tryz.prog.globals[8]?).map (·.type) = some 277 by kernel_rfl).symm.trans h2)
  have hlen : Go.Pinned.cheatRows.length = 61 := by kernel_rfl
  unfold Go.Pinned.leftcheats at h4
  obtain ⟨a, c, m', e, hi⟩ := slice_at Tryz.underlying277 (by intro h0; have := congrArg List.length h0; rw [List.length_map, hlen] at this; cases this) h4
  rw [show Tryz.prog.cellsOf 276 = 2 by kernel_rfl] at hi
  rw [List.length_map, hlen] at e
  have hk : ∀ k, k < 61 → W.cell? ((a.add (k * 2)).add 0) = some (.int .i64 (lcD k)) ∧ W.cell? ((a.add (k * 2)).add 1) = some (.string (lcS k)) := by
    intro k hk
    obtain ⟨cs', q, h5, h6⟩ := hi k _ (map_at _ _ (0, []) k (by omega))
    obtain ⟨_, _, h7⟩ := World.cells?_some h5
    obtain ⟨⟨y0, q0⟩, ⟨y1, q1⟩, m2, e, _, e0, e1⟩ := Go.ChangeShapes.trod_struct2 Tryz.underlying276 h6
    simp only [Prod.mk.injEq, DataW.agg.injEq, List.cons.injEq, and_true] at e
    obtain ⟨⟨rfl, rfl⟩, _⟩ := e
    have k0 := take_one _ _ _ (lit_int Tryz.underlying3 e0)
    have k1 := take_one _ _ _ (lit_string Tryz.underlying9 e1)
    exact ⟨(h7 0 (by decide)).trans k0, (h7 1 (by decide)).trans k1⟩
  have hs : a.spot = none := by
    have := (hk 0 (by decide)).1
    exact spot_none (a := a) this
  obtain ⟨b, o, sp⟩ := a
  simp only at hs
  subst hs
  refine ⟨b, o, c, (World.var?_cell h1 h3 0).trans ?_, fun k hk' => ?_⟩
  · rw [← arr_toList, e]; rfl
  · have := hk k hk'
    rw [add_none, add_none, add_none] at this
    exact this
theorem tab_ptb {W : World} {ps : List MemPlace} {L : List (String × DataW Unit)} (h : DataW.LaidVars Tryz.prog W L ps) (m : ("internal/strconv.powtab", Rows.laid_internal_strconv_powtab) ∈ L) :
    ∃ b o c, W.cell? ⟨12, 0, none⟩ = some (.slice (some ⟨b, o, none⟩) 9 c) ∧ ∀ k, k < 9 → W.cell? ⟨b, o + k, none⟩ = some (.int .i64 (ptD k)) := by
  have ed : (Rows.laid_internal_strconv_powtab : DataW Unit) = .slice (ptL.map fun (x : Nat) => .lit (.int .i64 x)) [] := by kernel_rfl
  rw [ed] at m
  obtain ⟨g, t, cs, fuel, p, h1, h2, h3, h4, _⟩ := laid_at h _ _ m
  obtain rfl := Option.some.inj ((show Tryz.prog.globalNamed "internal/strconv.powtab" = some 12 by kernel_rfl).symm.trans h1)
  obtain rfl := Option.some.inj ((show (Tryz.prog.globals[12]?).map (·.type) = some 86 by kernel_rfl).symm.trans h2)
  have hlen : ptL.length = 9 := rfl
  obtain ⟨a, c, m', e, hi⟩ := slice_at Tryz.underlying86 (by intro h0; have := congrArg List.length h0; rw [List.length_map, hlen] at this; cases this) h4
  rw [show Tryz.prog.cellsOf 3 = 1 by kernel_rfl] at hi
  rw [List.length_map, hlen] at e
  have hk : ∀ k, k < 9 → W.cell? ((a.add (k * 1)).add 0) = some (.int .i64 (ptD k)) := by
    intro k hk
    obtain ⟨cs', q, h5, h6⟩ := hi k _ (map_at _ _ 0 k (by omega))
    obtain ⟨_, _, h7⟩ := World.cells?_some h5
    rw [lit_int Tryz.underlying3 h6] at h7
    exact h7 0 (by decide)
  have hs : a.spot = none := by
    have := hk 0 (by decide)
    exact spot_none (a := a) this
  obtain ⟨b, o, sp⟩ := a
  simp only at hs
  subst hs
  refine ⟨b, o, c, (World.var?_cell h1 h3 0).trans ?_, fun k hk' => ?_⟩
  · rw [← arr_toList, e]; rfl
  · have := hk k hk'
    rw [add_none, add_none, Nat.mul_one] at this
    exact this
theorem tab_f10 {W : World} {ps : List MemPlace} {L : List (String × DataW Unit)} (h : DataW.LaidVars Tryz.prog W L ps) (m : ("internal/strconv.float64pow10", Rows.laid_internal_strconv_float64pow10) ∈ L) :
    ∃ b o c, W.cell? ⟨13, 0, none⟩ = some (.slice (some ⟨b, o, none⟩) 23 c) ∧ ∀ k, k < 23 → W.cell? ⟨b, o + k, none⟩ = some (.float .f64 (ftD k)) := by
  have ed : (Rows.laid_internal_strconv_float64pow10 : DataW Unit) = .slice (ftL.map fun (x : Nat) => .lit (.float .f64 x)) [] := by kernel_rfl
  rw [ed] at m
  obtain ⟨g, t, cs, fuel, p, h1, h2, h3, h4, _⟩ := laid_at h _ _ m
  obtain rfl := Option.some.inj ((show Tryz.prog.globalNamed "internal/strconv.float64pow10" = some 13 by kernel_rfl).symm.trans h1)
  obtain rfl := Option.some.inj ((show (Tryz.prog.globals[13]?).map (·.type) = some 91 by kernel_rfl).symm.trans h2)
  have hlen : ftL.length = 23 := rfl
  obtain ⟨a, c, m', e, hi⟩ := slice_at Tryz.underlying91 (by intro h0; have := congrArg List.length h0; rw [List.length_map, hlen] at this; cases this) h4
  rw [show Tryz.prog.cellsOf 23 = 1 by kernel_rfl] at hi
  rw [List.length_map, hlen] at e
  have hk : ∀ k, k < 23 → W.cell? ((a.add (k * 1)).add 0) = some (.float .f64 (ftD k)) := by
    intro k hk
    obtain ⟨cs', q, h5, h6⟩ := hi k _ (map_at _ _ 0 k (by omega))
    obtain ⟨_, _, h7⟩ := World.cells?_some h5
    rw [lit_float Tryz.underlying23 h6] at h7
    exact h7 0 (by decide)
  have hs : a.spot = none := by
    have := hk 0 (by decide)
    exact spot_none (a := a) this
  obtain ⟨b, o, sp⟩ := a
  simp only at hs
  subst hs
  refine ⟨b, o, c, (World.var?_cell h1 h3 0).trans ?_, fun k hk' => ?_⟩
  · rw [← arr_toList, e]; rfl
  · have := hk k hk'
    rw [add_none, add_none, Nat.mul_one] at this
    exact this
theorem tabs_of_laid {W : World} (hL : laidMetH Tryz.prog Rows.fnCastPlainRow.laid W) : Tabs W ∧ Two W := by
  have hL : laidMet Tryz.prog Rows.fnCastPlainRow.laid W := hL
  obtain ⟨ps, h, _, hb⟩ := hL
  have i6 := tab_info h "internal/strconv.float64info" 52 11 (-1023) 6 (List.mem_of_getElem? (i := 3) rfl) (by kernel_rfl) (by kernel_rfl)
  have i5 := tab_info h "internal/strconv.float32info" 23 8 (-127) 5 (List.mem_of_getElem? (i := 2) rfl) (by kernel_rfl) (by kernel_rfl)
  refine ⟨⟨tab_pow h (List.mem_of_getElem? (i := 8) rfl), ?_, ?_, tab_opt h (List.mem_of_getElem? (i := 4) rfl), i6.1, i6.2.1, i6.2.2.1, tab_p10 h (List.mem_of_getElem? (i := 12) rfl), tab_lch h (List.mem_of_getElem? (i := 11) rfl),
    tab_ptb h (List.mem_of_getElem? (i := 5) rfl), tab_f10 h (List.mem_of_getElem? (i := 6) rfl)⟩, ?_⟩
  · exact tab_err h "strconv.ErrSyntax" _ _ 1 (List.mem_of_getElem? (i := 10) rfl) (by kernel_rfl) (by kernel_rfl)
  · exact tab_err h "strconv.ErrRange" _ _ 2 (List.mem_of_getElem? (i := 9) rfl) (by kernel_rfl) (by kernel_rfl)
  · obtain ⟨⟨c5, t5, h5⟩, _⟩ := hb 5 0 i5.2.2.2
    obtain ⟨⟨c6, t6, h6⟩, _⟩ := hb 6 0 i6.2.2.2
    exact ⟨c5, c6, t5, t6, h5, h6⟩
end
section
open Go.ChangeShapes Go.WideShapes Go.RowKit
theorem flo_at {H : Type} {enc : TypeId × Value → H} {P : Program} {w : World} {base : Nat} {sp : Nat → Bool} {held : Bool} {fuel : Nat} {t : TypeId} {cs : List Value} {x : DataW H × List MemPlace}
    (ht : P.underlying t = some (.float .f64)) (h : DataW.trod enc P w base sp held fuel t cs = some x) : ∃ b, cs = [.float .f64 b] ∧ b < 18446744073709551616 := by
  obtain ⟨b, rfl, _⟩ := trod_float ht h
  refine ⟨b, rfl, ?_⟩
  cases fuel with
  | zero => simp [DataW.trod] at h
  | succ n =>
    unfold DataW.trod at h
    rw [ht] at h
    dsimp only at h
    split at h
    · rename_i hw
      have := hw.2
      simpa [Lit.wf] using this
    · cases h
theorem sli_at {H : Type} {enc : TypeId × Value → H} {P : Program} {w : World} {base : Nat} {sp : Nat → Bool} {held : Bool} {fuel : Nat} {t e : TypeId} {cs : List Value} {x : DataW H × List MemPlace}
    (ht : P.underlying t = some (.slice e)) (h : DataW.trod enc P w base sp held fuel t cs = some x) : ∃ p n c, cs = [.slice p n c] := by
  rcases DataW.trod_slice ht h with ⟨rfl, _⟩ | ⟨a, len, cap, _, _, _, _, rfl, _⟩
  · exact ⟨_, _, _, rfl⟩
  · exact ⟨_, _, _, rfl⟩
theorem seven_list (l : List Value) (v0 v1 v2 v3 v4 v5 v6 : Value) (hl : l.length = 7) (h0 : l[0]? = some v0) (h1 : l[1]? = some v1) (h2 : l[2]? = some v2) (h3 : l[3]? = some v3) (h4 : l[4]? = some v4) (h5 : l[5]? = some v5) (h6 : l[6]? = some v6) : l = [v0, v1, v2, v3, v4, v5, v6] := by
  match l, hl with
  | [a, b, c, d, e, f, g], _ =>
    simp at h0 h1 h2 h3 h4 h5 h6
    subst h0 h1 h2 h3 h4 h5 h6
    rfl
set_option maxRecDepth 100000 in
theorem arg27 {H : Type} {enc : TypeId × Value → H} {W : World} {r : Reach} {b0 base : Nat} {sp : Nat → Bool} {held : Bool} {v : Value} {d : DataW H} {ps : List MemPlace}
    (hv : Value.okWide Tryz.prog W r b0 27 v) (h : DataW.Trod enc Tryz.prog W base sp held 27 v d ps) :
    ∃ (k I U : Int) (F : Nat) (S : ByteArray) (pL pE : Option Addr) (nL nE cL cE : Nat), v = .agg #[.int .i64 k, .int .i64 I, .int .u64 U, .float .f64 F, .string S, .slice pL nL cL, .slice pE nE cE] ∧
      -9223372036854775808 ≤ I ∧ I ≤ 9223372036854775807 ∧ 0 ≤ U ∧ U < 18446744073709551616 ∧ F < 18446744073709551616 := by
  unfold Value.okWide at hv
  rw [Tryz.underlying27] at hv
  obtain ⟨cs, rfl, hsz, _⟩ := hv
  obtain ⟨fuel, hf⟩ := h
  obtain ⟨xs, n, _, _, hl, hn, hi⟩ := DataW.trod_struct Tryz.underlying27 hf
  have hn : xs.length = 7 := hn
  have hx : ∀ i, i < 7 → ∃ x, xs[i]? = some x := fun i h => ⟨xs[i]'(by omega), List.getElem?_eq_getElem _⟩
  obtain ⟨x0, e0⟩ := hx 0 (by decide)
  obtain ⟨x1, e1⟩ := hx 1 (by decide)
  obtain ⟨x2, e2⟩ := hx 2 (by decide)
  obtain ⟨x3, e3⟩ := hx 3 (by decide)
  obtain ⟨x4, e4⟩ := hx 4 (by decide)
  obtain ⟨x5, e5⟩ := hx 5 (by decide)
  obtain ⟨x6, e6⟩ := hx 6 (by decide)
  obtain ⟨k, k0, _⟩ := DataW.trod_int Tryz.underlying3 ((hi 0 _ rfl).trans e0)
  obtain ⟨I, k1, _, w1⟩ := DataW.trod_int Tryz.underlying2 ((hi 1 _ rfl).trans e1)
  obtain ⟨U, k2, _, w2⟩ := DataW.trod_int Tryz.underlying22 ((hi 2 _ rfl).trans e2)
  obtain ⟨F, k3, w3⟩ := flo_at Tryz.underlying23 ((hi 3 _ rfl).trans e3)
  obtain ⟨S, k4, _, _⟩ := DataW.trod_string Tryz.underlying9 ((hi 4 _ rfl).trans e4)
  obtain ⟨pL, nL, cL, k5⟩ := sli_at Tryz.underlying24 ((hi 5 _ rfl).trans e5)
  obtain ⟨pE, nE, cE, k6⟩ := sli_at Tryz.underlying25 ((hi 6 _ rfl).trans e6)
  have hcs : cs.toList = [.int .i64 k, .int .i64 I, .int .u64 U, .float .f64 F, .string S, .slice pL nL cL, .slice pE nE cE] :=
    seven_list _ _ _ _ _ _ _ _ (hl.trans (by kernel_rfl)) (take_one _ 0 _ k0) (take_one _ 1 _ k1) (take_one _ 2 _ k2) (take_one _ 3 _ k3) (take_one _ 4 _ k4) (take_one _ 5 _ k5) (take_one _ 6 _ k6)
  refine ⟨k, I, U, F, S, pL, pE, nL, nE, cL, cE, ?_, ?_⟩
  · rw [show cs = #[.int .i64 k, .int .i64 I, .int .u64 U, .float .f64 F, .string S, .slice pL nL cL, .slice pE nE cE] from Array.toList_inj.1 hcs]
  · have q1 : -9223372036854775808 ≤ I ∧ I ≤ 9223372036854775807 := by simpa [Lit.wf, IntKind.min, IntKind.max, IntKind.signed, IntKind.bits] using w1
    have q2 : 0 ≤ U ∧ U ≤ 18446744073709551615 := by simpa [Lit.wf, IntKind.min, IntKind.max, IntKind.signed, IntKind.bits] using w2
    exact ⟨q1.1, q1.2, q2.1, by omega, w3⟩
end
section
open Go.ChangeShapes Go.WideShapes Go.RowKit
theorem own : ownKnob Tryz.prog.godebug = none := by kernel_rfl
theorem kids : Kids Tryz.prog (· < Tryz.prog.types.size) := kids_rows (by kernel_rfl) (by kernel_rfl)
theorem full : ∀ t e, t < Tryz.prog.types.size → Tryz.prog.underlying t = some (.slice e) → 0 < Tryz.prog.cellsOf e := slices_full_of Tryz.prog (by kernel_rfl)
theorem lt27 : 27 < Tryz.prog.types.size := of_decide_eq_true (by kernel_rfl)
theorem again27 {H : Type} {enc : TypeId × Value → H} {W W' : World} {v : Value} {d : DataW H} {ps : List MemPlace} {sp : Nat → Bool}
    (h : DataW.Trod enc Tryz.prog W 0 (fun _ => true) true 27 v d ps) (hlt : ∀ p ∈ ps, p.block < W.heap.size) (hsp : ∀ p ∈ ps, sp p.block = true) (hb : Below W.heap.size W W') : DataW.Trod enc Tryz.prog W' 0 sp true 27 v d ps := by
  obtain ⟨n, hn⟩ := DataW.Trod.respare kids full lt27 h hsp
  exact ⟨n, DataW.trod_carry _ _ _ _ hn (fun p hp => hb.same (hlt p hp))⟩
def zeroArg : Value := .agg #[.int .i64 0, .int .i64 0, .int .u64 0, .float .f64 0, .string ⟨#[]⟩, .slice none 0 0, .slice none 0 0]
end
end Go.Proofs.YtnggkkdcddpjlaaGreatDoor
