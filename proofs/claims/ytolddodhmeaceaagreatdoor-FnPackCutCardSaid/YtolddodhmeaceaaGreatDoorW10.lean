/- Part 10 of the walk of laws.FnPackCut. -/
import Derived.Test.YtolddodhmeaceaaGreatDoorW08
import Derived.Test.YtolddodhmeaceaaGreatDoorW09
import Derived.Test.YtolddodhmeaceaaGreatDoorRows
import Derived.MakeChecks
set_option linter.unusedVariables false
set_option linter.unusedSimpArgs false
set_option maxRecDepth 100000
namespace Go.Proofs.YtolddodhmeaceaaGreatDoor
open Go.Hl Go.Pk Go.ChangeShapes Go.WideShapes
section
variable {H : Type} {enc : TypeId × Value → H} {W : World} {held : Bool} {fuel : Nat} {cs : List Value} {x : DataW H × List MemPlace}
theorem i64_read {n : Int} (h : (Lit.int .i64 n).wf = true) : i64r n := bounds_i64 h
theorem step_read (h : DataW.trod enc Tryz.prog W 0 (fun _ => true) held fuel 105 cs = some x) : ∃ s : SV, cs = stC s ∧ SOk (old W) s := by
  obtain ⟨xs, n, _, _, hl, hn, hf⟩ := DataW.trod_struct Tryz.underlying105 h
  rw [show Tryz.prog.cellsOf 105 = 5 by kernel_rfl] at hl
  match cs, hl with
  | [c0, c1, c2, c3, c4], _ =>
    have g0 : DataW.trod enc Tryz.prog W 0 (fun _ => true) held n 4 (([c0, c1, c2, c3, c4].drop 0).take (Tryz.prog.cellsOf 4)) = xs[0]? := hf 0 _ rfl
    have g1 : DataW.trod enc Tryz.prog W 0 (fun _ => true) held n 3 (([c0, c1, c2, c3, c4].drop 1).take (Tryz.prog.cellsOf 3)) = xs[1]? := hf 1 _ rfl
    have g2 : DataW.trod enc Tryz.prog W 0 (fun _ => true) held n 3 (([c0, c1, c2, c3, c4].drop 2).take (Tryz.prog.cellsOf 3)) = xs[2]? := hf 2 _ rfl
    have g3 : DataW.trod enc Tryz.prog W 0 (fun _ => true) held n 25 (([c0, c1, c2, c3, c4].drop 3).take (Tryz.prog.cellsOf 25)) = xs[3]? := hf 3 _ rfl
    have g4 : DataW.trod enc Tryz.prog W 0 (fun _ => true) held n 3 (([c0, c1, c2, c3, c4].drop 4).take (Tryz.prog.cellsOf 3)) = xs[4]? := hf 4 _ rfl
    replace hn : xs.length = 5 := hn
    rw [List.getElem?_eq_getElem (by omega)] at g0 g1 g2 g3 g4
    simp only [show Tryz.prog.cellsOf 4 = 1 by kernel_rfl, show Tryz.prog.cellsOf 3 = 1 by kernel_rfl, show Tryz.prog.cellsOf 25 = 1 by kernel_rfl, List.drop, List.take] at g0 g1 g2 g3 g4
    obtain ⟨b, e0, _⟩ := DataW.trod_bool Tryz.underlying4 g0
    obtain ⟨n1, e1, _, w1⟩ := DataW.trod_int Tryz.underlying3 g1
    obtain ⟨n2, e2, _, w2⟩ := DataW.trod_int Tryz.underlying3 g2
    obtain ⟨v, l, e3, hb⟩ := bytes_read Tryz.underlying25 Tryz.underlying5 (by kernel_rfl) g3
    obtain ⟨n4, e4, _, w4⟩ := DataW.trod_int Tryz.underlying3 g4
    simp only [List.cons.injEq, and_true] at e0 e1 e2 e3 e4
    subst e0 e1 e2 e3 e4
    obtain ⟨ta, tn, tc, rfl⟩ := Shp.is hb.1
    exact ⟨⟨b, n1, n2, l, n4, ta, tn, tc⟩, rfl, hb, i64_read w1, i64_read w2, i64_read w4⟩
theorem all_read {t : TypeId} {sz : Nat} {rows : List (List Value)} {α : Type} {f : α → List Value} {p : α → Prop} {x : DataW H × List MemPlace}
    (h4 : (x.1 = .nil ∧ rows = []) ∨ ∃ (ds rs : List (DataW H)), x.1 = .slice ds rs ∧ ds.length = rows.length ∧ ∀ (i : Nat) (r : List Value), rows[i]? = some r → r.length = sz ∧ ∃ (k : Nat) (y : DataW H × List MemPlace), DataW.trod enc Tryz.prog W 0 (fun _ => true) held k t r = some y ∧ ds[i]? = some y.1)
    (hr : ∀ k r y, DataW.trod enc Tryz.prog W 0 (fun _ => true) held k t r = some y → ∃ a, r = f a ∧ p a) : ∀ r ∈ rows, ∃ a, r = f a ∧ p a := by
  intro r hm
  obtain ⟨i, hi⟩ := List.getElem?_of_mem hm
  rcases h4 with ⟨_, rfl⟩ | ⟨ds, rs, _, _, h5⟩
  · cases hm
  · obtain ⟨_, k, y, h6, _⟩ := h5 i r hi
    exact hr _ _ _ h6
theorem steps_read (h : DataW.trod enc Tryz.prog W 0 (fun _ => true) held fuel 37 cs = some x) : ∃ (v : Value) (l : List SV), cs = [v] ∧ Steps (old W) v l ∧ l.length ≤ 9223372036854775807 := by
  obtain ⟨v, rows, rfl, h1, h2, h3, h4⟩ := slice_read Tryz.underlying37 (show Tryz.prog.cellsOf 105 = 5 by kernel_rfl) (by omega) h
  obtain ⟨l, e1, e2, _, e4⟩ := rows_map (all_read h4 (fun _ _ _ h => step_read h))
  rw [← e1] at h1 h2
  rw [e2] at h3
  exact ⟨v, l, rfl, ⟨⟨h1, h3⟩, e4⟩, h2⟩
theorem entry_read (h : DataW.trod enc Tryz.prog W 0 (fun _ => true) held fuel 39 cs = some x) : ∃ e : XV, cs = xC e ∧ (XOk (old W) e ∧ e.steps.length ≤ 9223372036854775807) := by
  obtain ⟨xs, n, _, _, hl, hn, hf⟩ := DataW.trod_struct Tryz.underlying39 h
  rw [show Tryz.prog.cellsOf 39 = 4 by kernel_rfl] at hl
  match cs, hl with
  | [c0, c1, c2, c3], _ =>
    have g0 : DataW.trod enc Tryz.prog W 0 (fun _ => true) held n 3 (([c0, c1, c2, c3].drop 0).take (Tryz.prog.cellsOf 3)) = xs[0]? := hf 0 _ rfl
    have g1 : DataW.trod enc Tryz.prog W 0 (fun _ => true) held n 25 (([c0, c1, c2, c3].drop 1).take (Tryz.prog.cellsOf 25)) = xs[1]? := hf 1 _ rfl
    have g2 : DataW.trod enc Tryz.prog W 0 (fun _ => true) held n 3 (([c0, c1, c2, c3].drop 2).take (Tryz.prog.cellsOf 3)) = xs[2]? := hf 2 _ rfl
    have g3 : DataW.trod enc Tryz.prog W 0 (fun _ => true) held n 37 (([c0, c1, c2, c3].drop 3).take (Tryz.prog.cellsOf 37)) = xs[3]? := hf 3 _ rfl
    replace hn : xs.length = 4 := hn
    rw [List.getElem?_eq_getElem (by omega)] at g0 g1 g2 g3
    simp only [show Tryz.prog.cellsOf 3 = 1 by kernel_rfl, show Tryz.prog.cellsOf 25 = 1 by kernel_rfl, show Tryz.prog.cellsOf 37 = 1 by kernel_rfl, List.drop, List.take] at g0 g1 g2 g3
    obtain ⟨n0, e0, _, w0⟩ := DataW.trod_int Tryz.underlying3 g0
    obtain ⟨v, l, e1, hb⟩ := bytes_read Tryz.underlying25 Tryz.underlying5 (by kernel_rfl) g1
    obtain ⟨n2, e2, _, w2⟩ := DataW.trod_int Tryz.underlying3 g2
    obtain ⟨u, st, e3, hst, hsl⟩ := steps_read g3
    simp only [List.cons.injEq, and_true] at e0 e1 e2 e3
    subst e0 e1 e2 e3
    obtain ⟨ta, tn, tc, rfl⟩ := Shp.is hb.1
    obtain ⟨sa, sn, sc, rfl⟩ := Shp.is hst.1.1
    exact ⟨⟨n0, l, n2, st, ta, tn, tc, sa, sn, sc⟩, rfl, ⟨hb, hst, i64_read w0, i64_read w2⟩, hsl⟩
theorem ents_read (h : DataW.trod enc Tryz.prog W 0 (fun _ => true) held fuel 22 cs = some x) : ∃ (v : Value) (l : List XV), cs = [v] ∧ Ents (old W) v l ∧ l.length ≤ 9223372036854775807 ∧ ∀ e ∈ l, e.steps.length ≤ 9223372036854775807 := by
  obtain ⟨v, rows, rfl, h1, h2, h3, h4⟩ := slice_read Tryz.underlying22 (show Tryz.prog.cellsOf 39 = 4 by kernel_rfl) (by omega) h
  obtain ⟨l, e1, e2, _, e4⟩ := rows_map (all_read h4 (fun _ _ _ h => entry_read h))
  rw [← e1] at h1 h2
  rw [e2] at h3
  exact ⟨v, l, rfl, ⟨⟨h1, h3⟩, fun e he => (e4 e he).1⟩, h2, fun e he => (e4 e he).2⟩
end
/-! The variables. -/
theorem star : "*" ++ "errors.errorString" = "*errors.errorString" := by decide
theorem rowES (u : TypeId) (h : Tryz.prog.typeName? 3 u = some "*errors.errorString") : u = ES :=
  typeName_ptr_named (nm := "errors.errorString") (by rw [star]; kernel_rfl) (by kernel_rfl) (by decide) u (by rw [star]; exact h)
abbrev laidL : List (String × DataW Unit) := Rows.fnPackCutRow.laid
theorem sent {W : World} (h : laidMet Tryz.prog laidL W) {n : String} {g k : Nat} {text : List UInt8} (hm : laidL[k]? = some (n, DataW.iface "*errors.errorString" (.ptr (.agg [.lit (.string text)]))))
    (hg : Tryz.prog.globalNamed n = some g) (hgt : (Tryz.prog.globals[g]?).map (·.type) = some IErr) :
    ∃ (p : Nat × Nat) (s : ByteArray), Cell (old W) g 0 (EVal ES p) ∧ EP (old W) p.1 ∧ W.cell? ⟨p.1, p.2, none⟩ = some (.string s) ∧ s.data.toList = text :=
  sentinel_at h (List.mem_of_getElem? hm) hg hgt Tryz.underlying64 rowES Tryz.underlying272 Tryz.underlying274 rfl rfl Tryz.underlying9 (by kernel_rfl) (by kernel_rfl)
theorem env_of {W : World} (h : laidMet Tryz.prog laidL W) : ∃ eE uE, Env (old W) eE uE := by
  obtain ⟨eE, s1, a1, a2, a3, a4⟩ := sent h (k := 6) rfl (show Tryz.prog.globalNamed "io.EOF" = some 0 by kernel_rfl) (by kernel_rfl)
  obtain ⟨uE, s2, b1, b2, b3, b4⟩ := sent h (k := 11) rfl (show Tryz.prog.globalNamed "io.ErrUnexpectedEOF" = some 8 by kernel_rfl) (by kernel_rfl)
  obtain ⟨p1, _, c1, d1, _⟩ := sent h (k := 7) (g := 1) rfl (by kernel_rfl) (by kernel_rfl)
  obtain ⟨p2, _, c2, d2, _⟩ := sent h (k := 8) (g := 2) rfl (by kernel_rfl) (by kernel_rfl)
  obtain ⟨p3, _, c3, d3, _⟩ := sent h (k := 9) (g := 3) rfl (by kernel_rfl) (by kernel_rfl)
  obtain ⟨p4, _, c4, d4, _⟩ := sent h (k := 18) (g := 4) rfl (by kernel_rfl) (by kernel_rfl)
  obtain ⟨p5, _, c5, d5, _⟩ := sent h (k := 23) (g := 9) rfl (by kernel_rfl) (by kernel_rfl)
  obtain ⟨p6, _, c6, d6, _⟩ := sent h (k := 21) (g := 11) rfl (by kernel_rfl) (by kernel_rfl)
  obtain ⟨p7, _, c7, d7, _⟩ := sent h (k := 20) (g := 29) rfl (by kernel_rfl) (by kernel_rfl)
  refine ⟨eE, uE, a1, b1, a2, b2, ?_, ?_⟩
  · intro e
    rw [e, b3] at a3
    obtain rfl : s2 = s1 := by injection Option.some.inj a3
    rw [a4] at b4
    exact absurd b4 (by decide)
  · intro n hn
    simp only [List.mem_cons, List.not_mem_nil, or_false] at hn
    rcases hn with rfl | rfl | rfl | rfl | rfl | rfl | rfl
    · exact ⟨_, c1, d1⟩
    · exact ⟨_, c2, d2⟩
    · exact ⟨_, c3, d3⟩
    · exact ⟨_, c4, d4⟩
    · exact ⟨_, c5, d5⟩
    · exact ⟨_, c6, d6⟩
    · exact ⟨_, c7, d7⟩
section
variable {H : Type} {enc : TypeId × Value → H} {W : World} {held : Bool} {fuel : Nat} {cs : List Value} {p : List MemPlace}
theorem ints_read {t e n : Nat} {k : IntKind} {zs : List Int} (ht : Tryz.prog.underlying t = some (.array n e)) (he : Tryz.prog.underlying e = some (.int k)) (hz : Tryz.prog.cellsOf e = 1) (hc : Tryz.prog.cellsOf t = n)
    (h : DataW.trod enc Tryz.prog W 0 (fun _ => true) held fuel t cs = some (.agg (zs.map fun z => .lit (.int k z)), p)) : cs = zs.map fun z => .int k z := by
  obtain ⟨xs, m, _, hx, hl, hn, hf⟩ := DataW.trod_array ht h
  rw [hc] at hl
  simp only [Prod.mk.injEq, DataW.agg.injEq] at hx
  have e1 := hx.1
  have hzl : zs.length = n := by have := congrArg List.length e1; simpa [hn] using this
  refine List.ext_getElem? fun i => ?_
  by_cases hi : i < n
  · have h0 := hf i hi
    rw [hz, Nat.mul_one, List.getElem?_eq_getElem (by omega)] at h0
    obtain ⟨z, e2, e3, _⟩ := DataW.trod_int he h0
    have h4 := congrArg (·[i]?) e1
    simp only [List.getElem?_map] at h4
    rw [List.getElem?_eq_getElem (show i < xs.length by omega), e3, List.getElem?_eq_getElem (show i < zs.length by omega)] at h4
    simp only [Option.map_some, Option.some.injEq, DataW.lit.injEq, Lit.int.injEq, true_and] at h4
    rw [List.getElem?_map, List.getElem?_eq_getElem (show i < zs.length by omega)]
    have h5 := congrArg (·[0]?) e2
    simp only [List.getElem?_take, List.getElem?_drop, List.getElem?_cons_zero] at h5
    simp only [Nat.lt_one_iff, if_true, Nat.add_zero] at h5
    rw [h5, h4]; rfl
  · rw [List.getElem?_eq_none (by omega), List.getElem?_eq_none (by simp; omega)]
theorem pair_read {t : Nat} {f0 f1 : Field} {r : List Value} {y : DataW H × List MemPlace} (ht : Tryz.prog.underlying t = some (.struct #[f0, f1])) (hc : Tryz.prog.cellsOf t = 2) (h0 : f0.type = 5 ∧ f0.offset = 0 ∧ f1.type = 103 ∧ f1.offset = 1)
    (h : DataW.trod enc Tryz.prog W 0 (fun _ => true) held fuel t r = some y) : ∃ a b, r = [.int .u8 a, .int .u64 b] ∧ y.1 = .agg [.lit (.int .u8 a), .lit (.int .u64 b)] := by
  obtain ⟨y0, y1, n, rfl, hl, g0, g1⟩ := trod_struct2 ht h
  rw [hc] at hl
  obtain ⟨t0, o0, t1, o1⟩ := h0
  match r, hl with
  | [c0, c1], _ =>
    rw [t0, o0] at g0
    rw [t1, o1] at g1
    simp only [show Tryz.prog.cellsOf 5 = 1 by kernel_rfl, show Tryz.prog.cellsOf 103 = 1 by kernel_rfl, List.drop, List.take] at g0 g1
    obtain ⟨a, e0, d0, _⟩ := DataW.trod_int Tryz.underlying5 g0
    obtain ⟨b, e1, d1, _⟩ := DataW.trod_int Tryz.underlying103 g1
    simp only [List.cons.injEq, and_true] at e0 e1
    subst e0 e1
    exact ⟨a, b, rfl, by simp [d0, d1]⟩
theorem pairs_read {t e : Nat} {f0 f1 : Field} {zs : List (Int × Int)} (hs : Tryz.prog.underlying t = some (.slice e)) (ht : Tryz.prog.underlying e = some (.struct #[f0, f1])) (hc : Tryz.prog.cellsOf e = 2) (h0 : f0.type = 5 ∧ f0.offset = 0 ∧ f1.type = 103 ∧ f1.offset = 1)
    (h : DataW.trod enc Tryz.prog W 0 (fun _ => true) held fuel t cs = some (.slice (zs.map fun z => .agg [.lit (.int .u8 z.1), .lit (.int .u64 z.2)]) [], p)) :
    ∃ v, cs = [v] ∧ Shp v zs.length ∧ Rd (old W) v (zs.flatMap fun z => [.int .u8 z.1, .int .u64 z.2]) := by
  obtain ⟨v, rows, rfl, h1, _, h3, h4⟩ := slice_read hs hc (by omega) h
  rcases h4 with ⟨h5, _⟩ | ⟨ds, rs, h5, h6, h7⟩
  · cases h5
  simp only [DataW.slice.injEq] at h5
  obtain ⟨e1, _⟩ := h5
  have hzl : zs.length = rows.length := by rw [← h6, ← e1, List.length_map]
  have hrow : rows = zs.map fun z => [.int .u8 z.1, .int .u64 z.2] := by
    refine List.ext_getElem? fun i => ?_
    by_cases hi : i < rows.length
    · obtain ⟨_, k, y, h8, h9⟩ := h7 i _ (List.getElem?_eq_getElem hi)
      obtain ⟨a, b, e2, e3⟩ := pair_read ht hc h0 h8
      rw [← e1, List.getElem?_map, List.getElem?_eq_getElem (show i < zs.length by omega), e3] at h9
      simp only [Option.map_some, Option.some.injEq, DataW.agg.injEq, List.cons.injEq, DataW.lit.injEq, Lit.int.injEq, true_and, and_true] at h9
      rw [List.getElem?_eq_getElem hi, List.getElem?_map, List.getElem?_eq_getElem (show i < zs.length by omega), e2, ← h9.1, ← h9.2]; rfl
    · rw [List.getElem?_eq_none (by omega), List.getElem?_eq_none (by simp; omega)]
  refine ⟨v, rfl, by rw [hzl]; exact h1, ?_⟩
  rw [hrow, ← List.flatMap_def] at h3
  exact h3
end
theorem pow_of {W : World} (h : laidMet Tryz.prog laidL W) : Cells (old W) 25 0 pow10V := by
  obtain ⟨cs, fuel, p, h1, h2⟩ := var_at h (List.mem_of_getElem? (i := 24) rfl) (show Tryz.prog.globalNamed "internal/strconv.uint64pow10" = some 25 by kernel_rfl) (t := 378) (by kernel_rfl)
  have e := ints_read (zs := (List.range 20).map fun i => ((10 ^ i : Nat) : Int)) Tryz.underlying378 Tryz.underlying108 (by kernel_rfl) (by kernel_rfl) h2
  rw [e] at h1
  simpa [pow10V, List.map_map, Function.comp_def] using h1
theorem denv_of {W : World} (h : laidMet Tryz.prog laidL W) : ∃ ov zv, DEnv (old W) ov zv := by
  obtain ⟨cs, fuel, p, h1, h2⟩ := var_at h (List.mem_of_getElem? (i := 4) rfl) (g := 15) (by kernel_rfl) (t := 308) (by kernel_rfl)
  obtain ⟨ov, rfl, h3, h4⟩ := pairs_read (zs := [(1, 0), (2, 8), (4, 16), (8, 24)]) Tryz.underlying308 Tryz.underlying310 (by kernel_rfl) ⟨rfl, rfl, rfl, rfl⟩ h2
  obtain ⟨cs', fuel', p', k1, k2⟩ := var_at h (List.mem_of_getElem? (i := 5) rfl) (g := 16) (by kernel_rfl) (t := 308) (by kernel_rfl)
  obtain ⟨zv, rfl, k3, k4⟩ := pairs_read (zs := [(16, 0), (32, 8), (64, 16)]) Tryz.underlying308 Tryz.underlying310 (by kernel_rfl) ⟨rfl, rfl, rfl, rfl⟩ k2
  exact ⟨ov, zv, h1 0 _ rfl, h3, h4, k1 0 _ rfl, k3, k4⟩
end Go.Proofs.YtolddodhmeaceaaGreatDoor
