/- Part 13 of the walk of laws.FnPackCut. -/
import Derived.Test.YtolddodhmeaceaaGreatDoorW10
import Derived.Test.YtolddodhmeaceaaGreatDoorW11
import Derived.Test.YtolddodhmeaceaaGreatDoorW12
import Derived.ProofKit
import Derived.Stop.Joined
import Derived.JoinedOf
import Derived.LaidHandle
set_option linter.unusedVariables false
set_option linter.unusedSimpArgs false
set_option maxRecDepth 100000
namespace Go.Proofs.YtolddodhmeaceaaGreatDoor
open Go.Hl Go.Pk Go.ChangeShapes Go.WideShapes Go.RowKit
theorem ownK : ownKnob Tryz.prog.godebug = none := by kernel_rfl
theorem kidsP : Kids Tryz.prog (· < Tryz.prog.types.size) := kids_rows jf1 jf2
theorem fullB : ((List.range Tryz.prog.types.size).all fun t => match Tryz.prog.underlying t with | some (.slice e) => decide (0 < Tryz.prog.cellsOf e) | _ => true) = true := by kernel_rfl
theorem fullP (t e : TypeId) (ht : t < Tryz.prog.types.size) (hu : Tryz.prog.underlying t = some (.slice e)) : 0 < Tryz.prog.cellsOf e := by
  have := List.all_eq_true.1 fullB t (List.mem_range.2 ht)
  rw [hu] at this
  simpa using this
theorem globB : (Tryz.prog.globals.toList.all fun x => decide (x.type < Tryz.prog.types.size)) = true := by kernel_rfl
theorem globP (g : Nat) (t : TypeId) (h : (Tryz.prog.globals[g]?).map (·.type) = some t) : t < Tryz.prog.types.size := by
  obtain ⟨x, hx, rfl⟩ := Option.map_eq_some_iff.1 h
  have := List.all_eq_true.1 globB x (by rw [Array.mem_toList_iff]; exact Array.mem_of_getElem? hx)
  simpa using this
theorem parB : (Tryz.f3.params.toList.all fun t => decide (t < Tryz.prog.types.size)) = true := by kernel_rfl
def noF : Atom := ⟨fun _ => False, fun _ => True, fun _ _ _ _ => trivial⟩
theorem post_of (H : Type) (enc : TypeId × Value → H) {W W' : World} {I : Nat → Prop} {args : Array Value} {ds gs : List (DataW H)} {before : List MemPlace} (hl : Le (old W) ⟨W', I⟩)
    (hW : DataW.Whole enc Tryz.prog Tryz.f3.params.toList Rows.fnPackCutSpec.vars false W args.toList ds gs before) :
    Rows.fnPackCutSpec.post enc Tryz.prog Tryz.f3 false true false false W args (.bool true) W' := by
  have hlt : ∀ p ∈ before, p.block < W.heap.size := hW.lt
  have hW' := hW
  obtain ⟨p, q, hA, hV, rfl, hfz, hnd⟩ := hW
  have hvl := vars_len hV
  have hA2 := hA
  rw [Tryz.params3] at hA2
  obtain ⟨v0, v1, d0, d1, p0, p1, _, rfl, _, _, _⟩ := trodAll_two hA2
  have hs : ∀ y : MemPlace, y.block < W.heap.size → (fun b => decide (b < W.heap.size)) y.block = true := fun y hy => by simpa using hy
  have hp : ∀ y ∈ p, y.block < W.heap.size := fun y hy => hlt y (List.mem_append_left _ hy)
  have hq : ∀ y ∈ q, y.block < W.heap.size := fun y hy => hlt y (List.mem_append_right _ hy)
  have kA := all_le hl hp (DataW.TrodAll.respare (spare' := fun b => decide (b < W.heap.size)) kidsP fullP (fun t ht => by simpa using List.all_eq_true.1 parB t ht) hA (fun y hy => hs y (hp y hy)))
  have kV := vars_le (sp := fun b => decide (b < W.heap.size)) hl kidsP fullP globP hq (fun y hy => hs y (hq y hy)) hV
  match gs, hvl with
  | [g1, g2, g3, g4, g5, g6, g7, g8, g9, g10, g11, g12, g13, g14, g15, g16, g17, g18], _ =>
    exact ⟨_, _, _, [], p, q, hW', trodAll_mk1 (shut_bool Tryz.underlying4 true), kA, kV, keep_of_le hl _, fun h => by cases h⟩
theorem lifted (os : Os) (started : os.Started) (H : Type) (enc : TypeId × Value → H) :
    ReturnsInHanded {} Tryz.checked os 3 .any (fun w args => (Rows.fnPackCutSpec.pre enc Tryz.prog Tryz.f3 [] false w args ∧ laidMetH Tryz.prog laidL w) ∧ sizedMet enc Tryz.prog Tryz.f3 (OpenSpec.ofChange Rows.fnPackCutSpec) false w args)
      (Rows.fnPackCutSpec.post enc Tryz.prog Tryz.f3 false true false false) := by
  refine returnsInHanded_of_change_and (C := Tryz.checked) (X := fun w _ => laidMetH Tryz.prog laidL w) (fun _ _ _ hh h => h.of_heap hh) ownK started (by kernel_rfl) Tryz.func3
    (ChangeSpec.witness_shaped (enc := enc) (C := Tryz.checked) (os := os) (X := fun w _ => laidMetH Tryz.prog laidL w) false (World.doorLaid Tryz.prog 2000 os) #[.slice none 0 0, .int .i64 0] 8 rfl (shapedW os) (okW os) (preW os H enc) (sizW os H enc) (door_met os _)) ?_
  intro W base args ds gs before hval0 hW _ _ hL _
  have hval : ∀ (j : Nat) t v, Tryz.f3.params[j]? = some t → args[j]? = some v → Value.okWide Tryz.prog W .any base t v := hval0
  have hW' := hW
  obtain ⟨p, q, hA0, hV, rfl, hfz, hnd⟩ := hW
  have hA : DataW.TrodAll enc Tryz.prog W 0 (fun _ => true) true Tryz.f3.params.toList args.toList ds p := hA0
  rw [Tryz.params3] at hA hval
  obtain ⟨v0, v1, d0, d1, p0, p1, rfl, rfl, rfl, h0, h1⟩ := trodAll_two hA
  obtain ⟨n, rfl, rfl, rfl, wn⟩ := open_int Tryz.underlying3 (hval 1 3 v1 rfl rfl) h1
  obtain ⟨a, len, cap, rfl⟩ := okWide_slice Tryz.underlying22 (hval 0 22 v0 rfl rfl)
  obtain ⟨fuel, h0⟩ := h0
  obtain ⟨v, l, ev, hE, hl1, hl2⟩ := ents_read h0
  obtain rfl : Value.slice a len cap = v := by simpa [Value.cells] using ev
  rw [MakeChecks.laidMetH_plain _ _ _ (by kernel_rfl)] at hL
  obtain ⟨eE, uE, hEnv⟩ := env_of hL
  obtain ⟨ov, zv, hD⟩ := denv_of hL
  have hc := ct_FnPackCut (old W) eE uE hEnv (pow_of hL) ov zv hD _ l hE n hl1 hl2
  have hz := hc.2 noF (old W) (.refl _) ⟨fun b hb => hb, fun A hA => (by simp at hA; subst hA; trivial), fun A hA b hb => (by simp at hA; subst hA; exact hb.elim), List.pairwise_singleton _ _⟩
  refine hz.mono fun e W' ⟨v', I, H', he, hl, hR, _⟩ => ?_
  obtain ⟨rfl, rfl⟩ := hR
  exact ⟨_, he, post_of H enc hl hW'⟩
theorem fnPackCut_holds : Rows.FnPackCutSaid :=
  OpenClaim.holds_of_wide 3 Tryz.f3 rfl rfl rfl rfl rfl rfl rfl ⟨rfl, rfl, rfl, rfl, rfl⟩ rfl rfl rfl rfl rfl (by kernel_rfl) Tryz.func3 closedAll
    (of_decide_eq_true (by kernel_rfl)) (by unfold Func.isWrapper; first | (rw [if_pos (by decide +kernel)]; kernel_rfl) | (rw [if_neg (by decide +kernel)]; exact ⟨rfl, rfl⟩))
    (fun os started H enc _ => lifted os started H enc)
#print axioms fnPackCut_holds
end Go.Proofs.YtolddodhmeaceaaGreatDoor
