/- Part 3 of the walk of laws.FnPackCut. -/
import Derived.Test.YtolddodhmeaceaaGreatDoorW02
set_option linter.unusedVariables false
set_option linter.unusedSimpArgs false
set_option maxRecDepth 100000
namespace Go.Proofs.YtolddodhmeaceaaGreatDoor
open Go.Hl Go.Pk Classical
/-- An object. -/
structure OV where
  kind : Int
  text : List UInt8
  ta : Option Addr
  tn : Nat
  tc : Nat
abbrev OV.tv (x : OV) : Value := .slice x.ta x.tn x.tc
def oC (x : OV) : List Value := [.int .i64 x.kind, x.tv]
theorem oC_len (x : OV) : (oC x).length = 2 := rfl
theorem oC_one (x : OV) : ∀ u ∈ oC x, u.oneCell' = true := by simp [oC, Value.oneCell']
theorem oC_snoc (l : List OV) (e : OV) : l.flatMap oC ++ flatC [.agg (oC e).toArray] = (l ++ [e]).flatMap oC := by simp [flatC, Value.cells]
def OTexts (g : GW) (l : List OV) : Prop := ∀ x ∈ l, Bytes g x.tv x.text ∧ x.text.length ≤ 1000000
theorem OTexts.mono {g g' : GW} {l : List OV} (h : OTexts g l) (hl : Le g g') : OTexts g' l := fun x hx => ⟨(h x hx).1.mono hl, (h x hx).2⟩
theorem OTexts.snoc {g : GW} {l : List OV} {e : OV} (h : OTexts g l) (he : Bytes g e.tv e.text ∧ e.text.length ≤ 1000000) : OTexts g (l ++ [e]) := fun x hx => by
  rcases List.mem_append.1 hx with hx | hx
  · exact h x hx
  · obtain rfl := List.mem_singleton.1 hx; exact he
abbrev Sg : Type := Int × Nat
def sg (x : OV) : Sg := (x.kind, x.text.length)
def DOk (acc : List Sg) (x : XV) (p : Sg) : Prop := 0 ≤ x.base ∧ acc[x.base.toNat]? = some p ∧ p.2 ≠ 0 ∧ GSteps x.steps p.2 ∧ madeLen x.steps ≤ 1000000
noncomputable def stepO (acc : List Sg) (x : XV) : Option (List Sg) :=
  if 1 ≤ x.kind ∧ x.kind ≤ 4 then (if x.text.length ≤ 1000000 then some (acc ++ [(x.kind, x.text.length)]) else none)
  else if h : (x.kind = 6 ∨ x.kind = 7) ∧ ∃ p, DOk acc x p then some (acc ++ [((Classical.choose h.2).1, madeLen x.steps)]) else none
theorem stepO_plain {acc : List Sg} {x : XV} (h : 1 ≤ x.kind ∧ x.kind ≤ 4) (ht : x.text.length ≤ 1000000) : stepO acc x = some (acc ++ [(x.kind, x.text.length)]) := by
  rw [stepO, if_pos h, if_pos ht]
theorem stepO_big {acc : List Sg} {x : XV} (h : 1 ≤ x.kind ∧ x.kind ≤ 4) (ht : ¬ x.text.length ≤ 1000000) : stepO acc x = none := by
  rw [stepO, if_pos h, if_neg ht]
theorem stepO_delta {acc : List Sg} {x : XV} {p : Sg} (h : x.kind = 6 ∨ x.kind = 7) (hp : DOk acc x p) : stepO acc x = some (acc ++ [(p.1, madeLen x.steps)]) := by
  have hh : (x.kind = 6 ∨ x.kind = 7) ∧ ∃ p, DOk acc x p := ⟨h, p, hp⟩
  have hc := (Classical.choose_spec hh.2).2.1
  rw [hp.2.1] at hc
  rw [stepO, if_neg (by omega), dif_pos hh]
  rw [← Option.some.inj hc]
theorem stepO_none {acc : List Sg} {x : XV} (h : x.kind = 6 ∨ x.kind = 7) (hp : ∀ p, ¬ DOk acc x p) : stepO acc x = none := by
  rw [stepO, if_neg (by omega), dif_neg (by rintro ⟨_, p, h'⟩; exact hp p h')]
theorem stepO_kind {acc : List Sg} {x : XV} (h : ¬ (1 ≤ x.kind ∧ x.kind ≤ 4)) (h2 : ¬ (x.kind = 6 ∨ x.kind = 7)) : stepO acc x = none := by
  rw [stepO, if_neg h, dif_neg (fun hh => h2 hh.1)]
noncomputable def obs (l : List XV) : Option (List Sg) := l.foldlM stepO []
theorem obs_nil : obs [] = some [] := rfl
theorem obs_snoc {l : List XV} {k : Nat} {d : XV} {acc : List Sg} (h : l[k]? = some d) (ha : obs (l.take k) = some acc) : obs (l.take (k + 1)) = stepO acc d := by
  rw [take_snoc h, obs, List.foldlM_append]
  show (obs (l.take k)).bind _ = _
  rw [ha]
  simp [List.foldlM]
theorem obs_fail {l : List XV} {k : Nat} {d : XV} {acc : List Sg} (h : l[k]? = some d) (ha : obs (l.take k) = some acc) (hn : stepO acc d = none) : obs l = none := by
  have h1 := obs_snoc h ha
  rw [hn] at h1
  have h2 : l = l.take (k + 1) ++ l.drop (k + 1) := (List.take_append_drop _ _).symm
  rw [h2, obs, List.foldlM_append]
  show (obs (l.take (k + 1))).bind _ = _
  rw [h1]; rfl
theorem stepO_len {acc acc' : List Sg} {x : XV} (h : stepO acc x = some acc') : acc'.length = acc.length + 1 := by
  unfold stepO at h
  split at h
  · split at h
    · cases h; simp
    · cases h
  · split at h
    · cases h; simp
    · cases h
theorem obs_len {l : List XV} : ∀ (k : Nat) {acc : List Sg}, k ≤ l.length → obs (l.take k) = some acc → acc.length = k
  | 0, acc, _, h => by simp [obs] at h; subst h; rfl
  | k + 1, acc, hk, h => by
    obtain ⟨d, hd⟩ := get_some (l := l) (k := k) (by omega)
    cases h1 : obs (l.take k) with
    | none =>
      have : obs (l.take (k + 1)) = none := by
        rw [take_snoc hd, obs, List.foldlM_append]
        show (obs (l.take k)).bind _ = _
        rw [h1]; rfl
      rw [this] at h; cases h
    | some a =>
      have h2 := obs_snoc hd h1
      rw [h] at h2
      have := obs_len k (by omega) h1
      rw [stepO_len h2.symm, this]
theorem ct_Objects (g : GW) (v : Value) (l : List XV) (hv : Ents g v l) (hl : fitX l) (hc : l.length ≤ 2147483647) :
    Ct Tryz.prog g 11 [v] [] (fun r g' H' => (∃ ov os, r = .tuple #[ov, .bool true] ∧ obs l = some (os.map sg) ∧ Shp ov os.length ∧ OTexts g' os ∧ H' = [own ov 2 50 (os.flatMap oC)]) ∨ (r = .tuple #[.slice none 0 0, .bool false] ∧ obs l = none ∧ H' = [])) := by
  have hll := hl.1
  refine CI Tryz.func11 Tryz.ntmps11 rfl fun F g0 hg0 => ?_
  replace hv := hv.mono hg0
  refine T_nil 2 50 (SR (La rfl (La rfl (nSR (La rfl (nS (T_seq (SR (Lm rfl ?_)))))))))
  refine Lp (p_len (hv.1.1) rfl rfl Tryz.runUnderlying22) (Lm rfl (nS (T_block (T_loop (ι := Nat × Value × List OV) (fun x g' => x.1 ≤ l.length ∧ obs (l.take x.1) = some (x.2.2.map sg) ∧ OTexts g' x.2.2) (fun x => [(4, x.2.1), (8, v), (9, .int .i64 l.length), (10, .int .i64 x.1)]) (fun x => [own x.2.1 2 50 (x.2.2.flatMap oC), F]) (fun x => l.length - x.1) ((0, _, [])) (fun g' hl => ⟨Nat.zero_le _, rfl, by simp [OTexts]⟩) (by repeat (first | exact SubL.nil | refine SubL.cons rfl ?_)) (K0 (K0 .nil)) ?_))))
  rintro ⟨k, o, os⟩ gA hlgA ⟨hk, hob, hot⟩
  try dsimp only
  try dsimp only at hk hob hot
  replace hv := hv.mono hlgA
  have hol := obs_len k hk hob
  rw [List.length_map] at hol
  refine SR (Lp (p_lss rfl rfl) (nS (T_seq (T_condD rfl (fun hc2 => ?_) (fun hc2 => ?_)))))
  ·
    have hkl : k < l.length := by omega
    obtain ⟨d, hid⟩ := get_some hkl
    have hfd := hl.2 d (List.mem_of_getElem? hid)
    have hxd := hv.2 d (List.mem_of_getElem? hid)
    have hkr := hxd.kind
    have hbr := hxd.base
    refine kS (T_seq (T_block (SR (Lm rfl (Lp (p_ix (hv.1.1) (j := k) rfl rfl Tryz.runUnderlying22 Tryz.sizeOf39 (by omega) (by omega) rfl) (Lp (p_ldRdN (vs := xC d) hv.1.2 rfl Tryz.isAgg39 Tryz.sizeOf39 rfl (by decide) (flat_all xC_len hid)) (Lk (e_alloc Tryz.zeroValue39 rfl) ?_)))))))
    rintro _ _ _ - ⟨eb, rfl, rfl⟩
    refine La rfl (TL_k0 (e_storeW rfl rfl Tryz.sizeOf39 rfl rfl (fun u hu => xC_one d u hu) (K0 .nil) rfl) ?_)
    rintro _ _ _ - ⟨rfl, rfl⟩
    refine nSR (Lf rfl Tryz.runUnderlying39 rfl Tryz.sizeOf3 rfl (Lp (p_load rfl Tryz.isAgg3 (.head _) rfl) (nS (T_block (T_seq (SR (Lp (p_eql rfl rfl) (La rfl (nS (T_condD rfl (fun hc5 => ?_) (fun hc5 => ?_)))))))))))
    ·
      refine kS (T_condDT rfl (by first | assumption | omega) ?_)
      refine T_seq (SR (Lf rfl Tryz.runUnderlying39 rfl Tryz.sizeOf25 rfl (Lp (p_load rfl Tryz.isAgg25 (.head _) rfl) (Lp (p_len ((hv.2 d (List.mem_of_getElem? hid)).text.1) rfl rfl Tryz.runUnderlying25) ?_))))
      refine Lp (p_gtr rfl rfl) (nS (T_condD rfl (fun hc6 => ?_) (fun hc6 => ?_)))
      ·
        refine SR (La rfl (La rfl (nr (E_seq_ret (E_block_ret (E_block_ret (E_seq_ret (E_loop_ret (E_block_ret ?_)))))))))
        refine E_seq_ret (E_ret2 [] rfl hlgA rfl rfl (K2 .nil) (fun g' hl => ?_))
        exact .inr ⟨rfl, obs_fail hid hob (stepO_big (by omega) (by omega)), rfl⟩
      ·
        refine kS (T_region (Lm rfl (Lf rfl Tryz.runUnderlying39 rfl Tryz.sizeOf3 rfl (Lp (p_load rfl Tryz.isAgg3 (.head _) rfl) (Lf rfl Tryz.runUnderlying39 rfl Tryz.sizeOf25 rfl (Lp (p_load rfl Tryz.isAgg25 (.head _) rfl) (Lp (p_build (cells := (oC ⟨d.kind, d.text, d.ta, d.tn, d.tc⟩).toArray) rfl (by kernel_rfl)) (Lk (e_buildSlice rfl rfl rfl Tryz.runUnderlying41 Tryz.sizeOf50 Tryz.zeroValue50 rfl (by simp [Value.cells, oC])) ?_))))))))
        rintro _ _ _ - ⟨q, rfl, rfl⟩
        refine Lk (e_append (by_ := 32) rfl rfl rfl rfl Tryz.runUnderlying41 Tryz.runUnderlying41 (.inr ⟨_, rfl⟩) Tryz.sizeOf50 Tryz.zeroValue50 rfl Tryz.typeInfo50 rfl (by decide) (by decide) (src_ownS rfl (.head _)) (by rw [flat_length oC_len]; simp [flatC, Value.cells, oC]; omega) (K2 .nil) (fun u hu => oC_one _ u (by simpa [flatC, Value.cells] using hu))) ?_
        rintro v8 _ _ - ⟨n_v8, hs_v8, hn_v8, rfl⟩
        refine La rfl (TL_nil (E_block (E_block (E_seq (T_region (Lp (p_add rfl rfl (wr64 (by omega) (by omega))) (Lm rfl (TL_nil ?_))))))))
        rw [oC_snoc]
        refine EL (.refl _) ((k + 1, _, os ++ [⟨d.kind, d.text, d.ta, d.tn, d.tc⟩])) ?hm ?hI ((K0 (K2 .nil)))
        case hm => exact (by omega)
        case hI => exact (fun g' hl => ⟨by dsimp only; omega, by dsimp only; rw [obs_snoc hid hob, stepO_plain (by omega) (by omega), List.map_append]; rfl, (hot.mono hl).snoc ⟨hxd.text.mono hl, by dsimp only; omega⟩⟩)
    ·
      refine SR (Lp (p_eql rfl rfl) (La rfl (nS (T_condD rfl (fun hc9 => ?_) (fun hc9 => ?_)))))
      ·
        refine kS (T_condDT rfl (by first | assumption | omega) ?_)
        refine T_seq (SR (Lf rfl Tryz.runUnderlying39 rfl Tryz.sizeOf25 rfl (Lp (p_load rfl Tryz.isAgg25 (.head _) rfl) (Lp (p_len ((hv.2 d (List.mem_of_getElem? hid)).text.1) rfl rfl Tryz.runUnderlying25) ?_))))
        refine Lp (p_gtr rfl rfl) (nS (T_condD rfl (fun hc10 => ?_) (fun hc10 => ?_)))
        ·
          refine SR (La rfl (La rfl (nr (E_seq_ret (E_block_ret (E_block_ret (E_seq_ret (E_loop_ret (E_block_ret ?_)))))))))
          refine E_seq_ret (E_ret2 [] rfl hlgA rfl rfl (K2 .nil) (fun g' hl => ?_))
          exact .inr ⟨rfl, obs_fail hid hob (stepO_big (by omega) (by omega)), rfl⟩
        ·
          refine kS (T_region (Lm rfl (Lf rfl Tryz.runUnderlying39 rfl Tryz.sizeOf3 rfl (Lp (p_load rfl Tryz.isAgg3 (.head _) rfl) (Lf rfl Tryz.runUnderlying39 rfl Tryz.sizeOf25 rfl (Lp (p_load rfl Tryz.isAgg25 (.head _) rfl) (Lp (p_build (cells := (oC ⟨d.kind, d.text, d.ta, d.tn, d.tc⟩).toArray) rfl (by kernel_rfl)) (Lk (e_buildSlice rfl rfl rfl Tryz.runUnderlying41 Tryz.sizeOf50 Tryz.zeroValue50 rfl (by simp [Value.cells, oC])) ?_))))))))
          rintro _ _ _ - ⟨q, rfl, rfl⟩
          refine Lk (e_append (by_ := 32) rfl rfl rfl rfl Tryz.runUnderlying41 Tryz.runUnderlying41 (.inr ⟨_, rfl⟩) Tryz.sizeOf50 Tryz.zeroValue50 rfl Tryz.typeInfo50 rfl (by decide) (by decide) (src_ownS rfl (.head _)) (by rw [flat_length oC_len]; simp [flatC, Value.cells, oC]; omega) (K2 .nil) (fun u hu => oC_one _ u (by simpa [flatC, Value.cells] using hu))) ?_
          rintro v12 _ _ - ⟨n_v12, hs_v12, hn_v12, rfl⟩
          refine La rfl (TL_nil (E_block (E_block (E_seq (T_region (Lp (p_add rfl rfl (wr64 (by omega) (by omega))) (Lm rfl (TL_nil ?_))))))))
          rw [oC_snoc]
          refine EL (.refl _) ((k + 1, _, os ++ [⟨d.kind, d.text, d.ta, d.tn, d.tc⟩])) ?hm ?hI ((K0 (K2 .nil)))
          case hm => exact (by omega)
          case hI => exact (fun g' hl => ⟨by dsimp only; omega, by dsimp only; rw [obs_snoc hid hob, stepO_plain (by omega) (by omega), List.map_append]; rfl, (hot.mono hl).snoc ⟨hxd.text.mono hl, by dsimp only; omega⟩⟩)
      ·
        refine SR (Lp (p_eql rfl rfl) (La rfl (nS (T_condD rfl (fun hc13 => ?_) (fun hc13 => ?_)))))
        ·
          refine kS (T_condDT rfl (by first | assumption | omega) ?_)
          refine T_seq (SR (Lf rfl Tryz.runUnderlying39 rfl Tryz.sizeOf25 rfl (Lp (p_load rfl Tryz.isAgg25 (.head _) rfl) (Lp (p_len ((hv.2 d (List.mem_of_getElem? hid)).text.1) rfl rfl Tryz.runUnderlying25) ?_))))
          refine Lp (p_gtr rfl rfl) (nS (T_condD rfl (fun hc14 => ?_) (fun hc14 => ?_)))
          ·
            refine SR (La rfl (La rfl (nr (E_seq_ret (E_block_ret (E_block_ret (E_seq_ret (E_loop_ret (E_block_ret ?_)))))))))
            refine E_seq_ret (E_ret2 [] rfl hlgA rfl rfl (K2 .nil) (fun g' hl => ?_))
            exact .inr ⟨rfl, obs_fail hid hob (stepO_big (by omega) (by omega)), rfl⟩
          ·
            refine kS (T_region (Lm rfl (Lf rfl Tryz.runUnderlying39 rfl Tryz.sizeOf3 rfl (Lp (p_load rfl Tryz.isAgg3 (.head _) rfl) (Lf rfl Tryz.runUnderlying39 rfl Tryz.sizeOf25 rfl (Lp (p_load rfl Tryz.isAgg25 (.head _) rfl) (Lp (p_build (cells := (oC ⟨d.kind, d.text, d.ta, d.tn, d.tc⟩).toArray) rfl (by kernel_rfl)) (Lk (e_buildSlice rfl rfl rfl Tryz.runUnderlying41 Tryz.sizeOf50 Tryz.zeroValue50 rfl (by simp [Value.cells, oC])) ?_))))))))
            rintro _ _ _ - ⟨q, rfl, rfl⟩
            refine Lk (e_append (by_ := 32) rfl rfl rfl rfl Tryz.runUnderlying41 Tryz.runUnderlying41 (.inr ⟨_, rfl⟩) Tryz.sizeOf50 Tryz.zeroValue50 rfl Tryz.typeInfo50 rfl (by decide) (by decide) (src_ownS rfl (.head _)) (by rw [flat_length oC_len]; simp [flatC, Value.cells, oC]; omega) (K2 .nil) (fun u hu => oC_one _ u (by simpa [flatC, Value.cells] using hu))) ?_
            rintro v16 _ _ - ⟨n_v16, hs_v16, hn_v16, rfl⟩
            refine La rfl (TL_nil (E_block (E_block (E_seq (T_region (Lp (p_add rfl rfl (wr64 (by omega) (by omega))) (Lm rfl (TL_nil ?_))))))))
            rw [oC_snoc]
            refine EL (.refl _) ((k + 1, _, os ++ [⟨d.kind, d.text, d.ta, d.tn, d.tc⟩])) ?hm ?hI ((K0 (K2 .nil)))
            case hm => exact (by omega)
            case hI => exact (fun g' hl => ⟨by dsimp only; omega, by dsimp only; rw [obs_snoc hid hob, stepO_plain (by omega) (by omega), List.map_append]; rfl, (hot.mono hl).snoc ⟨hxd.text.mono hl, by dsimp only; omega⟩⟩)
        ·
          refine T_region (Lp (p_eql rfl rfl) (La rfl (nS (T_condD rfl (fun hc17 => ?_) (fun hc17 => ?_)))))
          ·
            refine T_seq (SR (Lf rfl Tryz.runUnderlying39 rfl Tryz.sizeOf25 rfl (Lp (p_load rfl Tryz.isAgg25 (.head _) rfl) (Lp (p_len ((hv.2 d (List.mem_of_getElem? hid)).text.1) rfl rfl Tryz.runUnderlying25) ?_))))
            refine Lp (p_gtr rfl rfl) (nS (T_condD rfl (fun hc18 => ?_) (fun hc18 => ?_)))
            ·
              refine SR (La rfl (La rfl (nr (E_seq_ret (E_block_ret (E_block_ret (E_seq_ret (E_loop_ret (E_block_ret ?_)))))))))
              refine E_seq_ret (E_ret2 [] rfl hlgA rfl rfl (K2 .nil) (fun g' hl => ?_))
              exact .inr ⟨rfl, obs_fail hid hob (stepO_big (by omega) (by omega)), rfl⟩
            ·
              refine kS (T_region (Lm rfl (Lf rfl Tryz.runUnderlying39 rfl Tryz.sizeOf3 rfl (Lp (p_load rfl Tryz.isAgg3 (.head _) rfl) (Lf rfl Tryz.runUnderlying39 rfl Tryz.sizeOf25 rfl (Lp (p_load rfl Tryz.isAgg25 (.head _) rfl) (Lp (p_build (cells := (oC ⟨d.kind, d.text, d.ta, d.tn, d.tc⟩).toArray) rfl (by kernel_rfl)) (Lk (e_buildSlice rfl rfl rfl Tryz.runUnderlying41 Tryz.sizeOf50 Tryz.zeroValue50 rfl (by simp [Value.cells, oC])) ?_))))))))
              rintro _ _ _ - ⟨q, rfl, rfl⟩
              refine Lk (e_append (by_ := 32) rfl rfl rfl rfl Tryz.runUnderlying41 Tryz.runUnderlying41 (.inr ⟨_, rfl⟩) Tryz.sizeOf50 Tryz.zeroValue50 rfl Tryz.typeInfo50 rfl (by decide) (by decide) (src_ownS rfl (.head _)) (by rw [flat_length oC_len]; simp [flatC, Value.cells, oC]; omega) (K2 .nil) (fun u hu => oC_one _ u (by simpa [flatC, Value.cells] using hu))) ?_
              rintro v20 _ _ - ⟨n_v20, hs_v20, hn_v20, rfl⟩
              refine La rfl (TL_nil (E_block (E_block (E_seq (T_region (Lp (p_add rfl rfl (wr64 (by omega) (by omega))) (Lm rfl (TL_nil ?_))))))))
              rw [oC_snoc]
              refine EL (.refl _) ((k + 1, _, os ++ [⟨d.kind, d.text, d.ta, d.tn, d.tc⟩])) ?hm ?hI ((K0 (K2 .nil)))
              case hm => exact (by omega)
              case hI => exact (fun g' hl => ⟨by dsimp only; omega, by dsimp only; rw [obs_snoc hid hob, stepO_plain (by omega) (by omega), List.map_append]; rfl, (hot.mono hl).snoc ⟨hxd.text.mono hl, by dsimp only; omega⟩⟩)
          ·
            refine T_seq (SR (Lp (p_eql rfl rfl) (La rfl (nS (T_condD rfl (fun hc21 => ?_) (fun hc21 => ?_))))))
            ·
              refine kS (T_condDT rfl (by first | assumption | omega) ?_)
              refine T_seq (T_seq (T_regionD 31 Tryz.mixed rfl (K1 (K0 (K0 .nil))) (Dp 0 rfl (p_fieldAddr rfl Tryz.runUnderlying39 rfl Tryz.sizeOf3 rfl) (Dp 1 rfl (p_load rfl Tryz.isAgg3 (.tail _ (.head _)) rfl) (Dp 2 rfl (p_lss rfl rfl) (Dp 3 rfl (p_move rfl) (TD_splitD 40 rfl (fun hg22 => ?_) (fun hg22 => ?_))))))))
              ·
                refine Ds 4 rfl (Ds 5 rfl (Ds 6 rfl (Ds 7 rfl (Dp 8 rfl (p_pickT rfl rfl) (Dp 9 rfl (p_move rfl) (Ds 10 rfl (Ds 11 rfl (Ds 12 rfl (Ds 13 rfl ?_)))))))))
                refine Ds 14 rfl (Ds 15 rfl (Ds 16 rfl (Ds 17 rfl (Dp 18 rfl (p_pickT rfl rfl) (Dp 19 rfl (p_move rfl) (Ds 20 rfl (Ds 21 rfl (Ds 22 rfl (Ds 23 rfl ?_)))))))))
                refine Ds 24 rfl (Ds 25 rfl (Ds 26 rfl (Ds 27 rfl (Ds 28 rfl (Ds 29 rfl (Dp 30 rfl (p_pickT rfl rfl) (DD (E_seq (T_condT rfl ?_)))))))))
                refine SR (La rfl (La rfl (nr (E_seq_ret (E_block_ret (E_block_ret (E_seq_ret ?_)))))))
                refine E_loop_ret (E_block_ret (E_seq_ret (E_ret2 [] rfl hlgA rfl rfl (K2 .nil) (fun g' hl => ?_))))
                (refine .inr ⟨rfl, obs_fail hid hob (stepO_none (by omega) ?_), rfl⟩; rintro p ⟨h1, h2, h3, h4, h5⟩; have h6 := lt_of_get h2; rw [List.length_map] at h6; first | omega | (have h7 := hpp p h2; subst h7; simp only [sg] at h3 h4; first | omega | (have := hgb.2 h4; simp_all)))
              ·
                refine Dg 4 rfl (p_fieldAddr rfl Tryz.runUnderlying39 rfl Tryz.sizeOf3 rfl) (Dg 5 rfl (p_load rfl Tryz.isAgg3 (.tail _ (.head _)) rfl) (Dg 6 rfl (p_move rfl) (Dg 7 rfl (p_geq rfl rfl) (Dp 8 rfl (p_pickF rfl rfl) (Dp 9 rfl (p_move rfl) (TD_splitD 46 rfl (fun hg23 => ?_) (fun hg23 => ?_)))))))
                ·
                  refine Ds 10 rfl (Ds 11 rfl (Ds 12 rfl (Ds 13 rfl (Ds 14 rfl (Ds 15 rfl (Ds 16 rfl (Ds 17 rfl (Dp 18 rfl (p_pickT rfl rfl) (Dp 19 rfl (p_move rfl) ?_)))))))))
                  refine Ds 20 rfl (Ds 21 rfl (Ds 22 rfl (Ds 23 rfl (Ds 24 rfl (Ds 25 rfl (Ds 26 rfl (Ds 27 rfl (Ds 28 rfl (Ds 29 rfl ?_)))))))))
                  refine Dp 30 rfl (p_pickT rfl rfl) (DD (E_seq (T_condT rfl (SR (La rfl (La rfl (nr (E_seq_ret (E_block_ret ?_)))))))))
                  refine E_block_ret (E_seq_ret (E_loop_ret (E_block_ret (E_seq_ret (E_ret2 [] rfl hlgA rfl rfl (K2 .nil) (fun g' hl => ?_))))))
                  (refine .inr ⟨rfl, obs_fail hid hob (stepO_none (by omega) ?_), rfl⟩; rintro p ⟨h1, h2, h3, h4, h5⟩; have h6 := lt_of_get h2; rw [List.length_map] at h6; first | omega | (have h7 := hpp p h2; subst h7; simp only [sg] at h3 h4; first | omega | (have := hgb.2 h4; simp_all)))
                ·
                  obtain ⟨ob, hob2⟩ := get_some (l := os) (k := d.base.toNat) (by omega)
                  have hpp : ∀ p, (os.map sg)[d.base.toNat]? = some p → p = sg ob := fun p hp => by rw [List.getElem?_map, hob2] at hp; exact (Option.some.inj hp).symm
                  have hbo := hot ob (List.mem_of_getElem? hob2)
                  have hbol := hbo.2
                  refine TD_shp (.head _) (fun mo hmo hml => ?_)
                  rw [flat_length oC_len] at hml
                  refine Dg 10 rfl (p_move rfl) (Dg 11 rfl (p_fieldAddr rfl Tryz.runUnderlying39 rfl Tryz.sizeOf3 rfl) (Dg 12 rfl (p_load rfl Tryz.isAgg3 (.tail _ (.head _)) rfl) (Dg 13 rfl (p_ix (hmo) (j := d.base.toNat) rfl rfl Tryz.runUnderlying41 Tryz.sizeOf50 (by omega) (by omega) rfl) (Dg 14 rfl (p_fa (hmo) (by omega) rfl Tryz.runUnderlying50 rfl Tryz.sizeOf25 rfl) (Dg 15 rfl (p_ldOwn rfl Tryz.isAgg25 (.head _) (flat_get oC_len _ _ ob hob2 1 (by decide))) (Dg 16 rfl (p_len hbo.1.1 rfl rfl Tryz.runUnderlying25) (Dg 17 rfl (p_eql rfl rfl) (Dp 18 rfl (p_pickF rfl rfl) (Dp 19 rfl (p_move rfl) (TD_splitD 56 rfl (fun hg24 => ?_) (fun hg24 => ?_)))))))))))
                  ·
                    refine Ds 20 rfl (Ds 21 rfl (Ds 22 rfl (Ds 23 rfl (Ds 24 rfl (Ds 25 rfl (Ds 26 rfl (Ds 27 rfl (Ds 28 rfl (Ds 29 rfl ?_)))))))))
                    refine Dp 30 rfl (p_pickT rfl rfl) (DD (E_seq (T_condT rfl (SR (La rfl (La rfl (nr (E_seq_ret (E_block_ret ?_)))))))))
                    refine E_block_ret (E_seq_ret (E_loop_ret (E_block_ret (E_seq_ret (E_ret2 [] rfl hlgA rfl rfl (K2 .nil) (fun g' hl => ?_))))))
                    (refine .inr ⟨rfl, obs_fail hid hob (stepO_none (by omega) ?_), rfl⟩; rintro p ⟨h1, h2, h3, h4, h5⟩; have h6 := lt_of_get h2; rw [List.length_map] at h6; first | omega | (have h7 := hpp p h2; subst h7; simp only [sg] at h3 h4; first | omega | (have := hgb.2 h4; simp_all)))
                  ·
                    refine Dg 20 rfl (p_fieldAddr rfl Tryz.runUnderlying39 rfl Tryz.sizeOf37 rfl) (Dg 21 rfl (p_load rfl Tryz.isAgg37 (.tail _ (.head _)) rfl) (Dg 22 rfl (p_move rfl) (Dg 23 rfl (p_fieldAddr rfl Tryz.runUnderlying39 rfl Tryz.sizeOf3 rfl) (Dg 24 rfl (p_load rfl Tryz.isAgg3 (.tail _ (.head _)) rfl) (Dg 25 rfl (p_ix (hmo) (j := d.base.toNat) rfl rfl Tryz.runUnderlying41 Tryz.sizeOf50 (by omega) (by omega) rfl) (Dg 26 rfl (p_fa (hmo) (by omega) rfl Tryz.runUnderlying50 rfl Tryz.sizeOf25 rfl) (Dg 27 rfl (p_ldOwn rfl Tryz.isAgg25 (.head _) (flat_get oC_len _ _ ob hob2 1 (by decide))) (TD_kg (i := 28) rfl rfl rfl rfl rfl (by kernel_rfl) rfl (e_call rfl (ct_GoodSteps gA d.sv ob.tv d.steps ob.text.length hxd.steps hfd.2 hbo.1.1 (by omega)) .nil) ?_))))))))
                    rintro _ _ _ - ⟨_, rfl, ⟨bgs, rfl, hgb, rfl⟩⟩
                    refine ⟨_, (K0 (K0 (K0 .nil))), ?_⟩
                    refine Dg 29 rfl (p_not rfl) (Dp 30 rfl (p_pickF rfl rfl) (DD (E_seq (T_condNB rfl (fun hc26 => ?_) (fun hc26 => ?_)))))
                    ·
                      refine SR (La rfl (La rfl (nr (E_seq_ret (E_block_ret (E_block_ret (E_seq_ret (E_loop_ret (E_block_ret ?_)))))))))
                      refine E_seq_ret (E_ret2 [] rfl hlgA rfl rfl (K2 .nil) (fun g' hl => ?_))
                      (refine .inr ⟨rfl, obs_fail hid hob (stepO_none (by omega) ?_), rfl⟩; rintro p ⟨h1, h2, h3, h4, h5⟩; have h6 := lt_of_get h2; rw [List.length_map] at h6; first | omega | (have h7 := hpp p h2; subst h7; simp only [sg] at h3 h4; first | omega | (have := hgb.2 h4; simp_all)))
                    ·
                      refine kS (T_seq (T_regionD 10 Tryz.mixed rfl (K0 (K0 (K0 .nil))) ?_))
                      have hgs : GSteps d.steps ob.text.length := hgb.1 (by assumption)
                      refine Dp 0 rfl (p_move rfl) (Dp 1 rfl (p_fieldAddr rfl Tryz.runUnderlying39 rfl Tryz.sizeOf3 rfl) (Dp 2 rfl (p_load rfl Tryz.isAgg3 (.tail _ (.head _)) rfl) (Dp 3 rfl (p_ix (hmo) (j := d.base.toNat) rfl rfl Tryz.runUnderlying41 Tryz.sizeOf50 (by omega) (by omega) rfl) (Dp 4 rfl (p_fa (hmo) (by omega) rfl Tryz.runUnderlying50 rfl Tryz.sizeOf25 rfl) (Dp 5 rfl (p_ldOwn rfl Tryz.isAgg25 (.head _) (flat_get oC_len _ _ ob hob2 1 (by decide))) (Dp 6 rfl (p_fieldAddr rfl Tryz.runUnderlying39 rfl Tryz.sizeOf37 rfl) (Dp 7 rfl (p_load rfl Tryz.isAgg37 (.tail _ (.head _)) rfl) (DK 8 rfl (e_call rfl (ct_Made gA ob.tv d.sv ob.text d.steps hbo.1 hxd.steps hgs) .nil) ?_))))))))
                      rintro _ _ _ - ⟨_, rfl, ⟨md, hmd, hmdl, rfl⟩⟩
                      refine ⟨_, (K1 (K1 (K1 .nil))), ?_⟩
                      refine Dp 9 rfl (p_assign rfl) (DD (E_seq (T_seq (SR ?_))))
                      obtain ⟨ta, tn, tc, hveq⟩ := Shp.is hmd
                      subst hveq
                      have hmll := madeLen_le hgs
                      refine TL_freeze (K3 .nil) (fun gM hlgM hrd => ?_)
                      refine Lm rfl (Lp (p_len hmd rfl rfl Tryz.runUnderlying25) (Lp (p_gtr rfl rfl) (nS (T_condD rfl (fun hc28 => ?_) (fun hc28 => ?_)))))
                      ·
                        refine SR (La rfl (La rfl (nr (E_seq_ret (E_block_ret (E_block_ret (E_seq_ret (E_loop_ret (E_block_ret ?_)))))))))
                        refine E_seq_ret (E_ret2 [] rfl (hlgA.trans hlgM) rfl rfl (K2 .nil) (fun g' hl => ?_))
                        (refine .inr ⟨rfl, obs_fail hid hob (stepO_none (by omega) ?_), rfl⟩; rintro p ⟨h1, h2, h3, h4, h5⟩; have h6 := lt_of_get h2; rw [List.length_map] at h6; first | omega | (have h7 := hpp p h2; subst h7; simp only [sg] at h3 h4; first | omega | (have := hgb.2 h4; simp_all)))
                      ·
                        refine kS (T_region (Lm rfl (Lm rfl (Lf rfl Tryz.runUnderlying39 rfl Tryz.sizeOf3 rfl (Lp (p_load rfl Tryz.isAgg3 (.tail _ (.head _)) rfl) (Lp (p_ix (hmo) (j := d.base.toNat) rfl rfl Tryz.runUnderlying41 Tryz.sizeOf50 (by omega) (by omega) rfl) (Lp (p_fa (hmo) (by omega) rfl Tryz.runUnderlying50 rfl Tryz.sizeOf3 rfl) (Lp (p_ldOwn rfl Tryz.isAgg3 (.head _) (flat_get oC_len _ _ ob hob2 0 (by decide))) (Lm rfl ?_)))))))))
                        refine Lp (p_build (cells := (oC ⟨ob.kind, md, ta, tn, tc⟩).toArray) rfl (by kernel_rfl)) (Lk (e_buildSlice rfl rfl rfl Tryz.runUnderlying41 Tryz.sizeOf50 Tryz.zeroValue50 rfl (by simp [Value.cells, oC])) ?_)
                        rintro _ _ _ - ⟨q2, rfl, rfl⟩
                        refine Lk (e_append (by_ := 32) rfl rfl rfl rfl Tryz.runUnderlying41 Tryz.runUnderlying41 (.inr ⟨_, rfl⟩) Tryz.sizeOf50 Tryz.zeroValue50 rfl Tryz.typeInfo50 rfl (by decide) (by decide) (src_ownS rfl (.head _)) (by rw [flat_length oC_len]; simp [flatC, Value.cells, oC]; omega) (K1 .nil) (fun u hu => oC_one _ u (by simpa [flatC, Value.cells] using hu))) ?_
                        rintro v30 _ _ - ⟨n_v30, hs_v30, hn_v30, rfl⟩
                        refine La rfl (TL_nil (E_block (E_block (E_seq (T_region (Lp (p_add rfl rfl (wr64 (by omega) (by omega))) (Lm rfl (TL_nil ?_))))))))
                        rw [oC_snoc]
                        refine EL hlgM ((k + 1, _, os ++ [⟨ob.kind, md, ta, tn, tc⟩])) ?hm ?hI ((K0 (K2 .nil)))
                        case hm => exact (by omega)
                        case hI => exact (fun g' hl => ⟨by dsimp only; omega, by dsimp only; rw [obs_snoc hid hob, stepO_delta (p := sg ob) (by omega) ⟨by omega, by rw [List.getElem?_map, hob2]; rfl, by show ob.text.length ≠ 0; omega, hgs, by omega⟩, List.map_append, ← hmdl]; rfl, (hot.mono (hlgM.trans hl)).snoc ⟨⟨hmd, hrd.mono hl⟩, by dsimp only; omega⟩⟩)
            ·
              refine T_region (Lp (p_eql rfl rfl) (La rfl (nS (T_condD rfl (fun hc31 => ?_) (fun hc31 => ?_)))))
              ·
                refine T_seq (T_seq (T_regionD 31 Tryz.mixed rfl (K1 (K0 (K0 .nil))) (Dp 0 rfl (p_fieldAddr rfl Tryz.runUnderlying39 rfl Tryz.sizeOf3 rfl) (Dp 1 rfl (p_load rfl Tryz.isAgg3 (.tail _ (.head _)) rfl) (Dp 2 rfl (p_lss rfl rfl) (Dp 3 rfl (p_move rfl) (TD_splitD 40 rfl (fun hg32 => ?_) (fun hg32 => ?_))))))))
                ·
                  refine Ds 4 rfl (Ds 5 rfl (Ds 6 rfl (Ds 7 rfl (Dp 8 rfl (p_pickT rfl rfl) (Dp 9 rfl (p_move rfl) (Ds 10 rfl (Ds 11 rfl (Ds 12 rfl (Ds 13 rfl ?_)))))))))
                  refine Ds 14 rfl (Ds 15 rfl (Ds 16 rfl (Ds 17 rfl (Dp 18 rfl (p_pickT rfl rfl) (Dp 19 rfl (p_move rfl) (Ds 20 rfl (Ds 21 rfl (Ds 22 rfl (Ds 23 rfl ?_)))))))))
                  refine Ds 24 rfl (Ds 25 rfl (Ds 26 rfl (Ds 27 rfl (Ds 28 rfl (Ds 29 rfl (Dp 30 rfl (p_pickT rfl rfl) (DD (E_seq (T_condT rfl ?_)))))))))
                  refine SR (La rfl (La rfl (nr (E_seq_ret (E_block_ret (E_block_ret (E_seq_ret ?_)))))))
                  refine E_loop_ret (E_block_ret (E_seq_ret (E_ret2 [] rfl hlgA rfl rfl (K2 .nil) (fun g' hl => ?_))))
                  (refine .inr ⟨rfl, obs_fail hid hob (stepO_none (by omega) ?_), rfl⟩; rintro p ⟨h1, h2, h3, h4, h5⟩; have h6 := lt_of_get h2; rw [List.length_map] at h6; first | omega | (have h7 := hpp p h2; subst h7; simp only [sg] at h3 h4; first | omega | (have := hgb.2 h4; simp_all)))
                ·
                  refine Dg 4 rfl (p_fieldAddr rfl Tryz.runUnderlying39 rfl Tryz.sizeOf3 rfl) (Dg 5 rfl (p_load rfl Tryz.isAgg3 (.tail _ (.head _)) rfl) (Dg 6 rfl (p_move rfl) (Dg 7 rfl (p_geq rfl rfl) (Dp 8 rfl (p_pickF rfl rfl) (Dp 9 rfl (p_move rfl) (TD_splitD 46 rfl (fun hg33 => ?_) (fun hg33 => ?_)))))))
                  ·
                    refine Ds 10 rfl (Ds 11 rfl (Ds 12 rfl (Ds 13 rfl (Ds 14 rfl (Ds 15 rfl (Ds 16 rfl (Ds 17 rfl (Dp 18 rfl (p_pickT rfl rfl) (Dp 19 rfl (p_move rfl) ?_)))))))))
                    refine Ds 20 rfl (Ds 21 rfl (Ds 22 rfl (Ds 23 rfl (Ds 24 rfl (Ds 25 rfl (Ds 26 rfl (Ds 27 rfl (Ds 28 rfl (Ds 29 rfl ?_)))))))))
                    refine Dp 30 rfl (p_pickT rfl rfl) (DD (E_seq (T_condT rfl (SR (La rfl (La rfl (nr (E_seq_ret (E_block_ret ?_)))))))))
                    refine E_block_ret (E_seq_ret (E_loop_ret (E_block_ret (E_seq_ret (E_ret2 [] rfl hlgA rfl rfl (K2 .nil) (fun g' hl => ?_))))))
                    (refine .inr ⟨rfl, obs_fail hid hob (stepO_none (by omega) ?_), rfl⟩; rintro p ⟨h1, h2, h3, h4, h5⟩; have h6 := lt_of_get h2; rw [List.length_map] at h6; first | omega | (have h7 := hpp p h2; subst h7; simp only [sg] at h3 h4; first | omega | (have := hgb.2 h4; simp_all)))
                  ·
                    obtain ⟨ob, hob2⟩ := get_some (l := os) (k := d.base.toNat) (by omega)
                    have hpp : ∀ p, (os.map sg)[d.base.toNat]? = some p → p = sg ob := fun p hp => by rw [List.getElem?_map, hob2] at hp; exact (Option.some.inj hp).symm
                    have hbo := hot ob (List.mem_of_getElem? hob2)
                    have hbol := hbo.2
                    refine TD_shp (.head _) (fun mo hmo hml => ?_)
                    rw [flat_length oC_len] at hml
                    refine Dg 10 rfl (p_move rfl) (Dg 11 rfl (p_fieldAddr rfl Tryz.runUnderlying39 rfl Tryz.sizeOf3 rfl) (Dg 12 rfl (p_load rfl Tryz.isAgg3 (.tail _ (.head _)) rfl) (Dg 13 rfl (p_ix (hmo) (j := d.base.toNat) rfl rfl Tryz.runUnderlying41 Tryz.sizeOf50 (by omega) (by omega) rfl) (Dg 14 rfl (p_fa (hmo) (by omega) rfl Tryz.runUnderlying50 rfl Tryz.sizeOf25 rfl) (Dg 15 rfl (p_ldOwn rfl Tryz.isAgg25 (.head _) (flat_get oC_len _ _ ob hob2 1 (by decide))) (Dg 16 rfl (p_len hbo.1.1 rfl rfl Tryz.runUnderlying25) (Dg 17 rfl (p_eql rfl rfl) (Dp 18 rfl (p_pickF rfl rfl) (Dp 19 rfl (p_move rfl) (TD_splitD 56 rfl (fun hg34 => ?_) (fun hg34 => ?_)))))))))))
                    ·
                      refine Ds 20 rfl (Ds 21 rfl (Ds 22 rfl (Ds 23 rfl (Ds 24 rfl (Ds 25 rfl (Ds 26 rfl (Ds 27 rfl (Ds 28 rfl (Ds 29 rfl ?_)))))))))
                      refine Dp 30 rfl (p_pickT rfl rfl) (DD (E_seq (T_condT rfl (SR (La rfl (La rfl (nr (E_seq_ret (E_block_ret ?_)))))))))
                      refine E_block_ret (E_seq_ret (E_loop_ret (E_block_ret (E_seq_ret (E_ret2 [] rfl hlgA rfl rfl (K2 .nil) (fun g' hl => ?_))))))
                      (refine .inr ⟨rfl, obs_fail hid hob (stepO_none (by omega) ?_), rfl⟩; rintro p ⟨h1, h2, h3, h4, h5⟩; have h6 := lt_of_get h2; rw [List.length_map] at h6; first | omega | (have h7 := hpp p h2; subst h7; simp only [sg] at h3 h4; first | omega | (have := hgb.2 h4; simp_all)))
                    ·
                      refine Dg 20 rfl (p_fieldAddr rfl Tryz.runUnderlying39 rfl Tryz.sizeOf37 rfl) (Dg 21 rfl (p_load rfl Tryz.isAgg37 (.tail _ (.head _)) rfl) (Dg 22 rfl (p_move rfl) (Dg 23 rfl (p_fieldAddr rfl Tryz.runUnderlying39 rfl Tryz.sizeOf3 rfl) (Dg 24 rfl (p_load rfl Tryz.isAgg3 (.tail _ (.head _)) rfl) (Dg 25 rfl (p_ix (hmo) (j := d.base.toNat) rfl rfl Tryz.runUnderlying41 Tryz.sizeOf50 (by omega) (by omega) rfl) (Dg 26 rfl (p_fa (hmo) (by omega) rfl Tryz.runUnderlying50 rfl Tryz.sizeOf25 rfl) (Dg 27 rfl (p_ldOwn rfl Tryz.isAgg25 (.head _) (flat_get oC_len _ _ ob hob2 1 (by decide))) (TD_kg (i := 28) rfl rfl rfl rfl rfl (by kernel_rfl) rfl (e_call rfl (ct_GoodSteps gA d.sv ob.tv d.steps ob.text.length hxd.steps hfd.2 hbo.1.1 (by omega)) .nil) ?_))))))))
                      rintro _ _ _ - ⟨_, rfl, ⟨bgs, rfl, hgb, rfl⟩⟩
                      refine ⟨_, (K0 (K0 (K0 .nil))), ?_⟩
                      refine Dg 29 rfl (p_not rfl) (Dp 30 rfl (p_pickF rfl rfl) (DD (E_seq (T_condNB rfl (fun hc36 => ?_) (fun hc36 => ?_)))))
                      ·
                        refine SR (La rfl (La rfl (nr (E_seq_ret (E_block_ret (E_block_ret (E_seq_ret (E_loop_ret (E_block_ret ?_)))))))))
                        refine E_seq_ret (E_ret2 [] rfl hlgA rfl rfl (K2 .nil) (fun g' hl => ?_))
                        (refine .inr ⟨rfl, obs_fail hid hob (stepO_none (by omega) ?_), rfl⟩; rintro p ⟨h1, h2, h3, h4, h5⟩; have h6 := lt_of_get h2; rw [List.length_map] at h6; first | omega | (have h7 := hpp p h2; subst h7; simp only [sg] at h3 h4; first | omega | (have := hgb.2 h4; simp_all)))
                      ·
                        refine kS (T_seq (T_regionD 10 Tryz.mixed rfl (K0 (K0 (K0 .nil))) ?_))
                        have hgs : GSteps d.steps ob.text.length := hgb.1 (by assumption)
                        refine Dp 0 rfl (p_move rfl) (Dp 1 rfl (p_fieldAddr rfl Tryz.runUnderlying39 rfl Tryz.sizeOf3 rfl) (Dp 2 rfl (p_load rfl Tryz.isAgg3 (.tail _ (.head _)) rfl) (Dp 3 rfl (p_ix (hmo) (j := d.base.toNat) rfl rfl Tryz.runUnderlying41 Tryz.sizeOf50 (by omega) (by omega) rfl) (Dp 4 rfl (p_fa (hmo) (by omega) rfl Tryz.runUnderlying50 rfl Tryz.sizeOf25 rfl) (Dp 5 rfl (p_ldOwn rfl Tryz.isAgg25 (.head _) (flat_get oC_len _ _ ob hob2 1 (by decide))) (Dp 6 rfl (p_fieldAddr rfl Tryz.runUnderlying39 rfl Tryz.sizeOf37 rfl) (Dp 7 rfl (p_load rfl Tryz.isAgg37 (.tail _ (.head _)) rfl) (DK 8 rfl (e_call rfl (ct_Made gA ob.tv d.sv ob.text d.steps hbo.1 hxd.steps hgs) .nil) ?_))))))))
                        rintro _ _ _ - ⟨_, rfl, ⟨md, hmd, hmdl, rfl⟩⟩
                        refine ⟨_, (K1 (K1 (K1 .nil))), ?_⟩
                        refine Dp 9 rfl (p_assign rfl) (DD (E_seq (T_seq (SR ?_))))
                        obtain ⟨ta, tn, tc, hveq⟩ := Shp.is hmd
                        subst hveq
                        have hmll := madeLen_le hgs
                        refine TL_freeze (K3 .nil) (fun gM hlgM hrd => ?_)
                        refine Lm rfl (Lp (p_len hmd rfl rfl Tryz.runUnderlying25) (Lp (p_gtr rfl rfl) (nS (T_condD rfl (fun hc38 => ?_) (fun hc38 => ?_)))))
                        ·
                          refine SR (La rfl (La rfl (nr (E_seq_ret (E_block_ret (E_block_ret (E_seq_ret (E_loop_ret (E_block_ret ?_)))))))))
                          refine E_seq_ret (E_ret2 [] rfl (hlgA.trans hlgM) rfl rfl (K2 .nil) (fun g' hl => ?_))
                          (refine .inr ⟨rfl, obs_fail hid hob (stepO_none (by omega) ?_), rfl⟩; rintro p ⟨h1, h2, h3, h4, h5⟩; have h6 := lt_of_get h2; rw [List.length_map] at h6; first | omega | (have h7 := hpp p h2; subst h7; simp only [sg] at h3 h4; first | omega | (have := hgb.2 h4; simp_all)))
                        ·
                          refine kS (T_region (Lm rfl (Lm rfl (Lf rfl Tryz.runUnderlying39 rfl Tryz.sizeOf3 rfl (Lp (p_load rfl Tryz.isAgg3 (.tail _ (.head _)) rfl) (Lp (p_ix (hmo) (j := d.base.toNat) rfl rfl Tryz.runUnderlying41 Tryz.sizeOf50 (by omega) (by omega) rfl) (Lp (p_fa (hmo) (by omega) rfl Tryz.runUnderlying50 rfl Tryz.sizeOf3 rfl) (Lp (p_ldOwn rfl Tryz.isAgg3 (.head _) (flat_get oC_len _ _ ob hob2 0 (by decide))) (Lm rfl ?_)))))))))
                          refine Lp (p_build (cells := (oC ⟨ob.kind, md, ta, tn, tc⟩).toArray) rfl (by kernel_rfl)) (Lk (e_buildSlice rfl rfl rfl Tryz.runUnderlying41 Tryz.sizeOf50 Tryz.zeroValue50 rfl (by simp [Value.cells, oC])) ?_)
                          rintro _ _ _ - ⟨q2, rfl, rfl⟩
                          refine Lk (e_append (by_ := 32) rfl rfl rfl rfl Tryz.runUnderlying41 Tryz.runUnderlying41 (.inr ⟨_, rfl⟩) Tryz.sizeOf50 Tryz.zeroValue50 rfl Tryz.typeInfo50 rfl (by decide) (by decide) (src_ownS rfl (.head _)) (by rw [flat_length oC_len]; simp [flatC, Value.cells, oC]; omega) (K1 .nil) (fun u hu => oC_one _ u (by simpa [flatC, Value.cells] using hu))) ?_
                          rintro v40 _ _ - ⟨n_v40, hs_v40, hn_v40, rfl⟩
                          refine La rfl (TL_nil (E_block (E_block (E_seq (T_region (Lp (p_add rfl rfl (wr64 (by omega) (by omega))) (Lm rfl (TL_nil ?_))))))))
                          rw [oC_snoc]
                          refine EL hlgM ((k + 1, _, os ++ [⟨ob.kind, md, ta, tn, tc⟩])) ?hm ?hI ((K0 (K2 .nil)))
                          case hm => exact (by omega)
                          case hI => exact (fun g' hl => ⟨by dsimp only; omega, by dsimp only; rw [obs_snoc hid hob, stepO_delta (p := sg ob) (by omega) ⟨by omega, by rw [List.getElem?_map, hob2]; rfl, by show ob.text.length ≠ 0; omega, hgs, by omega⟩, List.map_append, ← hmdl]; rfl, (hot.mono (hlgM.trans hl)).snoc ⟨⟨hmd, hrd.mono hl⟩, by dsimp only; omega⟩⟩)
              ·
                refine SR (La rfl (La rfl (nr (E_block_ret (E_block_ret (E_seq_ret (E_loop_ret (E_block_ret (E_seq_ret (E_ret2 [] rfl hlgA rfl rfl (K2 .nil) (fun g' hl => ?_)))))))))))
                exact .inr ⟨rfl, obs_fail hid hob (stepO_kind (by omega) (by omega)), rfl⟩
  ·
    obtain rfl : k = l.length := by omega
    refine T_exit (E_seq_exit (E_loop_exit (E_block_hit (E_seq (SR (TL_shp (.head _) (fun mo hmo hml => ?_)))))))
    rw [flat_length oC_len] at hml
    obtain rfl : mo = os.length := by omega
    refine Lm rfl (La rfl (La rfl (nr (E_ret2 [_] rfl hlgA rfl rfl (K0 (K0 .nil)) (fun g' hl => ?_)))))
    exact .inl ⟨_, os, rfl, by rw [List.take_length] at hob; exact hob, hmo, hot.mono hl, rfl⟩
end Go.Proofs.YtolddodhmeaceaaGreatDoor
namespace Go.Hl
variable {P : Program}
theorem Ct.conv {g f args H} {R R' : Value → GW → List Atom → Prop} (h : Ct P g f args H R)
    (hr : ∀ v g' H' F, Le g g' → R v g' H' → Sat (H' ++ [F]) g' → ∃ H'', R' v g' H'' ∧ Sat (H'' ++ [F]) g') : Ct P g f args H R' :=
  ⟨h.1, fun F g' hl hs => (h.2 F g' hl hs).mono fun e w' ⟨v, I, H', he, hl', hR, hs'⟩ =>
    let ⟨H'', h1, h2⟩ := hr v _ H' F (hl.trans hl') hR hs'
    ⟨v, I, H'', he, hl', h1, h2⟩⟩
/-- What A tells is there, and no one writes it. -/
def Still (g : GW) (A : Atom) : Prop := A.holds g.w ∧ ∀ b, A.dom b → g.I b
/-- A callee that only reads what A tells: it is lent, and comes back. -/
theorem Ct.thaw {A : Atom} {g f args H} {R : Value → List Atom → Prop} (h1 : ∃ fn, P.funcs[f]? = some fn ∧ fn.body.isNone = false ∧ (fn.name == "runtime.NumGoroutine") = false)
    (h : ∀ g1, Le g g1 → Still g1 A → Ct P g1 f args H (fun v _ H' => R v H')) : Ct P g f args (A :: H) (fun v _ H' => ∃ H0, H' = A :: H0 ∧ R v H0) := by
  refine ⟨h1, fun F g' hl hs => ?_⟩
  have hs0 : Sat (A :: (H ++ [F])) g' := hs
  obtain ⟨hf1, hf2⟩ := hs0.freeze
  have hA := hs0.holds A (by simp)
  have hd := hs0.dom A (by simp)
  have hc := (h ⟨g'.w, fun b => g'.I b ∨ A.dom b⟩ (hl.trans hf2) ⟨hA, fun b hb => .inr hb⟩).2 F _ (.refl _) hf1
  refine hc.mono ?_
  rintro e w' ⟨v, I, H', he, hl', hR, hs'⟩
  have hsame : ∀ b, A.dom b → w'.heap[b]? = g'.w.heap[b]? := fun b hb => hl'.same b (.inr hb)
  have hsub : ∀ b, A.dom b → I b := fun b hb => hl'.sub b (.inr hb)
  refine ⟨v, fun b => I b ∧ ¬ A.dom b, A :: H', he, ⟨hl'.os, hl'.output, hl'.size, fun b hb => ⟨hl'.sub b (.inl hb), fun ha => (hd b ha).2 hb⟩, fun b hb => hl'.same b (.inl hb)⟩, ⟨H', rfl, hR⟩, ?_⟩
  refine ⟨fun b hb => hs'.lt b hb.1, fun B hB => ?_, fun B hB b hb => ?_, List.pairwise_cons.2 ⟨fun B hB b hb hb' => ?_, hs'.sep⟩⟩
  · rcases List.mem_cons.1 hB with rfl | hB
    · exact B.loc g'.w _ (fun b hb => hsame b hb) hA
    · exact hs'.holds B hB
  · rcases List.mem_cons.1 hB with rfl | hB
    · exact ⟨hs'.lt b (hsub b hb), fun h => h.2 hb⟩
    · have := hs'.dom B hB b hb
      exact ⟨this.1, fun h => this.2 h.1⟩
  · exact (hs'.dom B hB b hb').2 (hsub b hb)
theorem Still.rd {g : GW} {v : Value} {sz e xs} (h : Still g (own v sz e xs)) : Rd g v xs := by
  obtain ⟨hh, hd⟩ := h
  cases v with
  | slice a len cap =>
    cases a with
    | none => exact hh.2.2
    | some a =>
      obtain ⟨b, o, sp⟩ := a
      have hsp := hh.1
      simp only [] at hsp
      subst hsp
      exact ⟨.inr rfl, fun j u hj => ⟨hd b rfl, own_cell hh hj⟩⟩
  | _ => exact hh.elim
theorem Still.bytes {g : GW} {v : Value} {m : Nat} {A : List UInt8 → Atom} {xs : List UInt8} (hB : Bf v m A) (hx : xs.length = m) (h : Still g (A xs)) : Bytes g v xs := by
  refine ⟨hx ▸ hB.shp, ?_⟩
  by_cases h0 : 0 < m
  · obtain ⟨b, o, cap, c, e, fz, rfl, hcap, hdom, hb, hsz, hget, hfz, hset⟩ := hB.at_ xs g.w hx h0 h.1
    refine ⟨.inr rfl, fun j u hj => ⟨h.2 b hdom, ?_⟩⟩
    obtain ⟨c', hc', rfl⟩ := bvs_getI hj
    simp only [World.cell?, hb, Option.isSome_none, Bool.false_eq_true, if_false]
    exact hget j c' hc'
  · obtain rfl : m = 0 := by omega
    obtain rfl : xs = [] := List.eq_nil_of_length_eq_zero hx
    rcases hB.shp with ⟨p0, cap, rfl, _⟩ | ⟨b, o, cap, hc, rfl⟩
    · exact Rd.nil _ _ _ _
    · exact ⟨.inr rfl, fun j u hj => by simp [bvs] at hj⟩
theorem Still.sub {g : GW} {v : Value} {m : Nat} {A : List UInt8 → Atom} {xs : List UInt8} (hB : Bf v m A) (hx : xs.length = m) (h : Still g (A xs)) {c d : Nat} (hcd : c ≤ d) (hd : d ≤ m) : Bytes g (sl v c d 1) ((xs.drop c).take (d - c)) :=
  Still.bytes (hB.sub hx hcd hd) (by rw [List.length_take, List.length_drop]; omega) (by rw [parts xs c d hcd]; exact h)
section
variable {d : Option Nat} {ty : TypeId} {ps : String} {af : Array Edge} {gd : Option (Nat × Bool)} {g : GW} {L : List (Nat × Value)} {H : List Atom}
variable {α : Type} [DecidableEq α] {f : α → Value}
theorem p_lookupOkE {t x ix b kt e z r s} {a : α} {l : List (α × Value)} (K : KeyT P kt f) (hr : (lookA a l).getD z = r) (hq : (lookA a l).isSome = s) (ex : ev L x = some (.map (some b))) (ei : ev L ix = some (f a)) (ht : ∀ w, (underlying t).run P w = .ok (.map kt e) w)
    (hz : ∀ w, (zeroValue e).run P w = .ok z w) (hm : blk b (mapO f l) ∈ H) : OpP P ⟨d, .lookup t x ix true, ty, ps, af, gd⟩ g L H (.tuple #[r, .bool s]) := by
  subst hr; subst hq; exact p_lookupOk K ex ei ht hz hm
end
section
variable {d : Option Nat} {ty : TypeId} {ps : String} {af : Array Edge} {gd : Option (Nat × Bool)} {g : GW} {L : List (Nat × Value)} {H Hr : List Atom}
theorem e_buildSliceB {t len el sz z} {parts : List (Nat × Operand)} {vs : List Value} (hi : parts.map (·.1) = List.range' 0 len) (e : evs L (parts.map (·.2)) = some vs) (hn : vs.length = len)
    (hu : ∀ w, (underlying t).run P w = .ok (.slice el) w) (hz : ∀ w, (sizeOf el).run P w = .ok sz w) (hzv : ∀ w, (zeroValue el).run P w = .ok z w) (hb' : Nat.ble (len * sz) 16777216 = true)
    (hall : ∀ v ∈ vs, v.cells.size = sz) :
    Op1 P ⟨d, .buildSlice t len parts.toArray, ty, ps, af, gd⟩ g L H (fun u g' H' => ∃ b, u = .slice (some ⟨b, 0, none⟩) len len ∧ H' = blk b (.cells (flatC vs).toArray el) :: H) :=
  Op1.of_run fun a n D hk g' hl hs => by
    have hfl := flatC_length sz vs hall
    have hb : len * sz ≤ 16777216 := Nat.le_of_ble_eq_true hb'
    obtain ⟨hs', hl'⟩ := hs.alloc (.cells (flatC vs).toArray el)
    refine ⟨.slice (some ⟨g'.w.heap.size, 0, none⟩) len len, { g'.w with heap := g'.w.heap.push (.cells (flatC vs).toArray el) }, g'.I, _, ?_, hl', hs', _, rfl, rfl⟩
    · have hev := hk.evals e
      have hp : (parts.toArray.map fun (x : Nat × Operand) => (x.1, a.eval x.2)).toList = (List.range' 0 len).zip vs := by
        rw [← hev, ← hi]
        simp [List.map_toArray, List.zip_map', Function.comp]
      simp only [execOp]
      refine run_v ?_
      unfold Instr.buildSlice
      rw [run_bind_ok (hu _)]
      simp only [Sem.run_bind, hz, Result.andThen_ok]
      rw [if_neg (by omega)]
      have hpre : ∀ c : Array Value, c.size = len * sz → Instr.fill (fun i => some (i * sz, sz)) c (parts.toArray.map fun (x : Nat × Operand) => (x.1, a.eval x.2)).toList = some (flatC vs).toArray := by
        intro c hc
        rw [hp, ← hn, fill_full sz vs 0 c hall (by rw [hc, hn]; omega), Nat.zero_mul, setR_full _ _ (by rw [hfl, hc, hn])]
      by_cases h0 : len * sz = 0
      · rw [if_pos h0]
        simp only [Sem.run_bind, Sem.run_pure, Result.andThen_ok]
        rw [hpre _ (by simp [h0])]
        rfl
      · rw [if_neg h0]
        simp only [Sem.run_bind, Sem.run_pure, Result.andThen_ok, hzv]
        rw [hpre _ (by simp)]
        rfl
/-- []byte("..") of a constant: the row is marked behind its end. -/
theorem e_mark {t x e b n xs} (ex : ev L x = some (.slice (some ⟨b, 0, none⟩) n n)) (hu : ∀ w, (underlying t).run P w = .ok (.slice e) w) (he : ∀ w, (underlying e).run P w = .ok (.int .u8) w)
    (p : Part H [blk b (.cells xs.toArray e)] Hr) (hn : xs.length = n) : Op1 P ⟨d, .convert t t x, ty, ps, af, gd⟩ g L H (fun r g' H' => r = .slice (some ⟨b, 0, none⟩) n n ∧ H' = own (.slice (some ⟨b, 0, none⟩) n n) 1 e xs :: Hr) :=
  Op1.of_run fun a nn D hk g' hl hsat => by
    subst hn
    have hb : g'.w.heap[b]? = some (.cells xs.toArray e) := hsat.head p
    have hlt : b < g'.w.heap.size := (Array.getElem?_eq_some_iff.1 hb).1
    have hsh : g'.w.shape? b = some (e, xs.length) := by unfold World.shape?; rw [hb]; simp
    have h1 : ∀ k, (g'.w.freeze ⟨b, xs.length, none⟩ 1).heap[k]? = (if k = b then some (.cells xs.toArray e (xs.length, xs.length + 1)) else g'.w.heap[k]?) := fun k => by
      unfold World.freeze
      rw [if_neg (by decide)]
      simp only [Array.getElem?_modify]
      by_cases hk : k = b
      · subst hk; rw [if_pos rfl, if_pos rfl, hb]; rfl
      · rw [if_neg (fun h => hk h.symm), if_neg hk]
    have hsz : (g'.w.freeze ⟨b, xs.length, none⟩ 1).heap.size = g'.w.heap.size := by unfold World.freeze; rw [if_neg (by decide)]; simp
    have hd := (hsat.part p).dom (blk b (.cells xs.toArray e)) (by simp)
    have h2 := hsat.upd p (g'.w.freeze ⟨b, xs.length, none⟩ 1) (own (.slice (some ⟨b, 0, none⟩) xs.length xs.length) 1 e xs) (by unfold World.freeze; split <;> rfl) (by unfold World.freeze; split <;> rfl) (Nat.le_of_eq hsz.symm)
      (fun k _ hk => by rw [h1, if_neg (fun e : k = b => hk e)])
      (own_mk (c := xs.toArray) (fz := (xs.length, xs.length + 1)) (by rw [h1, if_pos rfl]) (by omega) (Nat.le_refl _) (by simp) (fun j u hj => by simpa using hj) (fun k hk h => by simp at hk h; omega))
      (fun k hk => by cases hk; exact ⟨by rw [hsz]; exact hlt, .inl rfl⟩)
    refine ⟨_, g'.w.freeze ⟨b, xs.length, none⟩ 1, g'.I, _, ?_, h2.2, h2.1, rfl, rfl⟩
    simp only [execOp, hk.eval ex]
    refine run_v ?_
    simp [convert, hu, he, markStringish, hsh]
end
end Go.Hl
namespace Go.Proofs.YtolddodhmeaceaaGreatDoor
open Go.Hl Go.Pk
def kindT (k : Nat) : List UInt8 := match k with | 1 => commitT | 2 => treeT | 3 => blobT | 4 => tagT | _ => []
theorem ct_KindName (g : GW) (k : Nat) (h1 : 1 ≤ k) (h4 : k ≤ 4) : Ct Tryz.prog g 19 [.int .i64 k] [] (fun r g' H' => r = str (kindT k) ∧ H' = []) := by
  refine CI Tryz.func19 Tryz.ntmps19 rfl fun F g0 hg0 => ?_
  refine SR (La rfl (nSR (Lk (e_buildSlice rfl rfl rfl Tryz.runUnderlying107 Tryz.sizeOf9 Tryz.zeroValue9 rfl (by simp [Value.cells])) ?_)))
  rintro _ _ _ - ⟨q, rfl, rfl⟩
  refine Lm rfl (Lp (p_indexAddr (j := k) rfl rfl Tryz.runUnderlying107 Tryz.sizeOf9 (by omega) (by omega) rfl) ?_)
  refine Lp (p_ldOwn (u := str (kindT k)) rfl Tryz.isAgg9 (.head _) (by rw [Nat.mul_one]; rcases (by omega : k = 1 ∨ k = 2 ∨ k = 3 ∨ k = 4) with rfl | rfl | rfl | rfl <;> rfl)) ?_
  refine La rfl (nr (E_ret1 [] rfl (.refl _) rfl (K1 .nil) (fun g' hl => ?_)))
  exact ⟨rfl, rfl⟩
theorem kindT_length (k : Nat) : (kindT k).length ≤ 6 := by unfold kindT; split <;> decide
theorem ct_Name (g : GW) (o : OV) (k : Nat) (hk : o.kind = (k : Int)) (h1 : 1 ≤ k) (h4 : k ≤ 4) (ho : Bytes g o.tv o.text) (hl : o.text.length ≤ 1000000) :
    Ct Tryz.prog g 36 [.agg (oC o).toArray] [] (fun r g' H' => ∃ s, r = str s ∧ H' = []) := by
  have hkl := kindT_length k
  refine CI Tryz.func36 Tryz.ntmps36 rfl fun F g0 hg0 => ?_
  replace ho := ho.mono hg0
  refine SR (Lk (e_box rfl rfl) ?_)
  rintro _ _ _ - ⟨ob, rfl, rfl⟩
  refine La rfl (nS (T_seq (T_regionD 8 Tryz.mixed rfl (K0 (K0 .nil)) (Dp 0 rfl (p_fieldAddr rfl Tryz.runUnderlying50 rfl Tryz.sizeOf3 rfl) ?_))))
  refine Dp 1 rfl (p_load (v := .int .i64 k) rfl Tryz.isAgg3 (.head _) (by rw [← hk]; rfl)) ?_
  refine Dp 3 rfl (p_fieldAddr rfl Tryz.runUnderlying50 rfl Tryz.sizeOf25 rfl) (Dp 4 rfl (p_load rfl Tryz.isAgg25 (.head _) rfl) (DK 2 rfl (e_call rfl (ct_KindName g0 k h1 h4) .nil) ?_))
  rintro _ _ _ - ⟨_, rfl, ⟨rfl, rfl⟩⟩
  refine ⟨_, (K0 (K0 .nil)), ?_⟩
  refine DK 5 rfl (e_call rfl (ct_ObjectHash g0 (kindT k) o.tv o.text ho (by omega) (by omega)) .nil) ?_
  rintro _ _ _ - ⟨_, rfl, ⟨hsr, rfl⟩⟩
  refine ⟨_, (K1 (K1 .nil)), ?_⟩
  refine TD_frz (K0 .nil) (fun gA hlgA hrd => ?_)
  refine DK 6 rfl (e_call rfl (ct_Hex gA _ (sha1L (objL (kindT k) o.text)) ⟨by rw [sha1L_length]; exact hsr, hrd⟩ (by rw [sha1L_length]; omega)) .nil) ?_
  rintro _ _ _ - ⟨_, rfl, ⟨rfl, rfl⟩⟩
  refine ⟨_, (K0 (K0 .nil)), ?_⟩
  refine Dp 7 rfl (p_assign rfl) (DD (E_seq (T_ret (E_ret1 [] rfl hlgA rfl (K1 .nil) (fun g' hl => ?_)))))
  exact ⟨_, rfl, rfl⟩
theorem ct_deltaSame (g : GW) (v u : Value) (a b : List UInt8) (hv : Bytes g v a) (hu : Bytes g u b) : Ct Tryz.prog g 37 [v, u] [] (fun r g' H' => r = .bool (decide (a = b)) ∧ H' = []) := by
  refine CI Tryz.func37 Tryz.ntmps37 rfl fun F g0 hg0 => ?_
  replace hv := hv.mono hg0
  replace hu := hu.mono hg0
  refine SR (La rfl (nSR (Lm rfl (Lp (p_bytesStrB hv rfl Tryz.runUnderlying25 Tryz.runUnderlying9 Tryz.runUnderlying5) (Lm rfl (Lp (p_bytesStrB hu rfl Tryz.runUnderlying25 Tryz.runUnderlying9 Tryz.runUnderlying5) (Lp (p_str_eql rfl rfl) (La rfl (nr (E_ret1 [] rfl (.refl _) rfl (K0 .nil) (fun g' hl => ?_)))))))))))
  exact ⟨rfl, rfl⟩
theorem obs_all {l : List XV} : ∀ (k : Nat) {acc : List Sg}, k ≤ l.length → obs (l.take k) = some acc → ∀ p ∈ acc, 1 ≤ p.1 ∧ p.1 ≤ 4 ∧ p.2 ≤ 1000000
  | 0, acc, _, h => by simp [obs] at h; subst h; simp
  | k + 1, acc, hk, h => by
    obtain ⟨d, hd⟩ := get_some (l := l) (k := k) (by omega)
    cases h1 : obs (l.take k) with
    | none =>
      have : obs (l.take (k + 1)) = none := by
        rw [take_snoc hd, obs, List.foldlM_append]
        show (obs (l.take k)).bind _ = _
        rw [h1]; rfl
      rw [this] at h; cases h
    | some a =>
      have h2 := obs_snoc hd h1
      rw [h] at h2
      have ih := obs_all k (by omega) h1
      unfold stepO at h2
      split at h2
      · split at h2
        · cases h2
          intro p hp
          rcases List.mem_append.1 hp with hp | hp
          · exact ih p hp
          · obtain rfl := List.mem_singleton.1 hp; simp only []; omega
        · cases h2
      · split at h2
        · rename_i hh
          cases h2
          intro p hp
          rcases List.mem_append.1 hp with hp | hp
          · exact ih p hp
          · obtain rfl := List.mem_singleton.1 hp
            have hs := Classical.choose_spec hh.2
            have := ih _ (List.mem_of_getElem? hs.2.1)
            exact ⟨this.1, this.2.1, hs.2.2.2.2⟩
        · cases h2
theorem sg_kind {l : List XV} {os : List OV} (h : obs l = some (os.map sg)) : ∀ o ∈ os, ∃ k : Nat, o.kind = (k : Int) ∧ 1 ≤ k ∧ k ≤ 4 := by
  intro o ho
  have h' : obs (l.take l.length) = some (os.map sg) := by rw [List.take_length]; exact h
  have := obs_all l.length (Nat.le_refl _) h' (sg o) (List.mem_map.2 ⟨o, ho, rfl⟩)
  exact ⟨o.kind.toNat, by simp only [sg] at this; omega, by simp only [sg] at this; omega, by simp only [sg] at this; omega⟩
def MapO (g : GW) (ms : List (List UInt8 × Value)) : Prop := ∀ x ∈ ms, ∃ o : OV, x.2 = .agg (oC o).toArray ∧ Bytes g o.tv o.text
theorem MapO.mono {g g' : GW} {ms : List (List UInt8 × Value)} (h : MapO g ms) (hl : Le g g') : MapO g' ms := fun x hx => let ⟨o, h1, h2⟩ := h x hx; ⟨o, h1, h2.mono hl⟩
theorem MapO.get {g : GW} {ms : List (List UInt8 × Value)} (h : MapO g ms) (s : List UInt8) (z : Value) (hz : z = .agg (oC ⟨0, [], none, 0, 0⟩).toArray) : ∃ o : OV, (lookA s ms).getD z = .agg (oC o).toArray ∧ Bytes g o.tv o.text := by
  cases e : lookA s ms with
  | none => exact ⟨⟨0, [], none, 0, 0⟩, hz, Bytes.nil _ _⟩
  | some v => exact h _ (lookA_mem e)
theorem ct_packApart (g : GW) (v : Value) (os : List OV) (hv : Lst g v oC os) (ht : OTexts g os) (hk : ∀ o ∈ os, ∃ k : Nat, o.kind = (k : Int) ∧ 1 ≤ k ∧ k ≤ 4) (hl : os.length ≤ 1000000) :
    Ct Tryz.prog g 12 [v] [] (fun r g' H' => ∃ b, r = .bool b ∧ H' = []) := by
  refine CI Tryz.func12 Tryz.ntmps12 rfl fun F g0 hg0 => ?_
  replace hv := hv.mono hg0
  replace ht := ht.mono hg0
  refine SR (La rfl (nSR (Lk (e_makeMap str) ?_)))
  rintro _ _ _ - ⟨mp, rfl, rfl⟩
  refine La rfl (nS (T_seq (SR (Lm rfl (Lp (p_len (hv.1) rfl rfl Tryz.runUnderlying41) (Lm rfl (nS (T_block (T_loop (ι := Nat × List (List UInt8 × Value)) (fun x g' => x.1 ≤ os.length ∧ MapO g' x.2) (fun x => [(3, .map (some mp)), (10, v), (11, .int .i64 os.length), (12, .int .i64 x.1)]) (fun x => [blk mp (mapO str x.2), F]) (fun x => os.length - x.1) ((0, [])) (fun g' hl => ⟨Nat.zero_le _, by simp [MapO]⟩) (by repeat (first | exact SubL.nil | refine SubL.cons rfl ?_)) (K0 (K0 .nil)) ?_)))))))))
  rintro ⟨k, ms⟩ gA hlgA ⟨hkk, hmo⟩
  try dsimp only
  try dsimp only at hkk hmo
  replace hv := hv.mono hlgA
  replace ht := ht.mono hlgA
  refine SR (Lp (p_lss rfl rfl) (nS (T_seq (T_condD rfl (fun hc3 => ?_) (fun hc3 => ?_)))))
  ·
    have hkl : k < os.length := by omega
    obtain ⟨d, hid⟩ := get_some hkl
    have htd := ht d (List.mem_of_getElem? hid)
    obtain ⟨kd, hkd, hkd1, hkd4⟩ := hk d (List.mem_of_getElem? hid)
    refine kS (T_seq (T_block (SR (Lp (p_ix (hv.1) (j := k) rfl rfl Tryz.runUnderlying41 Tryz.sizeOf50 (by omega) (by omega) rfl) (Lp (p_ldRdN (vs := oC d) hv.2 rfl Tryz.isAgg50 Tryz.sizeOf50 rfl (by decide) (flat_all oC_len hid)) (Lk (e_alloc Tryz.zeroValue50 rfl) ?_))))))
    rintro _ _ _ - ⟨db, rfl, rfl⟩
    refine TL_k0 (e_storeW rfl rfl Tryz.sizeOf50 rfl rfl (fun u hu => oC_one _ u hu) (K0 .nil) rfl) ?_
    rintro _ _ _ - ⟨rfl, rfl⟩
    refine nSR (Lp (p_loadW rfl Tryz.isAgg50 Tryz.sizeOf50 (.head _) rfl) (Lk (e_call rfl (ct_Name gA d kd hkd hkd1 hkd4 htd.1 htd.2) .nil) ?_))
    rintro _ _ _ - ⟨_, rfl, ⟨nm, rfl, rfl⟩⟩
    refine La rfl (nS (T_seq (SR ?_)))
    obtain ⟨ob, hob, hot⟩ := hmo.get nm _ rfl
    refine Lm rfl (Lm rfl (Lp (p_lookupOkE ((keyStrS Tryz.underlying9).toKeyT) (hob) (rfl) rfl rfl Tryz.runUnderlying98 Tryz.zeroValue50 (.tail _ (.head _))) (Lm rfl (Lx rfl rfl (Lx rfl rfl (Lk (e_alloc Tryz.zeroValue50 rfl) ?_))))))
    rintro _ _ _ - ⟨qb, rfl, rfl⟩
    refine TL_k0 (e_storeW rfl rfl Tryz.sizeOf50 rfl rfl (fun u hu => oC_one _ u hu) (K0 .nil) rfl) ?_
    rintro _ _ _ - ⟨rfl, rfl⟩
    refine La rfl (nSR (Lm rfl (Lm rfl (TL_split 25 rfl (fun hg9 => ?_) (fun hg9 => ?_)))))
    ·
      refine Lg (p_fieldAddr rfl Tryz.runUnderlying50 rfl Tryz.sizeOf3 rfl) (Lg (p_load rfl Tryz.isAgg3 (.head _) rfl) (Lg (p_fieldAddr rfl Tryz.runUnderlying50 rfl Tryz.sizeOf3 rfl) (Lg (p_load rfl Tryz.isAgg3 (.tail _ (.head _)) rfl) (Lg (p_neq rfl rfl) (Lg (p_move rfl) (TL_splitD 31 rfl (fun hg10 => ?_) (fun hg10 => ?_)))))))
      ·
        refine Ls (Ls (Ls (Ls (Ls (Ls (Lg (p_pickT rfl rfl) (Lp (p_pickT rfl rfl) (nS (T_condT rfl ?_)))))))))
        refine SR (La rfl (nr (E_seq_ret (E_block_ret (E_seq_ret (E_loop_ret (E_block_ret (E_seq_ret (E_ret1 [] rfl hlgA rfl (K3 .nil) (fun g' hl => ?_))))))))))
        exact ⟨_, rfl, rfl⟩
      ·
        refine Lg (p_fieldAddr rfl Tryz.runUnderlying50 rfl Tryz.sizeOf25 rfl) (Lg (p_load rfl Tryz.isAgg25 (.head _) rfl) (Lg (p_fieldAddr rfl Tryz.runUnderlying50 rfl Tryz.sizeOf25 rfl) (Lg (p_load rfl Tryz.isAgg25 (.tail _ (.head _)) rfl) (TL_kg rfl rfl rfl rfl (e_call rfl (ct_deltaSame gA ob.tv d.tv ob.text d.text hot htd.1) .nil) ?_))))
        rintro _ _ _ - ⟨_, rfl, ⟨rfl, rfl⟩⟩
        refine Lg (p_not rfl) (Lg (p_pickF rfl rfl) (Lp (p_pickT rfl rfl) (nS (T_condN rfl (fun hc12 => ?_) (fun hc12 => ?_)))))
        ·
          refine SR (La rfl (nr (E_seq_ret (E_block_ret (E_seq_ret (E_loop_ret (E_block_ret (E_seq_ret (E_ret1 [] rfl hlgA rfl (K3 .nil) (fun g' hl => ?_))))))))))
          exact ⟨_, rfl, rfl⟩
        ·
          refine kS (T_region (Lm rfl (Lm rfl (Lp (p_loadW rfl Tryz.isAgg50 Tryz.sizeOf50 (.tail _ (.head _)) rfl) (TL_k0 (e_mapSet (keyStrS Tryz.underlying9) rfl rfl rfl Tryz.runUnderlying98 (K2 .nil)) ?_)))))
          rintro _ _ _ - ⟨rfl, rfl⟩
          refine TL_nil (E_block (E_seq (T_region (Lp (p_add rfl rfl (wr64 (by omega) (by omega))) (Lm rfl (TL_nil (EL (.refl _) ((k + 1, _)) ?hm ?hI ((K0 (K2 .nil))))))))))
          case hm => exact (by omega)
          case hI => exact (fun g' hl => ⟨by dsimp only; omega, fun x hx => putA_all (p := fun v => ∃ o : OV, v = .agg (oC o).toArray ∧ Bytes _ o.tv o.text) ⟨d, rfl, htd.1.mono hl⟩ (fun x hx => (hmo.mono hl) x hx) x hx⟩)
    ·
      refine Ls (Ls (Ls (Ls (Ls (Ls (TL_skipU rfl rfl rfl rfl (TL_skipU rfl rfl rfl rfl (TL_skipU rfl rfl rfl rfl (TL_skipU rfl rfl rfl rfl ?_)))))))))
      refine TL_skipU rfl rfl rfl rfl (TL_skipU rfl rfl rfl rfl (Ls (Lp (p_pickF rfl rfl) (nS (T_condF rfl (kS (T_region (Lm rfl (Lm rfl ?_)))))))))
      refine Lp (p_loadW rfl Tryz.isAgg50 Tryz.sizeOf50 (.tail _ (.head _)) rfl) (TL_k0 (e_mapSet (keyStrS Tryz.underlying9) rfl rfl rfl Tryz.runUnderlying98 (K2 .nil)) ?_)
      rintro _ _ _ - ⟨rfl, rfl⟩
      refine TL_nil (E_block (E_seq (T_region (Lp (p_add rfl rfl (wr64 (by omega) (by omega))) (Lm rfl (TL_nil (EL (.refl _) ((k + 1, _)) ?hm ?hI ((K0 (K2 .nil))))))))))
      case hm => exact (by omega)
      case hI => exact (fun g' hl => ⟨by dsimp only; omega, fun x hx => putA_all (p := fun v => ∃ o : OV, v = .agg (oC o).toArray ∧ Bytes _ o.tv o.text) ⟨d, rfl, htd.1.mono hl⟩ (fun x hx => (hmo.mono hl) x hx) x hx⟩)
  ·
    obtain rfl : k = os.length := by omega
    refine T_exit (E_seq_exit (E_loop_exit (E_block_hit (E_seq (SR (La rfl (nr (E_ret1 [] rfl hlgA rfl (K1 .nil) (fun g' hl => ?_)))))))))
    exact ⟨_, rfl, rfl⟩
end Go.Proofs.YtolddodhmeaceaaGreatDoor
namespace Go.Proofs.YtolddodhmeaceaaGreatDoor
open Go.Hl Go.Pk
theorem ct_Objects2 (g : GW) (v : Value) (l : List XV) (hv : Ents g v l) (hl : fitX l) (hc : l.length ≤ 2147483647) :
    Ct Tryz.prog g 11 [v] [] (fun r g' H' => ∃ ov os b, r = .tuple #[ov, .bool b] ∧ (b = true → obs l = some (os.map sg)) ∧ (b = false → obs l = none) ∧ Shp ov os.length ∧ OTexts g' os ∧ H' = [own ov 2 50 (os.flatMap oC)]) := by
  refine (ct_Objects g v l hv hl hc).conv fun r g' H' F hle hR hs => ?_
  rcases hR with ⟨ov, os, rfl, h1, h2, h3, rfl⟩ | ⟨rfl, h1, rfl⟩
  · exact ⟨_, ⟨ov, os, true, rfl, fun _ => h1, (fun h => by cases h), h2, h3, rfl⟩, hs⟩
  · exact ⟨_, ⟨_, [], false, rfl, (fun h => by cases h), fun _ => h1, Shp.nil, by simp [OTexts], rfl⟩, own_nil 2 50 hs⟩
theorem obs_length {l : List XV} {os : List OV} (h : obs l = some (os.map sg)) : os.length = l.length := by
  have h' : obs (l.take l.length) = some (os.map sg) := by rw [List.take_length]; exact h
  have := obs_len l.length (Nat.le_refl _) h'
  rwa [List.length_map] at this
theorem ct_packGood (g : GW) (v : Value) (l : List XV) (hv : Ents g v l) (hl : fitX l) (hc : l.length ≤ 2147483647) :
    Ct Tryz.prog g 5 [v] [] (fun r g' H' => ∃ b, r = .bool b ∧ (b = true → (∃ acc, obs l = some acc) ∧ l.length ≤ 40) ∧ H' = []) := by
  refine CI Tryz.func5 Tryz.ntmps5 rfl fun F g0 hg0 => ?_
  replace hv := hv.mono hg0
  refine SR (La rfl (nSR (Lm rfl (LE (e_call rfl (ct_Objects2 g0 v l hv hl hc) .nil) ?_))))
  rintro _ gO _ hlgO ⟨_, rfl, ⟨ov, os, b, rfl, hb1, hb2, hso, hto, rfl⟩⟩
  refine Lm rfl (Lx rfl rfl (Lx rfl rfl (La rfl (La rfl (nSR (TL_freeze (K0 .nil) (fun gF hlgF hrd => ?_)))))))
  refine Lm rfl (Lm rfl (TL_split 11 rfl (fun hg2 => ?_) (fun hg2 => ?_)))
  ·
    refine Lg (p_move rfl) (Lg (p_len (hv.1.1) rfl rfl Tryz.runUnderlying22) (Lg (p_leq rfl rfl) (Lp (p_pickT rfl rfl) (Lm rfl (TL_splitD 16 rfl (fun hg3 => ?_) (fun hg3 => ?_))))))
    ·
      refine Lg (p_move rfl) ?_
      refine TL_kg rfl rfl rfl rfl (e_call rfl (ct_packApart gF ov os ⟨hso, hrd⟩ (hto.mono hlgF) (sg_kind (hb1 (by assumption))) (by have := obs_length (hb1 (by assumption)); omega)) .nil) ?_
      rintro _ _ _ - ⟨_, rfl, ⟨pa, rfl, rfl⟩⟩
      refine Lp (p_pickT rfl rfl) (La rfl (nr (E_ret1 [] rfl (hlgO.trans hlgF) rfl (K0 .nil) (fun g' hl => ?_))))
      refine ⟨_, rfl, ?_, rfl⟩
      exact fun _ => ⟨⟨_, hb1 (by assumption)⟩, by omega⟩
    ·
      refine Ls (Ls (Lp (p_pickF rfl rfl) (La rfl (nr (E_ret1 [] rfl (hlgO.trans hlgF) rfl (K0 .nil) (fun g' hl => ?_))))))
      refine ⟨_, rfl, ?_, rfl⟩
      (intro h; cases h)
  ·
    refine Ls (Ls (Ls (Lp (p_pickF rfl rfl) (Lm rfl (Ls (Ls (Lp (p_pickF rfl rfl) (La rfl (nr (E_ret1 [] rfl (hlgO.trans hlgF) rfl (K0 .nil) (fun g' hl => ?_)))))))))))
    refine ⟨_, rfl, ?_, rfl⟩
    (intro h; cases h)
theorem stepO_prefix {acc acc' : List Sg} {x : XV} (h : stepO acc x = some acc') : ∃ p, acc' = acc ++ [p] := by
  unfold stepO at h
  split at h
  · split at h
    · cases h; exact ⟨_, rfl⟩
    · cases h
  · split at h
    · cases h; exact ⟨_, rfl⟩
    · cases h
theorem fold_prefix : ∀ (t : List XV) {acc acc' : List Sg}, t.foldlM stepO acc = some acc' → ∃ s, acc' = acc ++ s
  | [], acc, acc', h => by simp [List.foldlM] at h; exact ⟨[], by simp [h]⟩
  | x :: t, acc, acc', h => by
    rw [List.foldlM_cons] at h
    cases e : stepO acc x with
    | none => rw [e] at h; cases h
    | some a =>
      rw [e] at h
      obtain ⟨p, rfl⟩ := stepO_prefix e
      obtain ⟨s, rfl⟩ := fold_prefix t h
      exact ⟨p :: s, by simp⟩
theorem obs_take {l : List XV} {acc : List Sg} (h : obs l = some acc) {k : Nat} (hk : k ≤ l.length) : obs (l.take k) = some (acc.take k) := by
  have h2 : l = l.take k ++ l.drop k := (List.take_append_drop _ _).symm
  have h3 : obs l = (obs (l.take k)).bind fun a => (l.drop k).foldlM stepO a := by
    conv => lhs; rw [h2, obs, List.foldlM_append]
    rfl
  rw [h3] at h
  cases e : obs (l.take k) with
  | none => rw [e] at h; cases h
  | some a =>
    rw [e] at h
    obtain ⟨s, rfl⟩ := fold_prefix _ h
    have := obs_len k hk e
    rw [List.take_left' this]
theorem obs_at {l : List XV} {acc : List Sg} (h : obs l = some acc) {k : Nat} {d : XV} (hd : l[k]? = some d) :
    (1 ≤ d.kind ∧ d.kind ≤ 4 ∧ d.text.length ≤ 1000000) ∨ ((d.kind = 6 ∨ d.kind = 7) ∧ 0 ≤ d.base ∧ d.base.toNat < k ∧ ∃ p, acc[d.base.toNat]? = some p ∧ GSteps d.steps p.2) := by
  have hk := lt_of_get hd
  have h1 := obs_take h (k := k) (by omega)
  have h2 := obs_take h (k := k + 1) (by omega)
  rw [obs_snoc hd h1] at h2
  have hl := obs_len k (by omega) h1
  unfold stepO at h2
  split at h2
  · rename_i hk1
    split at h2
    · exact .inl ⟨hk1.1, hk1.2, by assumption⟩
    · cases h2
  · split at h2
    · rename_i hh
      obtain ⟨p, hp⟩ := hh.2
      have hlt := lt_of_get hp.2.1
      refine .inr ⟨hh.1, hp.1, by omega, p, ?_, hp.2.2.2.1⟩
      have := hp.2.1
      rw [List.getElem?_take] at this
      split at this
      · exact this
      · cases this
    · cases h2
/-- Where an entry stands. -/
structure PV where
  off : Nat
  ta : Option Addr
  tn : Nat
  tc : Nat
  crc : Int
abbrev PV.tv (x : PV) : Value := .slice x.ta x.tn x.tc
def plC (p : PV) : List Value := [.int .i64 p.off, p.tv, .int .u32 p.crc]
theorem plC_len (x : PV) : (plC x).length = 3 := rfl
theorem plC_one (x : PV) : ∀ u ∈ plC x, u.oneCell' = true := by simp [plC, Value.oneCell']
theorem plC_snoc (l : List PV) (e : PV) : l.flatMap plC ++ flatC [.agg (plC e).toArray] = (l ++ [e]).flatMap plC := by simp [flatC, Value.cells]
def outL (n : Nat) (es : List En) : List UInt8 := head12 n ++ es.flatMap En.bytes
theorem En.bytes_len {e : En} (h : e.Ok) (h1 : e.text.length ≤ 1000000) : e.bytes.length ≤ 6001000 := by
  have hp : (128 : Nat) ^ 7 = 562949953421312 := by decide
  have h2 := entryHead_len e.kind e.text.length (by omega)
  have h3 := stored_len e.text
  have h4 : e.mid.length ≤ 20 := by
    rcases h.kind with h | h | h
    · rw [h.2.2]; decide
    · omega
    · omega
  simp only [En.bytes, List.length_append]; omega
theorem outL_len {n : Nat} {es : List En} (h : ∀ e ∈ es, e.Ok ∧ e.text.length ≤ 1000000) : (outL n es).length ≤ 12 + es.length * 6001000 := by
  have := flat_le (f := En.bytes) (B := 6001000) es (fun e he => En.bytes_len (h e he).1 (h e he).2)
  simp only [outL, head12, put32N, List.length_append, List.length_cons, List.length_nil]
  omega
theorem head_eq (n : Nat) : flatC [.int .u8 80, .int .u8 65, .int .u8 67, .int .u8 75] ++ put32 2 ++ put32 (n : Int) = bvs (head12 n) := by
  have h := put32_eq 2
  rw [put32_eq n, show put32 2 = put32 ((2 : Nat) : Int) from rfl, h, head12, bvs_append]
  rfl
theorem off_snoc {n : Nat} {es : List En} {e : En} {m : List UInt8} {ps : List PV} {ta tn tc s} (hm : m = outL n es) (ho : ∀ p ∈ ps, p.off ≤ m.length) {p : PV} (hp : p ∈ ps ++ [⟨m.length, ta, tn, tc, s⟩]) : p.off ≤ (outL n (es ++ [e])).length := by
  have ho2 : (outL n (es ++ [e])).length = m.length + e.bytes.length := by rw [hm]; simp [outL]; omega
  rw [ho2]
  rcases List.mem_append.1 hp with hp | hp
  · have := ho p hp; omega
  · obtain rfl := List.mem_singleton.1 hp; simp only []; omega
structure MidOk (k : Nat) (m : List UInt8) : Prop where
  h : (1 ≤ k ∧ k ≤ 4 ∧ m = []) ∨ (k = 6 ∧ BackOk m ∧ m.length ≤ 10) ∨ (k = 7 ∧ m.length = 20)
theorem MidOk.len {k : Nat} {m : List UInt8} (h : MidOk k m) : m.length ≤ 20 := by
  rcases h.h with h | h | h
  · rw [h.2.2]; decide
  · omega
  · omega
theorem ct_Pack (g : GW) (v : Value) (l : List XV) (acc : List Sg) (hv : Ents g v l) (hl : fitX l) (hob : obs l = some acc) (h40 : l.length ≤ 40) :
    Ct Tryz.prog g 7 [v] [] (fun r g' H' => ∃ pv pl es tail, r = .tuple #[pv, pl] ∧ es.length = l.length ∧ (∀ e ∈ es, e.Ok) ∧ tail.length = 20 ∧ (bodyL es).length ≤ 300000000 ∧ Shp pv (bodyL es ++ tail).length ∧ H' = [own pv 1 5 (bvs (bodyL es ++ tail))]) := by
  have hp9 : (128 : Nat) ^ 9 = 9223372036854775808 := by decide
  have hp7 : (128 : Nat) ^ 7 = 562949953421312 := by decide
  refine CI Tryz.func7 Tryz.ntmps7 rfl fun F g0 hg0 => ?_
  replace hv := hv.mono hg0
  refine SR (La rfl (La rfl (nSR (Lm rfl (LE (e_call rfl (ct_Objects2 g0 v l hv hl (by omega)) .nil) ?_)))))
  rintro _ gO _ hlgO ⟨_, rfl, ⟨ov, os, b, rfl, hb1, hb2, hso, hto, rfl⟩⟩
  refine Lm rfl (Lx rfl rfl (Lx rfl rfl (La rfl (La rfl (nSR ?_)))))
  obtain rfl : b = true := by cases b with | true => rfl | false => rw [hb2 rfl] at hob; cases hob
  have hob2 := hb1 rfl
  rw [hob] at hob2
  obtain rfl := Option.some.inj hob2
  have hol := obs_length hob
  refine TL_freeze (K0 .nil) (fun gF hlgF hrd => ?_)
  have hos : Lst gF ov oC os := ⟨hso, hrd⟩
  replace hto := hto.mono hlgF
  replace hv := hv.mono (hlgO.trans hlgF)
  refine Lk (e_buildSliceB rfl rfl rfl Tryz.runUnderlying25 Tryz.sizeOf5 Tryz.zeroValue5 rfl (by simp [Value.cells])) ?_
  rintro _ _ _ - ⟨o, rfl, rfl⟩
  refine Lk (e_mark rfl Tryz.runUnderlying25 Tryz.runUnderlying5 (K0 .nil) rfl) ?_
  rintro _ _ _ - ⟨rfl, rfl⟩
  refine Lk (e_call rfl (ct_Put32 gF 2) .nil) ?_
  rintro _ _ _ - ⟨_, rfl, ⟨pb2, rfl, rfl⟩⟩
  refine Lk (e_append (by_ := 1) rfl rfl rfl rfl Tryz.runUnderlying25 Tryz.runUnderlying25 (.inr ⟨_, rfl⟩) Tryz.sizeOf5 Tryz.zeroValue5 rfl Tryz.typeInfo5 rfl (by decide) (by decide) (src_ownS rfl (.head _)) (by simp [flatC, Value.cells, put32]) (K1 .nil) (by simp [put32, Value.oneCell'])) ?_
  rintro v5 _ _ - ⟨n_v5, hs_v5, hn_v5, rfl⟩
  refine La rfl (nSR (Lm rfl (Lm rfl (Lp (p_len (hv.1.1) rfl rfl Tryz.runUnderlying22) (Lp (p_conv rfl Tryz.runUnderlying3 Tryz.runUnderlying29 (wrU32 (by omega) (by omega))) (Lk (e_call rfl (ct_Put32 gF (l.length : Nat)) .nil) ?_))))))
  rintro _ _ _ - ⟨_, rfl, ⟨pb3, rfl, rfl⟩⟩
  refine Lk (e_append (by_ := 1) rfl rfl rfl rfl Tryz.runUnderlying25 Tryz.runUnderlying25 (.inr ⟨_, rfl⟩) Tryz.sizeOf5 Tryz.zeroValue5 rfl Tryz.typeInfo5 rfl (by decide) (by decide) (src_ownS rfl (.head _)) (by simp [flatC, Value.cells, put32]) (K1 .nil) (by simp [put32, Value.oneCell'])) ?_
  rintro v7 _ _ - ⟨n_v7, hs_v7, hn_v7, rfl⟩
  refine La rfl (nSR (TL_nilS 3 52 (La rfl (nS (T_seq (SR (Lm rfl (Lp (p_len (hv.1.1) rfl rfl Tryz.runUnderlying22) (Lm rfl ?_)))))))))
  refine nS (T_block ?_)
  rw [head_eq, show head12 l.length = outL l.length [] from by simp [outL]]
  refine T_loop (ι := Nat × Value × List En × Value × List PV) (fun x g' => x.1 ≤ l.length ∧ x.2.2.1.length = x.1 ∧ x.2.2.2.2.length = x.1 ∧ (∀ e ∈ x.2.2.1, e.Ok ∧ e.text.length ≤ 1000000) ∧ ∀ p ∈ x.2.2.2.2, p.off ≤ (outL l.length x.2.2.1).length) (fun x => [(4, ov), (6, x.2.1), (7, x.2.2.2.1), (27, v), (28, .int .i64 l.length), (29, .int .i64 x.1)]) (fun x => [own x.2.1 1 5 (bvs (outL l.length x.2.2.1)), own x.2.2.2.1 3 52 (x.2.2.2.2.flatMap plC), F]) (fun x => l.length - x.1) ((0, _, [], _, [])) (fun g' hl => ⟨Nat.zero_le _, rfl, rfl, by simp, by simp⟩) (by repeat (first | exact SubL.nil | refine SubL.cons rfl ?_)) (K1 (K0 (K2 .nil))) ?_
  rintro ⟨k, o, es, pl, ps⟩ gA hlgA ⟨hk, hes, hps, hok, hoff⟩
  try dsimp only
  try dsimp only at hk hes hps hok hoff
  replace hv := hv.mono hlgA
  replace hos := hos.mono hlgA
  replace hto := hto.mono hlgA
  have hoL := outL_len (n := l.length) hok
  obtain ⟨m, hm⟩ : ∃ m, m = outL l.length es := ⟨_, rfl⟩
  rw [← hm] at hoff hoL ⊢
  have hoL2 : m.length ≤ 250000000 := by have h3 : es.length * 6001000 ≤ 40 * 6001000 := Nat.mul_le_mul_right _ (by omega); omega
  refine SR (Lp (p_lss rfl rfl) (nS (T_seq (T_condD rfl (fun hc9 => ?_) (fun hc9 => ?_)))))
  ·
    have hkl : k < l.length := by omega
    obtain ⟨d, hid⟩ := get_some hkl
    have hfd := hl.2 d (List.mem_of_getElem? hid)
    have hxd := hv.2 d (List.mem_of_getElem? hid)
    have hcase := obs_at hob hid
    obtain ⟨kd, hkd⟩ : ∃ kd : Nat, d.kind = (kd : Int) := ⟨d.kind.toNat, by omega⟩
    refine kS (T_seq (T_block (SR (Lp (p_ix (hv.1.1) (j := k) rfl rfl Tryz.runUnderlying22 Tryz.sizeOf39 (by omega) (by omega) rfl) (Lp (p_ldRdN (vs := xC d) hv.1.2 rfl Tryz.isAgg39 Tryz.sizeOf39 rfl (by decide) (flat_all xC_len hid)) (Lk (e_alloc Tryz.zeroValue39 rfl) ?_))))))
    rintro _ _ _ - ⟨eb, rfl, rfl⟩
    refine TL_k0 (e_storeW rfl rfl Tryz.sizeOf39 rfl rfl (fun u hu => xC_one d u hu) (K0 .nil) rfl) ?_
    rintro _ _ _ - ⟨rfl, rfl⟩
    refine nSR (Lf rfl Tryz.runUnderlying39 rfl Tryz.sizeOf25 rfl (Lp (p_load rfl Tryz.isAgg25 (.head _) rfl) (La rfl (nS (T_cut (ι := Option Addr × Nat × Nat × List UInt8) (fun x g' => Bytes g' (.slice x.1 x.2.1 x.2.2.1) x.2.2.2 ∧ x.2.2.2.length ≤ 1000000) (fun x => [(4, ov), (6, o), (7, pl), (9, .pointer (some ⟨eb, 0, none⟩)), (10, .slice x.1 x.2.1 x.2.2.1), (27, v), (28, .int .i64 l.length), (29, .int .i64 k)]) (fun _ => [own o 1 5 (bvs m), own pl 3 52 (ps.flatMap plC), blk eb (.cells (xC d).toArray 39), F]) ?_ ?_)))))
    ·
      refine SR (Lf rfl Tryz.runUnderlying39 rfl Tryz.sizeOf3 rfl ?_)
      refine Lp (p_load (v := .int .i64 kd) rfl Tryz.isAgg3 (.head _) (by rw [← hkd]; rfl)) ?_
      refine Lp (p_gtr rfl rfl) (nS (T_condD rfl (fun hc12 => ?_) (fun hc12 => ?_)))
      ·
        refine T_regionD 10 Tryz.mixed rfl (K1 (K1 (K0 (K0 .nil)))) ?_
        obtain ⟨hk67, hb0, hbk, p, hp, hgs⟩ := hcase.resolve_left (by omega)
        obtain ⟨obj, hoj⟩ := get_some (l := os) (k := d.base.toNat) (by omega)
        have hpo : p = sg obj := by { rw [List.getElem?_map, hoj] at hp; exact (Option.some.inj hp).symm }
        subst hpo
        have hbo := hto obj (List.mem_of_getElem? hoj)
        refine Dp 0 rfl (p_move rfl) (Dp 1 rfl (p_fieldAddr rfl Tryz.runUnderlying39 rfl Tryz.sizeOf3 rfl) (Dp 2 rfl (p_load rfl Tryz.isAgg3 (.tail _ (.tail _ (.head _))) rfl) (Dp 3 rfl (p_ix (hos.1) (j := d.base.toNat) rfl rfl Tryz.runUnderlying41 Tryz.sizeOf50 (by omega) (by omega) rfl) (Dp 4 rfl (p_fa (hos.1) (by omega) rfl Tryz.runUnderlying50 rfl Tryz.sizeOf25 rfl) (Dp 5 rfl (p_ldRd hos.2 rfl Tryz.isAgg25 (flat_get oC_len _ _ obj hoj 1 (by decide))) (Dp 6 rfl (p_fieldAddr rfl Tryz.runUnderlying39 rfl Tryz.sizeOf37 rfl) (Dp 7 rfl (p_load rfl Tryz.isAgg37 (.tail _ (.tail _ (.head _))) rfl) (DK 8 rfl (e_call rfl (ct_Delta gA obj.tv d.sv obj.text d.steps hbo.1 hxd.steps hgs) .nil) ?_))))))))
        rintro _ _ _ - ⟨_, rfl, ⟨dl, hdl, hdll, rfl⟩⟩
        refine ⟨_, (K1 (K1 (K1 (K1 .nil)))), ?_⟩
        obtain ⟨ta, tn, tc, hveq⟩ := Shp.is hdl
        subst hveq
        refine TD_frz (K0 .nil) (fun gM hlgM hrdl => ?_)
        refine Dp 9 rfl (p_assign rfl) (DD (EC hlgM ((ta, tn, tc, dl)) ?hI (K0 (K0 (K0 (K0 .nil))))))
        case hI => intro g' hl; exact ⟨⟨hdl, hrdl.mono hl⟩, by dsimp only; omega⟩
      ·
        refine T_skip (EC (.refl _) ((d.ta, d.tn, d.tc, d.text)) ?hI (K1 (K1 (K0 (K0 .nil)))))
        case hI => intro g' hl; exact ⟨hxd.text.mono hl, by dsimp only; rcases hcase with h | h <;> omega⟩
    ·
      rintro ⟨ta, tn, tc, txt⟩ gC hlgC ⟨htx, htl⟩
      try dsimp only
      try dsimp only at htx htl
      replace hv := hv.mono hlgC
      replace hos := hos.mono hlgC
      replace hto := hto.mono hlgC
      replace hxd := hxd.mono hlgC
      refine SR (TL_shp (.head _) (fun mo hmo hml => ?_))
      rw [bvs_length, Nat.mul_one] at hml
      subst hml
      refine Lm rfl (Lp (p_len hmo rfl rfl Tryz.runUnderlying25) (Lm rfl (Lp (p_build (cells := (plC ⟨m.length, ta, tn, tc, 0⟩).toArray) rfl (by kernel_rfl)) (Lk (e_alloc Tryz.zeroValue52 rfl) ?_))))
      rintro _ _ _ - ⟨pb, rfl, rfl⟩
      refine TL_k0 (e_storeW rfl rfl Tryz.sizeOf52 rfl rfl (fun u hu => plC_one _ u hu) (K0 .nil) rfl) ?_
      rintro _ _ _ - ⟨rfl, rfl⟩
      refine nSR (Lm rfl (Lf rfl Tryz.runUnderlying39 rfl Tryz.sizeOf3 rfl ?_))
      refine Lp (p_load (v := .int .i64 kd) rfl Tryz.isAgg3 (.tail _ (.tail _ (.tail _ (.head _)))) (by rw [← hkd]; rfl)) ?_
      refine Lm rfl (Lp (p_len htx.1 rfl rfl Tryz.runUnderlying25) (Lk (e_call rfl (ct_EntryHead gC kd txt.length (by omega) (by omega)) .nil) ?_))
      rintro _ _ _ - ⟨_, rfl, ⟨hseh, rfl⟩⟩
      refine Lk (e_append (by_ := 1) rfl rfl rfl rfl Tryz.runUnderlying25 Tryz.runUnderlying25 (.inr ⟨_, rfl⟩) Tryz.sizeOf5 Tryz.zeroValue5 rfl Tryz.typeInfo5 rfl (by decide) (by decide) (src_own hseh (by rw [bvs_length]; omega) (.head _)) (by have := entryHead_len kd txt.length (by omega); rw [bvs_length, bvs_length]; omega) (K2 .nil) (bvs_one _)) ?_
      rintro v18 _ _ - ⟨n_v18, hs_v18, hn_v18, rfl⟩
      refine La rfl (nS (T_cut (ι := Value × List UInt8) (fun x _ => MidOk kd x.2) (fun x => [(4, ov), (6, x.1), (7, pl), (9, .pointer (some ⟨eb, 0, none⟩)), (10, .slice ta tn tc), (11, .pointer (some ⟨pb, 0, none⟩)), (27, v), (28, .int .i64 l.length), (29, .int .i64 k)]) (fun x => [own x.1 1 5 (bvs (m ++ entryHead kd txt.length ++ x.2)), own pl 3 52 (ps.flatMap plC), blk eb (.cells (xC d).toArray 39), blk pb (.cells (plC ⟨m.length, ta, tn, tc, 0⟩).toArray 52), F]) ?_ ?_))
      ·
        refine SR ?_
        have hehl := entryHead_len kd txt.length (by omega)
        rw [← bvs_append]
        refine Lf rfl Tryz.runUnderlying39 rfl Tryz.sizeOf3 rfl ?_
        refine Lp (p_load (v := .int .i64 kd) rfl Tryz.isAgg3 (.tail _ (.tail _ (.tail _ (.tail _ (.head _))))) (by rw [← hkd]; rfl)) ?_
        refine nS (T_block (SR (Lp (p_eql rfl rfl) (La rfl (nS (T_condD rfl (fun hc19 => ?_) (fun hc19 => ?_)))))))
        ·
          refine T_regionD 13 Tryz.mixed rfl (K3 (K3 (K2 (K2 .nil)))) ?_
          obtain ⟨hk67, hb0, hbk, p, hp, hgs⟩ := hcase.resolve_left (by omega)
          obtain ⟨pp, hpp⟩ := get_some (l := ps) (k := d.base.toNat) (by omega)
          have hpo := hoff pp (List.mem_of_getElem? hpp)
          refine TD_shp (.head _) (fun mp hmp hmpl => ?_)
          rw [flat_length plC_len] at hmpl
          refine Dp 0 rfl (p_move rfl) (Dp 1 rfl (p_fieldAddr rfl Tryz.runUnderlying52 rfl Tryz.sizeOf3 rfl) (Dp 2 rfl (p_load rfl Tryz.isAgg3 (.tail _ (.tail _ (.head _))) rfl) (Dp 3 rfl (p_move rfl) (Dp 4 rfl (p_fieldAddr rfl Tryz.runUnderlying39 rfl Tryz.sizeOf3 rfl) (Dp 5 rfl (p_load rfl Tryz.isAgg3 (.tail _ (.head _)) rfl) (Dp 6 rfl (p_ix (hmp) (j := d.base.toNat) rfl rfl Tryz.runUnderlying26 Tryz.sizeOf52 (by omega) (by omega) rfl) (Dp 7 rfl (p_fa (hmp) (by omega) rfl Tryz.runUnderlying52 rfl Tryz.sizeOf3 rfl) (Dp 8 rfl (p_ldOwn rfl Tryz.isAgg3 (.head _) (flat_get plC_len _ _ pp hpp 0 (by decide))) ?_))))))))
          refine Dp 9 rfl (p_sub rfl rfl ((show IntKind.i64.wrap ((m.length : Int) - (pp.off : Int)) = ((m.length - pp.off : Nat) : Int) from by rw [wr64 (by omega) (by omega)]; omega))) ?_
          refine DK 10 rfl (e_call rfl (ct_Back gC (m.length - pp.off) (by omega) (by omega)) .nil) ?_
          rintro _ _ _ - ⟨_, rfl, ⟨bk, hbk1, hbk2, hbk3, rfl⟩⟩
          refine ⟨_, (K1 (K1 (K1 (K1 .nil)))), ?_⟩
          refine DK 11 rfl (e_append (by_ := 1) rfl rfl rfl rfl Tryz.runUnderlying25 Tryz.runUnderlying25 (.inr ⟨_, rfl⟩) Tryz.sizeOf5 Tryz.zeroValue5 rfl Tryz.typeInfo5 rfl (by decide) (by decide) (src_own hbk3 (by rw [bvs_length]; omega) (.tail _ (.tail _ (.tail _ (.tail _ (.head _)))))) (by rw [bvs_length, bvs_length, List.length_append]; omega) (K5 .nil) (bvs_one _)) ?_
          rintro v21 _ _ - ⟨n_v21, hs_v21, hn_v21, rfl⟩
          refine ⟨_, (K1 (K1 (K1 (K1 .nil)))), ?_⟩
          refine Dp 12 rfl (p_assign rfl) (DD (E_block ?_))
          rw [← bvs_append]
          refine EC (.refl _) ((_, bk)) ?hI (K4 (K0 (K0 (K0 (K0 .nil)))))
          case hI => intro g' hl; exact ⟨.inr (.inl ⟨by omega, hbk1, by dsimp only; omega⟩)⟩
        ·
          refine SR (Lp (p_eql rfl rfl) (La rfl (nS (T_condD rfl (fun hc22 => ?_) (fun hc22 => ?_)))))
          ·
            refine T_regionD 17 Tryz.mixed rfl (K3 (K3 (K2 (K2 .nil)))) ?_
            obtain ⟨hk67, hb0, hbk, p, hp, hgs⟩ := hcase.resolve_left (by omega)
            obtain ⟨obj, hoj⟩ := get_some (l := os) (k := d.base.toNat) (by omega)
            have hbo := hto obj (List.mem_of_getElem? hoj)
            obtain ⟨ko, hko, hko1, hko4⟩ := sg_kind hob obj (List.mem_of_getElem? hoj)
            have hbo2 := hbo.2
            have hktl := kindT_length ko
            refine Dp 0 rfl (p_move rfl) (Dp 1 rfl (p_move rfl) (Dp 2 rfl (p_fieldAddr rfl Tryz.runUnderlying39 rfl Tryz.sizeOf3 rfl) (Dp 3 rfl (p_load rfl Tryz.isAgg3 (.tail _ (.head _)) rfl) (Dp 4 rfl (p_ix (hos.1) (j := d.base.toNat) rfl rfl Tryz.runUnderlying41 Tryz.sizeOf50 (by omega) (by omega) rfl) (Dp 5 rfl (p_fa (hos.1) (by omega) rfl Tryz.runUnderlying50 rfl Tryz.sizeOf3 rfl) ?_)))))
            refine Dp 6 rfl (p_ldRd (u := .int .i64 ko) hos.2 rfl Tryz.isAgg3 (show (os.flatMap oC)[d.base.toNat * 2 + 0]? = _ from by rw [flat_get oC_len _ _ obj hoj 0 (by decide), ← hko]; rfl)) ?_
            refine Dp 8 rfl (p_move rfl) (Dp 9 rfl (p_fieldAddr rfl Tryz.runUnderlying39 rfl Tryz.sizeOf3 rfl) (Dp 10 rfl (p_load rfl Tryz.isAgg3 (.tail _ (.head _)) rfl) (Dp 11 rfl (p_ix (hos.1) (j := d.base.toNat) rfl rfl Tryz.runUnderlying41 Tryz.sizeOf50 (by omega) (by omega) rfl) (Dp 12 rfl (p_fa (hos.1) (by omega) rfl Tryz.runUnderlying50 rfl Tryz.sizeOf25 rfl) (Dp 13 rfl (p_ldRd hos.2 rfl Tryz.isAgg25 (flat_get oC_len _ _ obj hoj 1 (by decide))) (DK 7 rfl (e_call rfl (ct_KindName gC ko hko1 hko4) .nil) ?_))))))
            rintro _ _ _ - ⟨_, rfl, ⟨rfl, rfl⟩⟩
            refine ⟨_, (K0 (K0 (K0 (K0 .nil)))), ?_⟩
            refine DK 14 rfl (e_call rfl (ct_ObjectHash gC (kindT ko) obj.tv obj.text hbo.1 (by omega) (by omega)) .nil) ?_
            rintro _ _ _ - ⟨_, rfl, ⟨hsr, rfl⟩⟩
            refine ⟨_, (K1 (K1 (K1 (K1 .nil)))), ?_⟩
            refine DK 15 rfl (e_append (by_ := 1) rfl rfl rfl rfl Tryz.runUnderlying25 Tryz.runUnderlying25 (.inr ⟨_, rfl⟩) Tryz.sizeOf5 Tryz.zeroValue5 rfl Tryz.typeInfo5 rfl (by decide) (by decide) (src_own hsr (by rw [bvs_length, sha1L_length]) (.tail _ (.tail _ (.tail _ (.tail _ (.head _)))))) (by rw [bvs_length, bvs_length, sha1L_length, List.length_append]; omega) (K5 .nil) (bvs_one _)) ?_
            rintro v25 _ _ - ⟨n_v25, hs_v25, hn_v25, rfl⟩
            refine ⟨_, (K1 (K1 (K1 (K1 .nil)))), ?_⟩
            refine Dp 16 rfl (p_assign rfl) (DD (E_block ?_))
            rw [← bvs_append]
            refine EC (.refl _) ((_, sha1L (objL (kindT ko) obj.text))) ?hI (K4 (K0 (K0 (K0 (K0 .nil)))))
            case hI => intro g' hl; exact ⟨.inr (.inr ⟨by omega, sha1L_length _⟩)⟩
          ·
            refine T_skip (E_block ?_)
            rw [show bvs (m ++ entryHead kd txt.length) = bvs (m ++ entryHead kd txt.length ++ []) from by rw [List.append_nil]]
            refine EC (.refl _) ((_, [])) ?hI (K0 (K2 (K2 (K1 (K1 .nil)))))
            case hI => intro g' hl; exact ⟨.inl ⟨by omega, by omega, rfl⟩⟩
      ·
        rintro ⟨o, mid⟩ gE hlgE hmid
        try dsimp only
        try dsimp only at hmid
        replace hv := hv.mono hlgE
        replace hos := hos.mono hlgE
        replace hto := hto.mono hlgE
        replace hxd := hxd.mono hlgE
        replace htx := htx.mono hlgE
        have hmidl := hmid.len
        have hehl := entryHead_len kd txt.length (by omega)
        refine SR (Lm rfl (Lm rfl (Lk (e_call rfl (ct_Stored gE (.slice ta tn tc) txt htx (by omega)) .nil) ?_)))
        rintro _ _ _ - ⟨_, rfl, ⟨hst0, rfl⟩⟩
        refine Lk (e_append (by_ := 1) rfl rfl rfl rfl Tryz.runUnderlying25 Tryz.runUnderlying25 (.inr ⟨_, rfl⟩) Tryz.sizeOf5 Tryz.zeroValue5 rfl Tryz.typeInfo5 rfl (by decide) (by decide) (src_own hst0 (by rw [bvs_length]; omega) (.head _)) (by have := stored_len txt; rw [bvs_length, bvs_length, List.length_append, List.length_append]; omega) (K1 .nil) (bvs_one _)) ?_
        rintro w1 _ _ - ⟨n_w1, hs_w1, hn_w1, rfl⟩
        refine La rfl (nSR ?_)
        rw [← bvs_append]
        obtain ⟨c, hc⟩ : ∃ c, c = m ++ entryHead kd txt.length ++ mid ++ Pk.stored txt := ⟨_, rfl⟩
        rw [← hc]
        have hcl : m.length ≤ c.length ∧ c.length ≤ 300000000 := by { have := stored_len txt; rw [hc]; simp only [List.length_append]; omega }
        refine TL_shp (.head _) (fun mo hmo2 hml => ?_)
        rw [bvs_length, Nat.mul_one] at hml
        refine Lm rfl (Lf rfl Tryz.runUnderlying52 rfl Tryz.sizeOf3 rfl (Lp (p_load rfl Tryz.isAgg3 (.tail _ (.tail _ (.tail _ (.tail _ (.head _))))) rfl) (Lp (p_slL (a := m.length) hmo2 rfl Tryz.runUnderlying25 Tryz.sizeOf5 rfl rfl (by omega) rfl) ?_)))
        refine Lk (e_call rfl (Ct.thaw (A := own w1 1 5 (bvs c)) ⟨_, Tryz.func21, by kernel_rfl, by kernel_rfl⟩ (fun g1 hl1 hst => ct_Crc32 g1 _ 0 ((c.drop m.length).take (mo - m.length)) (Still.sub (Bf.own 5 hmo2) (by omega) hst (by omega) (Nat.le_refl _)) (by rw [List.length_take, List.length_drop]; omega))) (K0 .nil)) ?_
        rintro _ _ _ - ⟨_, rfl, ⟨_, rfl, s, rfl, rfl⟩⟩
        refine Lf rfl Tryz.runUnderlying52 rfl Tryz.sizeOf29 rfl (TL_k0 (e_store1 (cs' := (plC ⟨m.length, ta, tn, tc, s⟩).toArray) rfl rfl Tryz.sizeOf29 rfl (K4 .nil) rfl rfl rfl) ?_)
        rintro _ _ _ - ⟨rfl, rfl⟩
        refine nR (Lm rfl (Lp (p_loadW rfl Tryz.isAgg52 Tryz.sizeOf52 (.head _) rfl) (Lk (e_buildSlice rfl rfl rfl Tryz.runUnderlying26 Tryz.sizeOf52 Tryz.zeroValue52 rfl (by simp [Value.cells, plC])) ?_)))
        rintro _ _ _ - ⟨q2, rfl, rfl⟩
        refine Lk (e_append (by_ := 40) rfl rfl rfl rfl Tryz.runUnderlying26 Tryz.runUnderlying26 (.inr ⟨_, rfl⟩) Tryz.sizeOf52 Tryz.zeroValue52 rfl Tryz.typeInfo52 rfl (by decide) (by decide) (src_ownS rfl (.head _)) (by rw [flat_length plC_len]; simp [flatC, Value.cells, plC]; omega) (K4 .nil) (fun u hu => plC_one _ u (by simpa [flatC, Value.cells] using hu))) ?_
        rintro v32 _ _ - ⟨n_v32, hs_v32, hn_v32, rfl⟩
        refine La rfl (TL_nil (E_block (E_seq (T_region (Lp (p_add rfl rfl (wr64 (by omega) (by omega))) (Lm rfl (TL_nil ?_)))))))
        rw [plC_snoc]
        rw [show c = outL l.length (es ++ [⟨kd, mid, txt⟩]) from by rw [hc, hm]; simp [outL, En.bytes]]
        refine EL (hlgC.trans hlgE) ((k + 1, _, es ++ [⟨kd, mid, txt⟩], _, ps ++ [⟨m.length, ta, tn, tc, s⟩])) ?hm ?hI ((K3 (K0 (K4 .nil))))
        case hm => exact (by omega)
        case hI => exact (fun g' hl => ⟨by dsimp only; omega, by simp [hes], by simp [hps], by { intro e he; rcases List.mem_append.1 he with he | he; exact hok e he; (obtain rfl := List.mem_singleton.1 he; exact ⟨⟨by dsimp only; omega, hmid.h⟩, htl⟩) }, fun p hp => off_snoc hm hoff hp⟩)
  ·
    obtain rfl : k = l.length := by omega
    refine T_exit (E_seq_exit (E_loop_exit (E_block_hit (E_seq (SR ?_)))))
    have hm2 : m = bodyL es := by rw [hm, bodyL, outL, hes]
    refine TL_shp (.head _) (fun mo hmo hml => ?_)
    rw [bvs_length, Nat.mul_one] at hml
    subst hml
    refine Lm rfl (Lm rfl (Lk (e_call rfl (Ct.thaw (A := own o 1 5 (bvs m)) ⟨_, Tryz.func22, by kernel_rfl, by kernel_rfl⟩ (fun g1 hl1 hst => ct_Sha1 g1 o m ⟨hmo, hst.rd⟩ (by omega))) (K0 .nil)) ?_))
    rintro _ _ _ - ⟨_, rfl, ⟨_, rfl, hsr, rfl⟩⟩
    refine Lk (e_append (by_ := 1) rfl rfl rfl rfl Tryz.runUnderlying25 Tryz.runUnderlying25 (.inr ⟨_, rfl⟩) Tryz.sizeOf5 Tryz.zeroValue5 rfl Tryz.typeInfo5 rfl (by decide) (by decide) (src_own hsr (by rw [bvs_length, sha1L_length]) (.tail _ (.head _))) (by rw [bvs_length, bvs_length, sha1L_length]; omega) (K0 .nil) (bvs_one _)) ?_
    rintro v34 _ _ - ⟨n_v34, hs_v34, hn_v34, rfl⟩
    rw [← bvs_append]
    refine TL_shp (.head _) (fun mo2 hmo2 hml2 => ?_)
    rw [bvs_length, Nat.mul_one] at hml2
    subst hml2
    refine Lm rfl (La rfl (La rfl (nr (E_ret2 [_] rfl ((hlgO.trans hlgF).trans hlgA) rfl rfl (K0 (K2 .nil)) (fun g' hl => ?_)))))
    exact ⟨_, _, es, sha1L m, rfl, by omega, fun e he => (hok e he).1, sha1L_length _, by rw [← hm2]; omega, by rw [← hm2]; exact hmo2, by rw [← hm2]⟩
end Go.Proofs.YtolddodhmeaceaaGreatDoor
namespace Go.Hl
variable {P : Program}
theorem info_of {e : TypeId} {i : TypeInfo} (hi : ∀ w, (typeInfo e).run P w = .ok i w) : P.info? e = some i := by
  have h0 := hi default
  unfold typeInfo at h0
  cases e' : P.info? e with
  | some d => simp [e'] at h0; rw [h0]
  | none => simp [e'] at h0
def IfN (er : Value) : Prop := er = .nilIface ∨ ∃ t v, er = .iface t v
/-- An error of type t whose block is still. -/
def EVal (t : TypeId) (p : Nat × Nat) : Value := .iface t (.pointer (some ⟨p.1, p.2, none⟩))
def ErrN (t : TypeId) (g : GW) (er : Value) : Prop := er = .nilIface ∨ ∃ p, er = EVal t p ∧ EP g p.1
theorem ErrN.mono {t : TypeId} {g g' : GW} {er : Value} (h : ErrN t g er) (hl : Le g g') : ErrN t g' er := by
  rcases h with h | ⟨p, h1, h2⟩
  · exact .inl h
  · exact .inr ⟨p, h1, h2.mono hl⟩
theorem ErrN.ifn {t : TypeId} {g : GW} {er : Value} (h : ErrN t g er) : IfN er := by
  rcases h with h | ⟨p, h1, h2⟩
  · exact .inl h
  · exact .inr ⟨_, _, h1⟩
theorem IfN.one {er : Value} (h : IfN er) : er.oneCell' = true := by
  rcases h with rfl | ⟨t, v, rfl⟩ <;> rfl
theorem EVal_inj {t : TypeId} {p q : Nat × Nat} : EVal t p = EVal t q ↔ p = q := by
  unfold EVal
  constructor
  · intro h
    simp at h
    exact Prod.ext h.1 h.2
  · rintro rfl; rfl
noncomputable def isB (a b : Value) : Bool := @decide (a = b) (Classical.propDecidable _)
theorem isB_t {a b : Value} (h : isB a b = true) : a = b := @of_decide_eq_true _ (Classical.propDecidable _) h
theorem isB_f {a b : Value} (h : isB a b = false) : a ≠ b := @of_decide_eq_false _ (Classical.propDecidable _) h
theorem isB_self (a : Value) : isB a a = true := by simp [isB]
theorem isB_ne {a b : Value} (h : a ≠ b) : isB a b = false := by simp [isB, h]
section
open Classical
variable {d : Option Nat} {ty : TypeId} {ps : String} {af : Array Edge} {gd : Option (Nat × Bool)} {g : GW} {L : List (Nat × Value)} {H : List Atom}
theorem p_eqlE0 {t x yt ms er} (he : IfN er) (ex : ev L x = some er) (hu : P.underlying t = some (.interface ms)) : OpP P ⟨d, .binOp .eql t x (.const .nilIface) yt, ty, ps, af, gd⟩ g L H (.bool (isB er .nilIface)) := by
  rcases he with rfl | ⟨u, v, rfl⟩
  · have := p_eqlNN (P := P) (d := d) (ty := ty) (ps := ps) (af := af) (gd := gd) (g := g) (L := L) (H := H) (yt := yt) ex hu
    simpa [isB] using this
  · have := p_eqlIN (P := P) (d := d) (ty := ty) (ps := ps) (af := af) (gd := gd) (g := g) (L := L) (H := H) (yt := yt) (y := .const .nilIface) ex rfl hu
    simpa [isB] using this
theorem p_neqE0 {t x yt ms er} (he : IfN er) (ex : ev L x = some er) (hu : P.underlying t = some (.interface ms)) : OpP P ⟨d, .binOp .neq t x (.const .nilIface) yt, ty, ps, af, gd⟩ g L H (.bool (!isB er .nilIface)) := by
  rcases he with rfl | ⟨u, v, rfl⟩
  · have := p_neqNN (P := P) (d := d) (ty := ty) (ps := ps) (af := af) (gd := gd) (g := g) (L := L) (H := H) (yt := yt) ex hu
    simpa [isB] using this
  · have := p_neqIN (P := P) (d := d) (ty := ty) (ps := ps) (af := af) (gd := gd) (g := g) (L := L) (H := H) (yt := yt) (y := .const .nilIface) ex rfl hu
    simpa [isB] using this
theorem p_eqlER {t ti te x y yt ms er} {i j : TypeInfo} {q : Nat × Nat} (he : ErrN t g er) (hq : EP g q.1) (ex : ev L x = some er) (ey : ev L y = some (EVal t q))
    (hu : P.underlying ti = some (.interface ms)) (hp : P.underlying t = some (.pointer te)) (hi : P.info? t = some i) (hc : i.comparable = true) (hj : P.info? te = some j) (hz : j.size ≠ 0) :
    OpP P ⟨d, .binOp .eql ti x y yt, ty, ps, af, gd⟩ g L H (.bool (isB er (EVal t q))) := by
  rcases he with rfl | ⟨p, rfl, hp1⟩
  · have := p_eqlNI (P := P) (d := d) (ty := ty) (ps := ps) (af := af) (gd := gd) (g := g) (L := L) (H := H) (yt := yt) ex ey hu
    simpa [isB, EVal] using this
  · have := p_eqlEE (P := P) (d := d) (ty := ty) (ps := ps) (af := af) (gd := gd) (g := g) (L := L) (H := H) (yt := yt) ex ey hu hp hi hc hj hz hp1 hq
    have e : ∀ (i1 : Decidable (p = q)) (i2 : Decidable (EVal t p = EVal t q)), @decide _ i1 = @decide _ i2 := fun i1 i2 => by by_cases h : p = q <;> simp [EVal_inj, h]
    rw [e _ (Classical.propDecidable _)] at this
    unfold isB; exact this
theorem p_neqER {t ti te x y yt ms er} {i j : TypeInfo} {q : Nat × Nat} (he : ErrN t g er) (hq : EP g q.1) (ex : ev L x = some er) (ey : ev L y = some (EVal t q))
    (hu : P.underlying ti = some (.interface ms)) (hp : P.underlying t = some (.pointer te)) (hi : P.info? t = some i) (hc : i.comparable = true) (hj : P.info? te = some j) (hz : j.size ≠ 0) :
    OpP P ⟨d, .binOp .neq ti x y yt, ty, ps, af, gd⟩ g L H (.bool (!isB er (EVal t q))) := by
  rcases he with rfl | ⟨p, rfl, hp1⟩
  · have := p_neqNI (P := P) (d := d) (ty := ty) (ps := ps) (af := af) (gd := gd) (g := g) (L := L) (H := H) (yt := yt) ex ey hu
    simpa [isB, EVal] using this
  · have := p_neqEE (P := P) (d := d) (ty := ty) (ps := ps) (af := af) (gd := gd) (g := g) (L := L) (H := H) (yt := yt) ex ey hu hp hi hc hj hz hp1 hq
    have e : ∀ (i1 : Decidable (p = q)) (i2 : Decidable (EVal t p = EVal t q)), @decide _ i1 = @decide _ i2 := fun i1 i2 => by by_cases h : p = q <;> simp [EVal_inj, h]
    rw [e _ (Classical.propDecidable _)] at this
    unfold isB; exact this
end
end Go.Hl
namespace Go.Proofs.YtolddodhmeaceaaGreatDoor
open Go.Hl Go.Pk
abbrev ES : TypeId := 272
abbrev IErr : Nat := 64
theorem es_facts : ∃ i j, Tryz.prog.info? ES = some i ∧ i.comparable = true ∧ Tryz.prog.info? 274 = some j ∧ j.size ≠ 0 := by
  exact ⟨_, _, info_of Tryz.typeInfo272, by kernel_rfl, info_of Tryz.typeInfo274, Nat.one_ne_zero⟩
/-- The variables that the code reads. -/
structure Env (g : GW) (eE uE : Nat × Nat) : Prop where
  eof : Cell g 0 0 (EVal ES eE)
  ueof : Cell g 8 0 (EVal ES uE)
  peof : EP g eE.1
  pueof : EP g uE.1
  ne : eE ≠ uE
  oth : ∀ n ∈ [1, 2, 3, 4, 9, 11, 29], ∃ p, Cell g n 0 (EVal ES p) ∧ EP g p.1
theorem Env.mono {g g' : GW} {eE uE : Nat × Nat} (h : Env g eE uE) (hl : Le g g') : Env g' eE uE :=
  ⟨h.eof.mono hl, h.ueof.mono hl, h.peof.mono hl, h.pueof.mono hl, h.ne, fun n hn => let ⟨p, h1, h2⟩ := h.oth n hn; ⟨p, h1.mono hl, h2.mono hl⟩⟩
def brC (cv : Value) (i : Nat) (pr : Int) : Array Value := #[cv, .int .i64 i, .int .i64 pr]
def brV (br : Nat) : Value := .iface 61 (.pointer (some ⟨br, 0, none⟩))
def rbC (bv rd : Value) (r w : Nat) (er : Value) (lb lr : Int) : Array Value := #[bv, rd, .int .i64 r, .int .i64 w, er, .int .i64 lb, .int .i64 lr]
theorem ct_bytesNewReader (g : GW) (v : Value) (n : Nat) (hv : Shp v n) : Ct Tryz.prog g 24 [v] [] (fun r g' H' => ∃ br, r = .pointer (some ⟨br, 0, none⟩) ∧ H' = [blk br (.cells (brC v 0 (-1)) 133)]) := by
  obtain ⟨ta, tn, tc, rfl⟩ := Shp.is hv
  refine CI Tryz.func24 Tryz.ntmps24 rfl fun F g0 hg0 => ?_
  refine SR (La rfl (nSR (Lm rfl (Lp (p_build (cells := brC (.slice ta tn tc) 0 (-1)) rfl (by kernel_rfl)) (Lk (e_box rfl rfl) ?_)))))
  rintro _ _ _ - ⟨br, rfl, rfl⟩
  refine La rfl (nr (E_ret1 [_] rfl (.refl _) rfl (K0 (K0 .nil)) (fun g' hl => ?_)))
  exact ⟨br, rfl, rfl⟩
theorem ct_brRead (g : GW) (br : Nat) (cv pv : Value) (C xs : List UInt8) (i m : Nat) (pr : Int) (A : List UInt8 → Atom) (eE uE : Nat × Nat) (hE : Env g eE uE) (hcv : Bytes g cv C) (hC : C.length ≤ 1000000000) (hi : i ≤ C.length) (hB : Bf pv m A) (hx : xs.length = m) (hm : m ≤ 1000000000) :
    Ct Tryz.prog g 246 [.pointer (some ⟨br, 0, none⟩), pv] [A xs, blk br (.cells (brC cv i pr) 133)]
      (fun r g' H' => ∃ n er pr', r = .tuple #[.int .i64 (n : Nat), er] ∧ n = min (C.length - i) m ∧ (i = C.length → er = EVal ES eE) ∧ (i < C.length → er = .nilIface) ∧ H' = [A ((C.drop i).take n ++ xs.drop n), blk br (.cells (brC cv (i + n) pr') 133)]) := by
  have hdl : (C.drop i).length = C.length - i := List.length_drop
  refine CI Tryz.func246 Tryz.ntmps246 rfl fun F g0 hg0 => ?_
  replace hE := hE.mono hg0
  replace hcv := hcv.mono hg0
  refine SR (La rfl (La rfl (nS (T_seq (T_seq (T_regionD 10 Tryz.mixed rfl Part.all (Dp 0 rfl (p_move rfl) (Dp 1 rfl (p_nilCheck rfl) (Dp 2 rfl (p_fieldAddr rfl Tryz.runUnderlying133 rfl Tryz.sizeOf2 rfl) ?_)))))))))
  refine Dp 3 rfl (p_load rfl Tryz.isAgg2 (.tail _ (.head _)) rfl) (Dp 4 rfl (p_move rfl) (Dp 5 rfl (p_nilCheck rfl) (Dp 6 rfl (p_fieldAddr rfl Tryz.runUnderlying133 rfl Tryz.sizeOf25 rfl) (Dp 7 rfl (p_load rfl Tryz.isAgg25 (.tail _ (.head _)) rfl) (Dp 8 rfl (p_len (hcv.1) rfl rfl Tryz.runUnderlying25) (Dp 9 rfl (p_geq rfl rfl) (DD (E_seq (T_condD rfl (fun hc1 => ?_) (fun hc1 => ?_))))))))))
  ·
    obtain rfl : i = C.length := by omega
    refine T_seq (T_regionD 3 Tryz.mixed rfl Part.all (Dp 0 rfl (p_loadF rfl Tryz.isAgg64 hE.eof) (Dp 1 rfl (p_assign rfl) (Dp 2 rfl (p_assign rfl) (DD (E_seq (T_ret (E_seq_ret (E_ret2 [_, _] rfl (.refl _) rfl rfl (K0 (K0 (K0 .nil))) (fun g' hl => ?_))))))))))
    exact ⟨0, _, pr, rfl, by omega, fun _ => rfl, fun h => absurd h (by omega), by simp⟩
  ·
    replace hc1 : i < C.length := by omega
    refine kS (SR (Lm rfl (Ln rfl (Lf rfl Tryz.runUnderlying133 rfl Tryz.sizeOf3 rfl (TL_k0 (e_store1 rfl rfl Tryz.sizeOf3 rfl (K1 .nil) rfl rfl rfl) ?_)))))
    rintro _ _ _ - ⟨rfl, rfl⟩
    refine nS (T_seq (T_regionD 12 Tryz.mixed rfl (K0 (K1 .nil)) (Dp 0 rfl (p_move rfl) (Dp 1 rfl (p_move rfl) (Dp 2 rfl (p_nilCheck rfl) (Dp 3 rfl (p_fieldAddr rfl Tryz.runUnderlying133 rfl Tryz.sizeOf25 rfl) (Dp 4 rfl (p_load rfl Tryz.isAgg25 (.head _) rfl) (Dp 5 rfl (p_move rfl) (Dp 6 rfl (p_nilCheck rfl) ?_)))))))))
    refine Dp 7 rfl (p_fieldAddr rfl Tryz.runUnderlying133 rfl Tryz.sizeOf2 rfl) (Dp 8 rfl (p_load rfl Tryz.isAgg2 (.head _) rfl) (Dp 9 rfl (p_slL (a := i) hcv.1 rfl Tryz.runUnderlying25 Tryz.sizeOf5 rfl rfl (by omega) rfl) (DK 10 rfl (e_copyB (A := A) rfl rfl rfl Tryz.runUnderlying25 Tryz.sizeOf5 (src_bytes (hcv.slFrom (n := C.length) rfl (by omega))) (hB) hx (K2 .nil)) ?_)))
    rintro _ _ _ - ⟨rfl, rfl⟩
    refine ⟨_, (K1 (K1 .nil)), ?_⟩
    refine Dp 11 rfl (p_assign rfl) (DD (E_seq (SR ?_)))
    obtain ⟨n, hn⟩ : ∃ n, n = min (C.drop i).length m := ⟨_, rfl⟩
    rw [← hn]
    refine Lm rfl (Ln rfl (Lf rfl Tryz.runUnderlying133 rfl Tryz.sizeOf2 rfl (Lp (p_load rfl Tryz.isAgg2 (.head _) rfl) (Lm rfl ?_))))
    refine Lp (p_add rfl rfl ((show IntKind.i64.wrap ((i : Int) + (n : Int)) = ((i + n : Nat) : Int) from by rw [wr64 (by omega) (by omega)]; omega))) ?_
    refine Ln rfl (Lf rfl Tryz.runUnderlying133 rfl Tryz.sizeOf2 rfl (TL_k0 (e_store1 rfl rfl Tryz.sizeOf2 rfl (K0 .nil) rfl rfl rfl) ?_))
    rintro _ _ _ - ⟨rfl, rfl⟩
    refine nr (E_ret2 [_, _] rfl (.refl _) rfl rfl (K2 (K0 (K0 .nil))) (fun g' hl => ?_))
    exact ⟨n, _, _, rfl, by omega, fun h => absurd h (by omega), fun _ => rfl, rfl⟩
theorem ct_readErr (g : GW) (rb : Nat) (bv rd er : Value) (r w : Nat) (lb lr : Int) :
    Ct Tryz.prog g 184 [.pointer (some ⟨rb, 0, none⟩)] [blk rb (.cells (rbC bv rd r w er lb lr) 263)] (fun v g' H' => er = v ∧ H' = [blk rb (.cells (rbC bv rd r w .nilIface lb lr) 263)]) := by
  refine CI Tryz.func184 Tryz.ntmps184 rfl fun F g0 hg0 => ?_
  refine SR (La rfl (nSR (Lm rfl (Ln rfl (Lf rfl Tryz.runUnderlying263 rfl Tryz.sizeOf64 rfl (Lp (p_load rfl Tryz.isAgg64 (.head _) rfl) (La rfl (nSR (Lm rfl ?_)))))))))
  refine Ln rfl (Lf rfl Tryz.runUnderlying263 rfl Tryz.sizeOf64 rfl (TL_k0 (e_store1 rfl rfl Tryz.sizeOf64 rfl (K0 .nil) rfl rfl rfl) ?_))
  rintro _ _ _ - ⟨rfl, rfl⟩
  refine nSR (Lm rfl (La rfl (nr (E_ret1 [_] rfl (.refl _) rfl (K0 (K0 .nil)) (fun g' hl => ?_)))))
  exact ⟨rfl, rfl⟩
end Go.Proofs.YtolddodhmeaceaaGreatDoor
namespace Go.Proofs.YtolddodhmeaceaaGreatDoor
open Go.Hl Go.Pk
theorem sl_self {v : Value} {n sz : Nat} (h : Shp v n) : sl v 0 n sz = v := by
  rcases h with ⟨p0, cap, rfl, rfl, rfl | rfl⟩ | ⟨b, o, cap, hc, rfl⟩
  · simp [sl]
  · simp [sl]
  · rw [sl_some]; simp
theorem er_eof {i n : Nat} {er : Value} {e : Nat × Nat} (hi : i ≤ n) (h1 : i = n → er = EVal ES e) (h2 : i < n → er = .nilIface) : (er = .nilIface → i < n) ∧ (er ≠ .nilIface → i = n) ∧ IfN er := by
  rcases Nat.lt_or_eq_of_le hi with h | h
  · exact ⟨fun _ => h, fun h' => absurd (h2 h) h', .inl (h2 h)⟩
  · exact ⟨fun h' => (by rw [h1 h] at h'; cases h'), fun _ => h, .inr ⟨_, _, h1 h⟩⟩
structure RBuf where
  i : Nat
  pr : Int
  bl : List UInt8
  r : Nat
  w : Nat
  lb : Int
  lr : Int
structure RBOk (C : List UInt8) (x : RBuf) (pos : Nat) : Prop where
  len : x.bl.length = 4096
  rw : x.r ≤ x.w
  w4 : x.w ≤ 4096
  i : x.i = pos + (x.w - x.r)
  ic : x.i ≤ C.length
  dat : (x.bl.drop x.r).take (x.w - x.r) = (C.drop pos).take (x.w - x.r)
def rbA (br rb : Nat) (cv bv : Value) (x : RBuf) (er : Value) : List Atom := [blk br (.cells (brC cv x.i x.pr) 133), blk rb (.cells (rbC bv (brV br) x.r x.w er x.lb x.lr) 263), own bv 1 5 (bvs x.bl)]
theorem RBOk.fill {C : List UInt8} {x : RBuf} {pos n : Nat} (h : RBOk C x pos) (hr : x.r = x.w) (hn : n = min (C.length - x.i) 4096) (pr lb lr : Int) :
    RBOk C ⟨x.i + n, pr, (C.drop x.i).take n ++ x.bl.drop n, 0, n, lb, lr⟩ pos := by
  have h1 := h.i; have h2 := h.ic; have h3 := h.len
  have hi : x.i = pos := by omega
  refine ⟨?_, Nat.zero_le _, by simp only []; omega, by simp only []; omega, by simp only []; omega, ?_⟩
  · simp only [List.length_append, List.length_take, List.length_drop]; omega
  · simp only [List.drop_zero, Nat.sub_zero]
    rw [List.take_left' (by rw [List.length_take, List.length_drop]; omega), hi]
theorem RBOk.get {C : List UInt8} {x : RBuf} {pos : Nat} (h : RBOk C x pos) (hr : x.r < x.w) : ∃ c, x.bl[x.r]? = some c ∧ C[pos]? = some c ∧ pos < C.length := by
  have h1 := h.i; have h2 := h.ic; have h3 := h.len; have h4 := h.w4
  obtain ⟨c, hc⟩ := get_some (l := x.bl) (k := x.r) (by omega)
  refine ⟨c, hc, ?_, by omega⟩
  have hd := congrArg (fun l => l[0]?) h.dat
  simp only [List.getElem?_take, List.getElem?_drop, Nat.add_zero] at hd
  rw [if_pos (by omega), if_pos (by omega), hc] at hd
  exact hd.symm
theorem RBOk.adv {C : List UInt8} {x : RBuf} {pos n : Nat} (h : RBOk C x pos) (hn : n ≤ x.w - x.r) (lb lr : Int) : RBOk C ⟨x.i, x.pr, x.bl, x.r + n, x.w, lb, lr⟩ (pos + n) := by
  have h1 := h.i; have h2 := h.ic; have h3 := h.len; have h4 := h.rw
  refine ⟨h3, by simp only []; omega, h.w4, by simp only []; omega, h2, ?_⟩
  simp only []
  have hd := congrArg (fun l => l.drop n) h.dat
  simp only [List.drop_take, List.drop_drop] at hd
  rw [show x.w - x.r - n = x.w - (x.r + n) from by omega] at hd
  exact hd
theorem RBOk.mid {C : List UInt8} {x : RBuf} {pos n : Nat} (h : RBOk C x pos) (hn : n ≤ x.w - x.r) : ((x.bl.drop x.r).take (x.w - x.r)).take n = (C.drop pos).take n := by
  rw [h.dat, List.take_take, Nat.min_eq_left hn]
theorem ct_fill (g : GW) (br rb : Nat) (cv bv : Value) (C bl : List UInt8) (i w : Nat) (pr lb lr : Int) (eE uE : Nat × Nat) (hE : Env g eE uE) (hcv : Bytes g cv C) (hC : C.length ≤ 1000000000) (hi : i ≤ C.length) (hbv : Shp bv 4096) (hbl : bl.length = 4096) (hw : w ≤ 4096) :
    Ct Tryz.prog g 185 [.pointer (some ⟨rb, 0, none⟩)] [blk br (.cells (brC cv i pr) 133), blk rb (.cells (rbC bv (brV br) w w .nilIface lb lr) 263), own bv 1 5 (bvs bl)]
      (fun r g' H' => ∃ n er pr', n = min (C.length - i) 4096 ∧ (i = C.length → er = EVal ES eE) ∧ (i < C.length → er = .nilIface) ∧
        H' = [blk br (.cells (brC cv (i + n) pr') 133), blk rb (.cells (rbC bv (brV br) 0 n er lb lr) 263), own bv 1 5 (bvs ((C.drop i).take n ++ bl.drop n))]) := by
  refine CI Tryz.func185 Tryz.ntmps185 rfl fun F g0 hg0 => ?_
  replace hE := hE.mono hg0
  replace hcv := hcv.mono hg0
  refine T_cut (ι := Unit) (fun _ _ => True) (fun _ => [(0, .pointer (some ⟨rb, 0, none⟩))]) (fun _ => [blk br (.cells (brC cv i pr) 133), blk rb (.cells (rbC bv (brV br) 0 0 .nilIface lb lr) 263), own bv 1 5 (bvs bl), F]) ?_ ?_
  ·
    refine SR (Lm rfl (Ln rfl (Lf rfl Tryz.runUnderlying263 rfl Tryz.sizeOf3 rfl (Lp (p_load rfl Tryz.isAgg3 (.tail _ (.head _)) rfl) (Lp (p_gtr rfl rfl) (nS (T_condD rfl (fun hc1 => ?_) (fun hc1 => ?_))))))))
    ·
      skip
      refine T_seq (T_regionD 18 Tryz.mixed rfl (K0 (K0 (K1 .nil))) (Dp 0 rfl (p_move rfl) (Dp 1 rfl (p_nilCheck rfl) (Dp 2 rfl (p_fieldAddr rfl Tryz.runUnderlying263 rfl Tryz.sizeOf25 rfl) (Dp 3 rfl (p_load rfl Tryz.isAgg25 (.tail _ (.head _)) rfl) (Dp 4 rfl (p_move rfl) (Dp 5 rfl (p_nilCheck rfl) (Dp 6 rfl (p_fieldAddr rfl Tryz.runUnderlying263 rfl Tryz.sizeOf25 rfl) (Dp 7 rfl (p_load rfl Tryz.isAgg25 (.tail _ (.head _)) rfl) ?_)))))))))
      refine Dp 8 rfl (p_move rfl) (Dp 9 rfl (p_nilCheck rfl) (Dp 10 rfl (p_fieldAddr rfl Tryz.runUnderlying263 rfl Tryz.sizeOf3 rfl) (Dp 11 rfl (p_load rfl Tryz.isAgg3 (.tail _ (.head _)) rfl) (Dp 12 rfl (p_move rfl) (Dp 13 rfl (p_nilCheck rfl) (Dp 14 rfl (p_fieldAddr rfl Tryz.runUnderlying263 rfl Tryz.sizeOf3 rfl) (Dp 15 rfl (p_load rfl Tryz.isAgg3 (.tail _ (.head _)) rfl) (Dp 16 rfl (p_slLH (a := w) (b := w) hbv rfl Tryz.runUnderlying25 Tryz.sizeOf5 rfl rfl rfl rfl (by omega) (by omega) rfl) (DK 17 rfl (e_copyB (A := fun ys => own bv 1 5 (bvs ys)) rfl rfl rfl Tryz.runUnderlying25 Tryz.sizeOf5 (src_bfSl (n := 0) (Bf.own 5 hbv) hbl (.tail _ (.tail _ (.tail _ (.head _)))) (by omega) (by omega) (by omega)) (Bf.own 5 hbv) hbl (K3 .nil)) ?_)))))))))
      rintro _ _ _ - ⟨rfl, rfl⟩
      refine ⟨_, (K1 (K1 (K1 .nil))), ?_⟩
      refine DD (E_seq (T_seq (T_regionD 11 Tryz.mixed rfl Part.all (Dp 0 rfl (p_move rfl) (Dp 1 rfl (p_nilCheck rfl) (Dp 2 rfl (p_fieldAddr rfl Tryz.runUnderlying263 rfl Tryz.sizeOf3 rfl) (Dp 3 rfl (p_load rfl Tryz.isAgg3 (.tail _ (.head _)) rfl) (Dp 4 rfl (p_move rfl) (Dp 5 rfl (p_nilCheck rfl) ?_)))))))))
      refine Dp 6 rfl (p_fieldAddr rfl Tryz.runUnderlying263 rfl Tryz.sizeOf3 rfl) (Dp 7 rfl (p_load rfl Tryz.isAgg3 (.tail _ (.head _)) rfl) ?_)
      refine Dp 8 rfl (p_sub rfl rfl ((show IntKind.i64.wrap ((w : Int) - (w : Int)) = ((0 : Nat) : Int) from by rw [Int.sub_self]; rfl))) ?_
      refine Dq 9 rfl (fun _ => p_nilCheck rfl) (Dp 10 rfl (p_fieldAddr rfl Tryz.runUnderlying263 rfl Tryz.sizeOf3 rfl) (DB rfl (e_store1 rfl rfl Tryz.sizeOf3 rfl (K1 .nil) rfl rfl rfl) ?_))
      rintro _ _ _ - ⟨rfl, rfl⟩
      refine TA_done (by kernel_rfl) (E_seq (T_region (Lm rfl (Ln rfl (Lf rfl Tryz.runUnderlying263 rfl Tryz.sizeOf3 rfl (TL_k0 (e_store1 rfl rfl Tryz.sizeOf3 rfl (K0 .nil) rfl rfl rfl) ?_))))))
      rintro _ _ _ - ⟨rfl, rfl⟩
      refine TL_nil ?_
      rw [show List.take (min 0 4096) (List.take 0 (List.drop w bl)) ++ List.drop (min 0 4096) bl = bl from by simp]
      refine EC (.refl _) (()) ?hI (K1 (K0 (K1 (K0 .nil))))
      case hI => intro g' hl; trivial
    ·
      obtain rfl : w = 0 := by omega
      refine T_skip (EC (.refl _) (()) ?hI (K0 (K0 (K0 (K0 .nil)))))
      case hI => intro g' hl; trivial
  ·
    rintro _ gC hlgC _
    replace hE := hE.mono hlgC
    replace hcv := hcv.mono hlgC
    refine T_seq (T_seq (T_regionD 10 Tryz.mixed rfl Part.all (Dp 0 rfl (p_move rfl) (Dp 1 rfl (p_nilCheck rfl) (Dp 2 rfl (p_fieldAddr rfl Tryz.runUnderlying263 rfl Tryz.sizeOf3 rfl) (Dp 3 rfl (p_load rfl Tryz.isAgg3 (.tail _ (.head _)) rfl) (Dp 4 rfl (p_move rfl) (Dp 5 rfl (p_nilCheck rfl) (Dp 6 rfl (p_fieldAddr rfl Tryz.runUnderlying263 rfl Tryz.sizeOf25 rfl) ?_)))))))))
    refine Dp 7 rfl (p_load rfl Tryz.isAgg25 (.tail _ (.head _)) rfl) (Dp 8 rfl (p_len hbv rfl rfl Tryz.runUnderlying25) (Dp 9 rfl (p_geq rfl rfl) (DD (E_seq (T_condD rfl (fun hc6 => ?_) (fun hc6 => ?_))))))
    ·
      exact absurd hc6 (by omega)
    ·
      skip
      refine kS (T_seq (SR (La rfl (nS (T_block (T_loop (ι := Unit) (fun _ _ => True) (fun _ => [(0, .pointer (some ⟨rb, 0, none⟩)), (2, .int .i64 100)]) (fun _ => [blk br (.cells (brC cv i pr) 133), blk rb (.cells (rbC bv (brV br) 0 0 .nilIface lb lr) 263), own bv 1 5 (bvs bl), F]) (fun _ => 0) (()) (fun g' hl => trivial) (by repeat (first | exact SubL.nil | refine SubL.cons rfl ?_)) (K0 (K0 (K0 (K0 .nil)))) ?_))))))
      rintro _ gA hlgA _
      replace hE := hE.mono hlgA
      replace hcv := hcv.mono hlgA
      refine T_seq (SR (Lm rfl (Lp (p_gtr rfl rfl) (nS (T_condD rfl (fun hc8 => ?_) (fun hc8 => ?_))))))
      ·
        skip
        refine kS (T_seq (T_block (T_seq (T_regionD 21 Tryz.mixed rfl (K1 (K2 .nil)) (Dp 0 rfl (p_move rfl) (Dp 1 rfl (p_nilCheck rfl) (Dp 2 rfl (p_fieldAddr rfl Tryz.runUnderlying263 rfl Tryz.sizeOf113 rfl) (Dp 3 rfl (p_load rfl Tryz.isAgg113 (.head _) rfl) (Dp 4 rfl (p_move rfl) ?_)))))))))
        refine Dp 5 rfl (p_nilCheck rfl) (Dp 6 rfl (p_fieldAddr rfl Tryz.runUnderlying263 rfl Tryz.sizeOf25 rfl) (Dp 7 rfl (p_load rfl Tryz.isAgg25 (.head _) rfl) (Dp 8 rfl (p_move rfl) (Dp 9 rfl (p_nilCheck rfl) (Dp 10 rfl (p_fieldAddr rfl Tryz.runUnderlying263 rfl Tryz.sizeOf3 rfl) (Dp 11 rfl (p_load rfl Tryz.isAgg3 (.head _) rfl) (Dp 12 rfl (p_slL (a := 0) hbv rfl Tryz.runUnderlying25 Tryz.sizeOf5 rfl rfl (by omega) (sl_self hbv)) (Dp 13 rfl (p_nilCheckI rfl) (Dp 14 rfl (p_move rfl) ?_)))))))))
        refine DK 15 rfl (e_invoke rfl (fun w => by kernel_rfl) rfl (ct_brRead gA br cv bv C bl i 4096 pr (fun ys => own bv 1 5 (bvs ys)) eE uE hE hcv hC hi (Bf.own 5 hbv) hbl (by omega)) (K3 (K2 .nil))) ?_
        rintro _ _ _ - ⟨_, rfl, ⟨n, er, pr2, rfl, hn, he1, he2, rfl⟩⟩
        refine ⟨_, (K2 (K2 .nil)), ?_⟩
        refine Dp 16 rfl (p_move rfl) (Dp 17 rfl (p_extractL rfl rfl) (Dp 18 rfl (p_extractL rfl rfl) (Dp 19 rfl (p_assign rfl) (Dp 20 rfl (p_assign rfl) (DD (E_seq (T_seq (SR ?_))))))))
        obtain ⟨hec1, hec2, hin⟩ := er_eof hi he1 he2
        refine Lm rfl (Lp (p_lss rfl rfl) (nS (T_condD rfl (fun hc10 => ?_) (fun hc10 => ?_))))
        ·
          exact absurd hc10 (by omega)
        ·
          skip
          refine kS (SR (Lm rfl (Ln rfl (Lf rfl Tryz.runUnderlying263 rfl Tryz.sizeOf3 rfl (Lp (p_load rfl Tryz.isAgg3 (.head _) rfl) (Lm rfl ?_))))))
          refine Lp (p_add rfl rfl ((show IntKind.i64.wrap (((0 : Nat) : Int) + (n : Int)) = ((n : Nat) : Int) from by rw [wr64 (by omega) (by omega)]; omega))) ?_
          refine Ln rfl (Lf rfl Tryz.runUnderlying263 rfl Tryz.sizeOf3 rfl (TL_k0 (e_store1 rfl rfl Tryz.sizeOf3 rfl (K0 .nil) rfl rfl rfl) ?_))
          rintro _ _ _ - ⟨rfl, rfl⟩
          refine nS (T_seq (SR (Lm rfl (Lp (p_neqE0 hin rfl Tryz.underlying64) (nS (T_condNB rfl (fun hc12 => ?_) (fun hc12 => ?_)))))))
          ·
            have hie := hec2 (isB_f hc12)
            refine SR (Lm rfl (Lm rfl (Ln rfl (Lf rfl Tryz.runUnderlying263 rfl Tryz.sizeOf64 rfl (TL_k0 (e_store1 rfl rfl Tryz.sizeOf64 hin.one (K0 .nil) rfl rfl rfl) ?_)))))
            rintro _ _ _ - ⟨rfl, rfl⟩
            refine nr (E_seq_ret (E_block_ret (E_seq_ret (E_loop_ret (E_block_ret (E_seq_ret (E_ret0 [_, _, _] rfl (hlgC.trans hlgA) (K3 (K0 (K1 (K0 .nil)))) (fun g' hl => ?_))))))))
            exact ⟨n, er, pr2, hn, he1, he2, rfl⟩
          ·
            have hie := hec1 (isB_t hc12)
            refine kS (SR (Lm rfl (Lp (p_gtr rfl rfl) (nS (T_condD rfl (fun hc14 => ?_) (fun hc14 => ?_))))))
            ·
              skip
              refine T_ret (E_block_ret (E_seq_ret (E_loop_ret (E_block_ret (E_seq_ret (E_ret0 [_, _, _] rfl (hlgC.trans hlgA) (K3 (K0 (K1 (K0 .nil)))) (fun g' hl => ?_)))))))
              (obtain rfl := he2 hie; exact ⟨n, _, pr2, hn, he1, he2, rfl⟩)
            ·
              exact absurd hc14 (by omega)
      ·
        exact absurd hc8 (by decide)
end Go.Proofs.YtolddodhmeaceaaGreatDoor
namespace Go.Proofs.YtolddodhmeaceaaGreatDoor
open Go.Hl Go.Pk
def nilN (v : Value) : Nat := match v with | .nilIface => 1 | _ => 0
theorem nilN_EV (p : Nat × Nat) : nilN (EVal ES p) = 0 := rfl
theorem fill_er {C : List UInt8} {i n pos : Nat} {er : Value} {e : Nat × Nat} (hk : i ≤ C.length) (hip : i = pos) (h1 : i = C.length → er = EVal ES e) (h2 : i < C.length → er = .nilIface) (hn : n = min (C.length - i) 4096) :
    er = .nilIface ∨ (er = EVal ES e ∧ pos = C.length ∧ 0 = n) := by
  rcases Nat.lt_or_eq_of_le hk with h | h
  · exact .inl (h2 h)
  · exact .inr ⟨h1 h, by omega, by omega⟩
theorem fill_m {C : List UInt8} {i n r : Nat} {er : Value} {e : Nat × Nat} (hk : i ≤ C.length) (h1 : i = C.length → er = EVal ES e) (h2 : i < C.length → er = .nilIface) (hn : n = min (C.length - i) 4096) :
    (if 0 < n then 0 else 1) + nilN er < (if r < r then 0 else 1) + nilN .nilIface := by
  rw [if_neg (Nat.lt_irrefl r)]
  rcases Nat.lt_or_eq_of_le hk with h | h
  · rw [if_pos (by omega), h2 h]; decide
  · rw [if_neg (by omega), h1 h, nilN_EV]; decide
theorem ct_rbReadByte (g : GW) (br rb : Nat) (cv bv : Value) (C : List UInt8) (x0 : RBuf) (pos : Nat) (eE uE : Nat × Nat) (hE : Env g eE uE) (hcv : Bytes g cv C) (hC : C.length ≤ 1000000000) (hbv : Shp bv 4096) (hok : RBOk C x0 pos) :
    Ct Tryz.prog g 165 [.pointer (some ⟨rb, 0, none⟩)] (rbA br rb cv bv x0 .nilIface)
      (fun r g' H' => ∃ (x : RBuf) (u : UInt8) (er : Value), r = .tuple #[.int .u8 u.toNat, er] ∧ (pos < C.length → C[pos]? = some u ∧ er = .nilIface ∧ RBOk C x (pos + 1)) ∧ (pos = C.length → er = EVal ES eE ∧ RBOk C x pos) ∧ H' = rbA br rb cv bv x .nilIface) := by
  have hpl : pos ≤ C.length := by have := hok.i; have := hok.ic; omega
  refine CI Tryz.func165 Tryz.ntmps165 rfl fun F g0 hg0 => ?_
  replace hE := hE.mono hg0
  replace hcv := hcv.mono hg0
  refine SR (La rfl (La rfl (nSR (Lm rfl (Ln rfl (Lf rfl Tryz.runUnderlying263 rfl Tryz.sizeOf3 rfl (TL_k0 (e_store1 rfl rfl Tryz.sizeOf3 rfl (K1 .nil) rfl rfl rfl) ?_)))))))
  rintro _ _ _ - ⟨rfl, rfl⟩
  refine nS (T_seq (T_block (T_loop (ι := RBuf × Value) (fun x _ => RBOk C x.1 pos ∧ (x.2 = .nilIface ∨ (x.2 = EVal ES eE ∧ pos = C.length ∧ x.1.r = x.1.w))) (fun x => [(0, .pointer (some ⟨rb, 0, none⟩))]) (fun x => [blk br (.cells (brC cv x.1.i x.1.pr) 133), blk rb (.cells (rbC bv (brV br) x.1.r x.1.w x.2 x.1.lb x.1.lr) 263), own bv 1 5 (bvs x.1.bl), F]) (fun x => (if x.1.r < x.1.w then 0 else 1) + nilN x.2) ((⟨x0.i, x0.pr, x0.bl, x0.r, x0.w, x0.lb, -1⟩, .nilIface)) (fun g' hl => ⟨⟨hok.len, hok.rw, hok.w4, hok.i, hok.ic, hok.dat⟩, .inl rfl⟩) (by repeat (first | exact SubL.nil | refine SubL.cons rfl ?_)) (K1 (K0 (K0 (K0 .nil)))) ?_)))
  rintro ⟨⟨i, pr, bl, r, w, lb, lr⟩, er⟩ gA hlgA ⟨hk, her⟩
  try dsimp only
  try dsimp only at hk her
  replace hE := hE.mono hlgA
  replace hcv := hcv.mono hlgA
  have hk1 := hk.len
  have hk2 := hk.rw
  have hk3 := hk.w4
  have hk4 := hk.i
  have hk5 := hk.ic
  dsimp only at hk1 hk2 hk3 hk4 hk5
  refine T_seq (T_seq (T_regionD 9 Tryz.mixed rfl Part.all (Dp 0 rfl (p_move rfl) (Dp 1 rfl (p_nilCheck rfl) (Dp 2 rfl (p_fieldAddr rfl Tryz.runUnderlying263 rfl Tryz.sizeOf3 rfl) (Dp 3 rfl (p_load rfl Tryz.isAgg3 (.tail _ (.head _)) rfl) (Dp 4 rfl (p_move rfl) (Dp 5 rfl (p_nilCheck rfl) (Dp 6 rfl (p_fieldAddr rfl Tryz.runUnderlying263 rfl Tryz.sizeOf3 rfl) ?_)))))))))
  refine Dp 7 rfl (p_load rfl Tryz.isAgg3 (.tail _ (.head _)) rfl) (Dp 8 rfl (p_eql rfl rfl) (DD (E_seq (T_condD rfl (fun hc3 => ?_) (fun hc3 => ?_)))))
  ·
    have hrw : r = w := by omega
    subst hrw
    have hin : IfN er := her.elim Or.inl (fun h => Or.inr ⟨_, _, h.1⟩)
    refine kS (T_block (T_seq (SR (Lm rfl (Ln rfl (Lf rfl Tryz.runUnderlying263 rfl Tryz.sizeOf64 rfl (Lp (p_load rfl Tryz.isAgg64 (.tail _ (.head _)) rfl) (Lp (p_neqE0 hin rfl Tryz.underlying64) (nS (T_condNB rfl (fun hc4 => ?_) (fun hc4 => ?_)))))))))))
    ·
      have hee := her.resolve_left (isB_f hc4)
      obtain ⟨rfl, hpe, _⟩ := hee
      refine SR (Lm rfl (Lk (e_call rfl (ct_readErr gA rb bv (brV br) (EVal ES eE) r r lb lr) (K1 .nil)) ?_))
      rintro _ _ _ - ⟨_, rfl, ⟨rfl, rfl⟩⟩
      refine La rfl (La rfl (nr (E_seq_ret (E_block_ret (E_loop_ret (E_block_ret (E_seq_ret (E_ret2 [_, _, _] rfl hlgA rfl rfl (K1 (K0 (K0 (K0 .nil)))) (fun g' hl => ?_)))))))))
      exact ⟨⟨i, pr, bl, r, r, lb, lr⟩, 0, _, rfl, fun h => absurd h (by omega), fun _ => ⟨rfl, hk⟩, rfl⟩
    ·
      obtain rfl := isB_t hc4
      refine kS (T_region (Lm rfl (Lk (e_call rfl (ct_fill gA br rb cv bv C bl i r pr lb lr eE uE hE hcv hC hk5 hbv hk1 hk3) (K0 (K0 (K0 .nil)))) ?_)))
      rintro _ _ _ - ⟨_, rfl, ⟨n, er2, pr2, hn, he1, he2, rfl⟩⟩
      refine TL_nil (E_block (EL (.refl _) ((⟨i + n, pr2, (C.drop i).take n ++ bl.drop n, 0, n, lb, lr⟩, er2)) ?hm ?hI ((K0 (K0 (K0 (K0 .nil)))))))
      case hm => exact (fill_m hk5 he1 he2 hn)
      case hI => exact (fun g' hl => ⟨RBOk.fill hk rfl hn pr2 lb lr, fill_er hk5 (by omega) he1 he2 hn⟩)
  ·
    replace hc3 : r < w := by omega
    obtain ⟨c, hc1, hc2, hc3⟩ := hk.get hc3
    dsimp only at hc1
    refine T_exit (E_seq_exit (E_loop_exit (E_block_hit (E_seq (T_seq (T_regionD 11 Tryz.mixed rfl Part.all (Dp 0 rfl (p_move rfl) (Dp 1 rfl (p_nilCheck rfl) (Dp 2 rfl (p_fieldAddr rfl Tryz.runUnderlying263 rfl Tryz.sizeOf25 rfl) ?_)))))))))
    refine Dp 3 rfl (p_load rfl Tryz.isAgg25 (.tail _ (.head _)) rfl) (Dp 4 rfl (p_move rfl) (Dp 5 rfl (p_nilCheck rfl) (Dp 6 rfl (p_fieldAddr rfl Tryz.runUnderlying263 rfl Tryz.sizeOf3 rfl) (Dp 7 rfl (p_load rfl Tryz.isAgg3 (.tail _ (.head _)) rfl) (Dp 8 rfl (p_ix (hbv) (j := r) rfl rfl Tryz.runUnderlying25 Tryz.sizeOf5 (by omega) (by omega) rfl) (Dp 9 rfl (p_ldOwn rfl Tryz.isAgg5 (.tail _ (.tail _ (.head _))) (bvs_get1 hc1)) (Dp 10 rfl (p_assign rfl) (DD (E_seq ?_)))))))))
    refine SR ?_
    obtain rfl : er = .nilIface := her.resolve_right (fun h => by have := h.2.1; omega)
    refine Lm rfl (Ln rfl (Lf rfl Tryz.runUnderlying263 rfl Tryz.sizeOf3 rfl (Lp (p_load rfl Tryz.isAgg3 (.tail _ (.head _)) rfl) ?_)))
    refine Lp (p_add rfl rfl ((show IntKind.i64.wrap ((r : Int) + 1) = ((r + 1 : Nat) : Int) from by rw [wr64 (by omega) (by omega)]; omega))) ?_
    refine Ln rfl (Lf rfl Tryz.runUnderlying263 rfl Tryz.sizeOf3 rfl (TL_k0 (e_store1 rfl rfl Tryz.sizeOf3 rfl (K1 .nil) rfl rfl rfl) ?_))
    rintro _ _ _ - ⟨rfl, rfl⟩
    refine nSR ?_
    have hc256 := u8lt c
    refine Lm rfl (Lm rfl (Lp (p_conv rfl Tryz.runUnderlying5 Tryz.runUnderlying3 (wr64 (by omega) (by omega))) (Ln rfl (Lf rfl Tryz.runUnderlying263 rfl Tryz.sizeOf3 rfl (TL_k0 (e_store1 rfl rfl Tryz.sizeOf3 rfl (K0 .nil) rfl rfl rfl) ?_)))))
    rintro _ _ _ - ⟨rfl, rfl⟩
    refine nSR (Lm rfl (La rfl (La rfl (nr (E_ret2 [_, _, _] rfl hlgA rfl rfl (K1 (K0 (K0 (K0 .nil)))) (fun g' hl => ?_))))))
    exact ⟨⟨i, pr, bl, r + 1, w, c.toNat, lr⟩, c, _, rfl, fun _ => ⟨hc2, rfl, RBOk.adv (x := ⟨i, pr, bl, r, w, lb, lr⟩) hk (by dsimp only; omega) _ _⟩, fun h => absurd h (by omega), rfl⟩
theorem ct_rbReadX (g : GW) (br rb : Nat) (cv bv pv : Value) (C xs : List UInt8) (m : Nat) (A : List UInt8 → Atom) (i : Nat) (pr : Int) (bl : List UInt8) (r w : Nat) (lb lr : Int) (pos : Nat) (eE uE : Nat × Nat) (hE : Env g eE uE) (hcv : Bytes g cv C) (hC : C.length ≤ 1000000000) (hbv : Shp bv 4096) (hok : RBOk C ⟨i, pr, bl, r, w, lb, lr⟩ pos)
    (hB : Bf pv m A) (hx : xs.length = m) (hm : 1 ≤ m) (hm2 : m ≤ 1000000000) :
    Ct Tryz.prog g 273 [.pointer (some ⟨rb, 0, none⟩), pv] [A xs, blk br (.cells (brC cv i pr) 133), blk rb (.cells (rbC bv (brV br) r w .nilIface lb lr) 263), own bv 1 5 (bvs bl)]
      (fun v g' H' => ∃ (x : RBuf) (n : Nat) (er : Value), v = .tuple #[.int .i64 n, er] ∧ n ≤ m ∧ (pos < C.length → er = .nilIface ∧ 1 ≤ n ∧ pos + n ≤ C.length) ∧ (pos = C.length → er = EVal ES eE ∧ n = 0) ∧ RBOk C x (pos + n) ∧ H' = A ((C.drop pos).take n ++ xs.drop n) :: rbA br rb cv bv x .nilIface) := by
  have hpl : pos ≤ C.length := by have := hok.i; have := hok.ic; omega
  have hk1 := hok.len; have hk2 := hok.rw; have hk3 := hok.w4; have hk4 := hok.i; have hk5 := hok.ic
  dsimp only at hk1 hk2 hk3 hk4 hk5
  refine CI Tryz.func273 Tryz.ntmps273 rfl fun F g0 hg0 => ?_
  replace hE := hE.mono hg0
  replace hcv := hcv.mono hg0
  refine SR (La rfl (La rfl (nSR (Lm rfl (Lp (p_len (hB.shp) rfl rfl Tryz.runUnderlying25) (La rfl (nS (T_seq (SR ?_)))))))))
  refine Lm rfl (Lp (p_eql rfl rfl) (nS (T_condD rfl (fun hc1 => ?_) (fun hc1 => ?_))))
  ·
    exact absurd hc1 (by omega)
  ·
    skip
    refine kS (T_cut (ι := RBuf) (fun y _ => RBOk C y pos ∧ y.r < y.w) (fun y => [(0, .pointer (some ⟨rb, 0, none⟩)), (1, pv)]) (fun y => [A xs, blk br (.cells (brC cv y.i y.pr) 133), blk rb (.cells (rbC bv (brV br) y.r y.w .nilIface y.lb y.lr) 263), own bv 1 5 (bvs y.bl), F]) ?_ ?_)
    ·
      refine T_seq (T_regionD 9 Tryz.mixed rfl Part.all (Dp 0 rfl (p_move rfl) (Dp 1 rfl (p_nilCheck rfl) (Dp 2 rfl (p_fieldAddr rfl Tryz.runUnderlying263 rfl Tryz.sizeOf3 rfl) (Dp 3 rfl (p_load rfl Tryz.isAgg3 (.tail _ (.tail _ (.head _))) rfl) (Dp 4 rfl (p_move rfl) (Dp 5 rfl (p_nilCheck rfl) (Dp 6 rfl (p_fieldAddr rfl Tryz.runUnderlying263 rfl Tryz.sizeOf3 rfl) (Dp 7 rfl (p_load rfl Tryz.isAgg3 (.tail _ (.tail _ (.head _))) rfl) ?_)))))))))
      refine Dp 8 rfl (p_eql rfl rfl) (DD (E_seq (T_condD rfl (fun hc2 => ?_) (fun hc2 => ?_))))
      ·
        have hrw : r = w := by omega
        subst hrw
        have hip : i = pos := by omega
        refine T_seq (SR (Lm rfl (Ln rfl (Lf rfl Tryz.runUnderlying263 rfl Tryz.sizeOf64 rfl (Lp (p_load rfl Tryz.isAgg64 (.tail _ (.tail _ (.head _))) rfl) (Lp (p_neqNN rfl Tryz.underlying64) (nS (T_cond rfl (fun hc3 => ?_) (fun hc3 => ?_)))))))))
        ·
          cases hc3
        ·
          skip
          refine kS (T_seq (SR (Lm rfl (Lp (p_len (hB.shp) rfl rfl Tryz.runUnderlying25) (Lm rfl (Ln rfl (Lf rfl Tryz.runUnderlying263 rfl Tryz.sizeOf25 rfl (Lp (p_load rfl Tryz.isAgg25 (.tail _ (.tail _ (.head _))) rfl) (Lp (p_len (hbv) rfl rfl Tryz.runUnderlying25) ?_)))))))))
          refine Lp (p_geq rfl rfl) (nS (T_condD rfl (fun hc4 => ?_) (fun hc4 => ?_)))
          ·
            refine SR (Lm rfl (Lm rfl (Ln rfl (Lf rfl Tryz.runUnderlying263 rfl Tryz.sizeOf113 rfl (Lp (p_load rfl Tryz.isAgg113 (.tail _ (.tail _ (.head _))) rfl) (Lm rfl (Lk (e_invoke rfl (fun w => by kernel_rfl) rfl (ct_brRead g0 br cv pv C xs i m pr A eE uE hE hcv hC hk5 hB hx hm2) (K0 (K0 .nil))) ?_)))))))
            rintro _ _ _ - ⟨_, rfl, ⟨n, er, pr2, rfl, hn, he1, he2, rfl⟩⟩
            refine Lm rfl ?_
            obtain ⟨hec1, hec2, hin⟩ := er_eof hk5 he1 he2
            refine Lx rfl rfl (Lx rfl rfl (La rfl (Ln rfl (Lf rfl Tryz.runUnderlying263 rfl Tryz.sizeOf64 rfl (TL_k0 (e_store1 rfl rfl Tryz.sizeOf64 hin.one (K2 .nil) rfl rfl rfl) ?_)))))
            rintro _ _ _ - ⟨rfl, rfl⟩
            refine nS (T_seq (SR (Lm rfl (Lp (p_lss rfl rfl) (nS (T_condD rfl (fun hc7 => ?_) (fun hc7 => ?_)))))))
            ·
              exact absurd hc7 (by omega)
            ·
              skip
              refine kS (T_seq (SR (Lm rfl (Lp (p_gtr rfl rfl) (nS (T_condD rfl (fun hc8 => ?_) (fun hc8 => ?_)))))))
              ·
                refine SR ?_
                obtain ⟨c, hc⟩ := get_some (l := (C.drop i).take n ++ xs.drop n) (k := n - 1) (by rw [List.length_append, List.length_take, List.length_drop, List.length_drop]; omega)
                have hc256 := u8lt c
                refine Lm rfl (Lm rfl (Lm rfl (Lp (p_sub rfl rfl (wr64 (by omega) (by omega))) (Lp (p_ix (hB.shp) (j := n - 1) rfl rfl Tryz.runUnderlying25 Tryz.sizeOf5 (by omega) (by omega) rfl) ?_))))
                refine Lp (p_ldBf hB (by rw [List.length_append, List.length_take, List.length_drop, List.length_drop]; omega) rfl Tryz.isAgg5 (.tail _ (.head _)) hc) ?_
                refine Lp (p_conv rfl Tryz.runUnderlying5 Tryz.runUnderlying3 (wr64 (by omega) (by omega))) (Ln rfl (Lf rfl Tryz.runUnderlying263 rfl Tryz.sizeOf3 rfl (TL_k0 (e_store1 rfl rfl Tryz.sizeOf3 rfl (K0 .nil) rfl rfl rfl) ?_)))
                rintro _ _ _ - ⟨rfl, rfl⟩
                refine nR (Lm rfl (Ln rfl (Lf rfl Tryz.runUnderlying263 rfl Tryz.sizeOf3 rfl (TL_k0 (e_store1 rfl rfl Tryz.sizeOf3 rfl (K0 .nil) rfl rfl rfl) ?_))))
                rintro _ _ _ - ⟨rfl, rfl⟩
                refine nSR (Lm rfl (Lm rfl (Lk (e_call rfl (ct_readErr g0 rb bv (brV br) er r r _ _) (K0 .nil)) ?_)))
                rintro _ _ _ - ⟨_, rfl, ⟨rfl, rfl⟩⟩
                refine La rfl (La rfl (nr (E_seq_ret (E_cut_ret (E_ret2 [_, _, _, _] rfl (.refl _) rfl rfl (K1 (K1 (K0 (K0 (K0 .nil))))) (fun g' hl => ?_))))))
                exact ⟨⟨i + n, pr2, bl, r, r, _, _⟩, n, er, rfl, by omega, fun h => ⟨he2 (by omega), by omega, by omega⟩, fun h => ⟨he1 (by omega), by omega⟩, ⟨hk1, Nat.le_refl _, hk3, by dsimp only; omega, by dsimp only; omega, by simp⟩, by rw [← hip]; rfl⟩
              ·
                refine kS (SR (Lm rfl (Lm rfl (Lk (e_call rfl (ct_readErr g0 rb bv (brV br) er r r _ _) (K0 .nil)) ?_))))
                rintro _ _ _ - ⟨_, rfl, ⟨rfl, rfl⟩⟩
                refine La rfl (La rfl (nr (E_seq_ret (E_cut_ret (E_ret2 [_, _, _, _] rfl (.refl _) rfl rfl (K1 (K1 (K0 (K0 (K0 .nil))))) (fun g' hl => ?_))))))
                exact ⟨⟨i + n, pr2, bl, r, r, _, _⟩, n, er, rfl, by omega, fun h => ⟨he2 (by omega), by omega, by omega⟩, fun h => ⟨he1 (by omega), by omega⟩, ⟨hk1, Nat.le_refl _, hk3, by dsimp only; omega, by dsimp only; omega, by simp⟩, by rw [← hip]; rfl⟩
          ·
            refine kS (SR (Lm rfl (Ln rfl (Lf rfl Tryz.runUnderlying263 rfl Tryz.sizeOf3 rfl (TL_k0 (e_store1 rfl rfl Tryz.sizeOf3 rfl (K2 .nil) rfl rfl rfl) ?_)))))
            rintro _ _ _ - ⟨rfl, rfl⟩
            refine nSR (Lm rfl (Ln rfl (Lf rfl Tryz.runUnderlying263 rfl Tryz.sizeOf3 rfl (TL_k0 (e_store1 rfl rfl Tryz.sizeOf3 rfl (K0 .nil) rfl rfl rfl) ?_))))
            rintro _ _ _ - ⟨rfl, rfl⟩
            refine nS (T_seq (T_regionD 18 Tryz.mixed rfl (K0 (K0 (K2 .nil))) (Dp 0 rfl (p_move rfl) (Dp 1 rfl (p_move rfl) (Dp 2 rfl (p_nilCheck rfl) (Dp 3 rfl (p_fieldAddr rfl Tryz.runUnderlying263 rfl Tryz.sizeOf113 rfl) (Dp 4 rfl (p_load rfl Tryz.isAgg113 (.head _) rfl) (Dp 5 rfl (p_move rfl) (Dp 6 rfl (p_nilCheck rfl) ?_)))))))))
            refine Dp 7 rfl (p_fieldAddr rfl Tryz.runUnderlying263 rfl Tryz.sizeOf25 rfl) (Dp 8 rfl (p_load rfl Tryz.isAgg25 (.head _) rfl) (Dp 9 rfl (p_nilCheckI rfl) (Dp 10 rfl (p_move rfl) (DK 11 rfl (e_invoke rfl (fun w => by kernel_rfl) rfl (ct_brRead g0 br cv bv C bl i 4096 pr (fun ys => own bv 1 5 (bvs ys)) eE uE hE hcv hC hk5 (Bf.own 5 hbv) hk1 (by omega)) (K4 (K3 .nil))) ?_))))
            rintro _ _ _ - ⟨_, rfl, ⟨n, er, pr2, rfl, hn, he1, he2, rfl⟩⟩
            refine ⟨_, (K2 (K2 (K2 .nil))), ?_⟩
            refine Dp 12 rfl (p_move rfl) (Dp 13 rfl (p_extractL rfl rfl) (Dp 14 rfl (p_extractL rfl rfl) (Dp 15 rfl (p_assign rfl) (Dq 16 rfl (fun _ => p_nilCheck rfl) (Dp 17 rfl (p_fieldAddr rfl Tryz.runUnderlying263 rfl Tryz.sizeOf64 rfl) ?_)))))
            obtain ⟨hec1, hec2, hin⟩ := er_eof hk5 he1 he2
            refine DB rfl (e_store1 rfl rfl Tryz.sizeOf64 hin.one (K0 .nil) rfl rfl rfl) ?_
            rintro _ _ _ - ⟨rfl, rfl⟩
            refine TA_done (by kernel_rfl) (E_seq (T_seq (SR (Lm rfl (Lp (p_lss rfl rfl) (nS (T_condD rfl (fun hc17 => ?_) (fun hc17 => ?_))))))))
            ·
              exact absurd hc17 (by omega)
            ·
              skip
              refine kS (T_seq (SR (Lm rfl (Lp (p_eql rfl rfl) (nS (T_condD rfl (fun hc18 => ?_) (fun hc18 => ?_)))))))
              ·
                obtain rfl : n = 0 := by omega
                refine SR (Lm rfl (Lk (e_call rfl (ct_readErr g0 rb bv (brV br) er 0 0 lb lr) (K0 .nil)) ?_))
                rintro _ _ _ - ⟨_, rfl, ⟨rfl, rfl⟩⟩
                refine La rfl (La rfl (nr (E_seq_ret (E_cut_ret (E_ret2 [_, _, _, _] rfl (.refl _) rfl rfl (K1 (K3 (K0 (K1 (K0 .nil))))) (fun g' hl => ?_))))))
                exact ⟨⟨i, pr2, bl, 0, 0, lb, lr⟩, 0, er, rfl, by omega, fun h => absurd h (by omega), fun h => ⟨he1 (by omega), rfl⟩, ⟨hk1, Nat.le_refl _, by dsimp only; omega, by dsimp only; omega, by dsimp only; omega, by simp⟩, by simp [rbA]⟩
              ·
                skip
                refine kS (T_region ?_)
                obtain rfl := he2 (by omega)
                refine Lm rfl (Ln rfl (Lf rfl Tryz.runUnderlying263 rfl Tryz.sizeOf3 rfl (Lp (p_load rfl Tryz.isAgg3 (.head _) rfl) (Lm rfl ?_))))
                refine Lp (p_add rfl rfl ((show IntKind.i64.wrap (((0 : Nat) : Int) + (n : Int)) = ((n : Nat) : Int) from by rw [wr64 (by omega) (by omega)]; omega))) ?_
                refine Ln rfl (Lf rfl Tryz.runUnderlying263 rfl Tryz.sizeOf3 rfl (TL_k0 (e_store1 rfl rfl Tryz.sizeOf3 rfl (K0 .nil) rfl rfl rfl) ?_))
                rintro _ _ _ - ⟨rfl, rfl⟩
                refine TL_nil (EC (.refl _) (⟨i + n, pr2, (C.drop i).take n ++ bl.drop n, 0, n, lb, lr⟩) ?hI (K1 (K3 (K0 (K1 (K0 .nil))))))
                case hI => intro g' hl; exact ⟨RBOk.fill hok rfl hn pr2 lb lr, by dsimp only; omega⟩
      ·
        replace hc2 : r < w := by omega
        refine T_skip (EC (.refl _) (⟨i, pr, bl, r, w, lb, lr⟩) ?hI (K0 (K0 (K0 (K0 (K0 .nil))))))
        case hI => intro g' hl; exact ⟨hok, by dsimp only; omega⟩
    ·
      rintro ⟨i, pr, bl, r, w, lb, lr⟩ gC hlgC ⟨hky, hyw⟩
      try dsimp only
      try dsimp only at hky hyw
      replace hE := hE.mono hlgC
      replace hcv := hcv.mono hlgC
      clear hk1 hk2 hk3 hk4 hk5
      have hk1 := hky.len
      have hk2 := hky.rw
      have hk3 := hky.w4
      have hk4 := hky.i
      have hk5 := hky.ic
      dsimp only at hk1 hk2 hk3 hk4 hk5
      refine T_seq (T_regionD 16 Tryz.mixed rfl (K1 (K1 (K1 (K1 .nil)))) (Dp 0 rfl (p_move rfl) (Dp 1 rfl (p_move rfl) (Dp 2 rfl (p_nilCheck rfl) (Dp 3 rfl (p_fieldAddr rfl Tryz.runUnderlying263 rfl Tryz.sizeOf25 rfl) (Dp 4 rfl (p_load rfl Tryz.isAgg25 (.tail _ (.head _)) rfl) (Dp 5 rfl (p_move rfl) (Dp 6 rfl (p_nilCheck rfl) (Dp 7 rfl (p_fieldAddr rfl Tryz.runUnderlying263 rfl Tryz.sizeOf3 rfl) ?_)))))))))
      refine Dp 8 rfl (p_load rfl Tryz.isAgg3 (.tail _ (.head _)) rfl) (Dp 9 rfl (p_move rfl) (Dp 10 rfl (p_nilCheck rfl) (Dp 11 rfl (p_fieldAddr rfl Tryz.runUnderlying263 rfl Tryz.sizeOf3 rfl) (Dp 12 rfl (p_load rfl Tryz.isAgg3 (.tail _ (.head _)) rfl) (Dp 13 rfl (p_slLH (a := r) (b := w) hbv rfl Tryz.runUnderlying25 Tryz.sizeOf5 rfl rfl rfl rfl (by omega) (by omega) rfl) (DK 14 rfl (e_copyB (A := A) rfl rfl rfl Tryz.runUnderlying25 Tryz.sizeOf5 (src_bfSl (Bf.own 5 hbv) hk1 (.tail _ (.tail _ (.head _))) (by omega) (by omega) rfl) (hB) hx (K4 .nil)) ?_))))))
      rintro _ _ _ - ⟨rfl, rfl⟩
      refine ⟨_, (K1 (K1 (K1 (K1 .nil)))), ?_⟩
      refine Dp 15 rfl (p_assign rfl) (DD (E_seq (SR ?_)))
      obtain ⟨n, hn⟩ : ∃ n, n = min (w - r) m := ⟨_, rfl⟩
      rw [← hn, hky.mid (by dsimp only; omega)]
      refine Lm rfl (Ln rfl (Lf rfl Tryz.runUnderlying263 rfl Tryz.sizeOf3 rfl (Lp (p_load rfl Tryz.isAgg3 (.tail _ (.head _)) rfl) (Lm rfl ?_))))
      refine Lp (p_add rfl rfl ((show IntKind.i64.wrap ((r : Int) + (n : Int)) = ((r + n : Nat) : Int) from by rw [wr64 (by omega) (by omega)]; omega))) ?_
      refine Ln rfl (Lf rfl Tryz.runUnderlying263 rfl Tryz.sizeOf3 rfl (TL_k0 (e_store1 rfl rfl Tryz.sizeOf3 rfl (K1 .nil) rfl rfl rfl) ?_))
      rintro _ _ _ - ⟨rfl, rfl⟩
      refine nS (T_seq (T_regionD 15 Tryz.mixed rfl Part.all ?_))
      obtain ⟨c, hc⟩ := get_some (l := bl) (k := r + n - 1) (by omega)
      have hc256 := u8lt c
      refine Dp 0 rfl (p_move rfl) (Dp 1 rfl (p_move rfl) (Dp 2 rfl (p_nilCheck rfl) (Dp 3 rfl (p_fieldAddr rfl Tryz.runUnderlying263 rfl Tryz.sizeOf25 rfl) (Dp 4 rfl (p_load rfl Tryz.isAgg25 (.head _) rfl) (Dp 5 rfl (p_move rfl) (Dp 6 rfl (p_nilCheck rfl) (Dp 7 rfl (p_fieldAddr rfl Tryz.runUnderlying263 rfl Tryz.sizeOf3 rfl) (Dp 8 rfl (p_load rfl Tryz.isAgg3 (.head _) rfl) (Dp 9 rfl (p_sub rfl rfl (wr64 (by omega) (by omega))) ?_)))))))))
      refine Dp 10 rfl (p_ix (hbv) (j := r + n - 1) rfl rfl Tryz.runUnderlying25 Tryz.sizeOf5 (by omega) (by omega) rfl) (Dp 11 rfl (p_ldOwn rfl Tryz.isAgg5 (.tail _ (.tail _ (.head _))) (bvs_get1 hc)) (Dp 12 rfl (p_conv rfl Tryz.runUnderlying5 Tryz.runUnderlying3 (wr64 (by omega) (by omega))) (Dq 13 rfl (fun _ => p_nilCheck rfl) (Dp 14 rfl (p_fieldAddr rfl Tryz.runUnderlying263 rfl Tryz.sizeOf3 rfl) (DB rfl (e_store1 rfl rfl Tryz.sizeOf3 rfl (K0 .nil) rfl rfl rfl) ?_)))))
      rintro _ _ _ - ⟨rfl, rfl⟩
      refine TA_done (by kernel_rfl) (E_seq (SR (Lm rfl (Ln rfl (Lf rfl Tryz.runUnderlying263 rfl Tryz.sizeOf3 rfl (TL_k0 (e_store1 rfl rfl Tryz.sizeOf3 rfl (K0 .nil) rfl rfl rfl) ?_))))))
      rintro _ _ _ - ⟨rfl, rfl⟩
      refine nSR (Lm rfl (La rfl (La rfl (nr (E_ret2 [_, _, _, _] rfl hlgC rfl rfl (K4 (K1 (K0 (K0 (K0 .nil))))) (fun g' hl => ?_))))))
      exact ⟨⟨i, pr, bl, r + n, w, c.toNat, -1⟩, n, _, rfl, by omega, fun h => ⟨rfl, by omega, by omega⟩, fun h => absurd h (by omega), RBOk.adv (x := ⟨i, pr, bl, r, w, lb, lr⟩) hky (by dsimp only; omega) _ _, rfl⟩
theorem ct_rbRead (g : GW) (br rb : Nat) (cv bv pv : Value) (C xs : List UInt8) (m : Nat) (A : List UInt8 → Atom) (x0 : RBuf) (pos : Nat) (eE uE : Nat × Nat) (hE : Env g eE uE) (hcv : Bytes g cv C) (hC : C.length ≤ 1000000000) (hbv : Shp bv 4096) (hok : RBOk C x0 pos)
    (hB : Bf pv m A) (hx : xs.length = m) (hm : 1 ≤ m) (hm2 : m ≤ 1000000000) :
    Ct Tryz.prog g 273 [.pointer (some ⟨rb, 0, none⟩), pv] (A xs :: rbA br rb cv bv x0 .nilIface)
      (fun v g' H' => ∃ (x : RBuf) (n : Nat) (er : Value), v = .tuple #[.int .i64 n, er] ∧ n ≤ m ∧ (pos < C.length → er = .nilIface ∧ 1 ≤ n ∧ pos + n ≤ C.length) ∧ (pos = C.length → er = EVal ES eE ∧ n = 0) ∧ RBOk C x (pos + n) ∧ H' = A ((C.drop pos).take n ++ xs.drop n) :: rbA br rb cv bv x .nilIface) :=
  ct_rbReadX g br rb cv bv pv C xs m A x0.i x0.pr x0.bl x0.r x0.w x0.lb x0.lr pos eE uE hE hcv hC hbv hok hB hx hm hm2
end Go.Proofs.YtolddodhmeaceaaGreatDoor
namespace Go.Proofs.YtolddodhmeaceaaGreatDoor
open Go.Hl Go.Pk
def U32s (cs : Array Value) : Prop := cs.size = 2048 ∧ ∀ i, i < 2048 → ∃ z, cs[i]? = some (.int .u32 z)
theorem U32s.set {cs : Array Value} (h : U32s cs) (i : Nat) (z : Int) : U32s (cs.setIfInBounds i (.int .u32 z)) := by
  refine ⟨by simp [h.1], fun j hj => ?_⟩
  by_cases hij : i = j
  · subst hij; exact ⟨z, by rw [Array.getElem?_setIfInBounds_self, if_pos (by have := h.1; omega)]⟩
  · rw [Array.getElem?_setIfInBounds_ne hij]; exact h.2 j hj
theorem U32s.ld {cs : Array Value} {i o : Nat} {v : Value} (h : cs[i]? = some v) (e : o = i) : cs[o]? = some v := by subst e; exact h
theorem u32_of (z : Int) : ∃ n : Nat, n < 4294967296 ∧ IntKind.u32.wrap z = (n : Int) := by
  refine ⟨(z % 4294967296).toNat, by omega, ?_⟩
  simp only [IntKind.wrap, IntKind.bits, IntKind.signed, Bool.false_and, Bool.false_eq_true, if_false]; omega
theorem xorU32 (a b : Int) : ∃ n : Nat, n < 4294967296 ∧ bitsOf .xor .u32 a b = (n : Int) := u32_of _
theorem xor8 (a b : Int) : ∃ c : UInt8, bitsOf .xor .u8 a b = (c.toNat : Int) := u8_of _
theorem and255n (n : Nat) (h : n < 4294967296) : bitsOf .and .u32 (n : Int) 255 = ((n % 256 : Nat) : Int) := by
  have h1 := bitsOf_andN (k := .u32) rfl n 255 h (by decide)
  have e : n &&& 255 = n % 256 := Nat.and_two_pow_sub_one_eq_mod n 8
  rw [e] at h1; exact h1
theorem and255 (x : Int) : ∃ j : Nat, j < 256 ∧ bitsOf .and .u32 x 255 = (j : Int) := by
  obtain ⟨n, hn, he⟩ := u32_of (BitVec.ofInt IntKind.u32.bits x &&& BitVec.ofInt IntKind.u32.bits 255).toNat
  have hb : (BitVec.ofInt IntKind.u32.bits x &&& BitVec.ofInt IntKind.u32.bits 255).toNat ≤ 255 := by
    rw [BitVec.toNat_and]; exact Nat.and_le_right
  refine ⟨(BitVec.ofInt IntKind.u32.bits x &&& BitVec.ofInt IntKind.u32.bits 255).toNat, by omega, ?_⟩
  show IntKind.u32.wrap _ = _
  exact wrU32 (by omega) (by omega)
theorem ct_populate (g : GW) (b : Nat) (cs : Array Value) (z : Int) (e : TypeId) (hU : U32s cs) : Ct Tryz.prog g 271 [.int .u32 z, .pointer (some ⟨b, 0, none⟩)] [blk b (.cells cs e)] (fun r g' H' => ∃ cs', U32s cs' ∧ H' = [blk b (.cells cs' e)]) := by
  refine CI Tryz.func271 Tryz.ntmps271 rfl fun F g0 hg0 => ?_
  refine SR (La rfl (nS (T_block (T_loop (ι := Nat × Array Value) (fun x _ => x.1 ≤ 256 ∧ U32s x.2) (fun x => [(0, .int .u32 z), (1, .pointer (some ⟨b, 0, none⟩)), (4, .int .i64 x.1)]) (fun x => [blk b (.cells x.2 e), F]) (fun x => 256 - x.1) ((0, cs)) (fun g' hl => ⟨Nat.zero_le _, hU⟩) (by repeat (first | exact SubL.nil | refine SubL.cons rfl ?_)) (K0 (K0 .nil)) ?_))))
  rintro ⟨i, cs⟩ gA hlgA ⟨hi, hU⟩
  try dsimp only
  try dsimp only at hi hU
  refine T_seq (SR (Lm rfl (Lp (p_lss rfl rfl) (nS (T_condD rfl (fun hc2 => ?_) (fun hc2 => ?_))))))
  ·
    replace hc2 : i < 256 := by omega
    refine kS (T_seq (T_block (SR (Lm rfl (Lp (p_conv rfl Tryz.runUnderlying3 Tryz.runUnderlying29 (wrU32 (by omega) (by omega))) (La rfl (nS (T_seq (SR ?_)))))))))
    refine La rfl (nS (T_block (T_loop (ι := Nat × Int) (fun x _ => x.1 ≤ 8) (fun x => [(0, .int .u32 z), (1, .pointer (some ⟨b, 0, none⟩)), (4, .int .i64 i), (5, .int .u32 x.2), (6, .int .i64 x.1)]) (fun _ => [blk b (.cells cs e), F]) (fun x => 8 - x.1) ((0, _)) (fun g' hl => by simp) (by repeat (first | exact SubL.nil | refine SubL.cons rfl ?_)) (K0 (K0 .nil)) ?_)))
    rintro ⟨j, s⟩ gB hlgB hj
    try dsimp only
    try dsimp only at hj
    refine T_seq (SR (Lm rfl (Lp (p_lss rfl rfl) (nS (T_condD rfl (fun hc4 => ?_) (fun hc4 => ?_))))))
    ·
      replace hc4 : j < 8 := by omega
      refine kS (T_seq (T_block (SR (Lm rfl (Lp (p_and rfl rfl rfl) (Lp (p_eql rfl rfl) (nS (T_condD rfl (fun hc5 => ?_) (fun hc5 => ?_)))))))))
      ·
        refine T_region (Lm rfl (Lp (p_shr (n := 1) rfl rfl (by decide) rfl rfl) (Lm rfl (Lp (p_xor rfl rfl rfl) (La rfl (TL_nil (E_block (E_seq (T_region ?_)))))))))
        refine Lm rfl (Lp (p_add rfl rfl (wr64 (by omega) (by omega))) (La rfl (TL_nil (EL (.refl _) ((j + 1, _)) ?hm ?hI ((K0 (K0 .nil)))))))
        case hm => exact (by omega)
        case hI => exact (fun g' hl => by dsimp only; omega)
      ·
        refine T_region (Lm rfl (Lp (p_shr (n := 1) rfl rfl (by decide) rfl rfl) (La rfl (TL_nil (E_block (E_seq (T_region (Lm rfl (Lp (p_add rfl rfl (wr64 (by omega) (by omega))) ?_)))))))))
        refine La rfl (TL_nil (EL (.refl _) ((j + 1, _)) ?hm ?hI ((K0 (K0 .nil)))))
        case hm => exact (by omega)
        case hI => exact (fun g' hl => by dsimp only; omega)
    ·
      obtain rfl : j = 8 := by omega
      refine T_exit (E_seq_exit (E_loop_exit (E_block_hit (E_seq (T_region (Lm rfl (Lm rfl (Lm rfl (Ln rfl ?_)))))))))
      refine Lp (p_indexAddrA (j := i) rfl rfl Tryz.runUnderlying445 Tryz.sizeOf29 (by omega) (by omega) rfl) ?_
      refine TL_k0 (e_storeA rfl rfl Tryz.sizeOf29 rfl (K0 .nil) (by have := hU.1; omega) rfl) ?_
      rintro _ _ _ - ⟨rfl, rfl⟩
      refine TL_nil (E_block (E_seq (T_region (Lm rfl (Lp (p_add rfl rfl (wr64 (by omega) (by omega))) (La rfl (TL_nil (EL hlgB ((i + 1, _)) ?hm ?hI ((K0 (K0 .nil)))))))))))
      case hm => exact (by dsimp only; omega)
      case hI => exact (fun g' hl => ⟨by dsimp only; omega, hU.set _ _⟩)
  ·
    obtain rfl : i = 256 := by omega
    refine T_exit (E_seq_exit (E_loop_exit (E_block_hit (E_end0 [_] rfl hlgA (K0 (K0 .nil)) (fun g' hl => ?_)))))
    exact ⟨_, hU, rfl⟩
theorem zeroU : U32s Tryz.zeroCells449 := by
  refine ⟨by kernel_rfl, fun i hi => ⟨0, ?_⟩⟩
  have e : Tryz.zeroCells449 = Array.replicate 2048 (.int .u32 0) := by kernel_rfl
  rw [e, Array.getElem?_replicate, if_pos hi]
theorem ct_makeTable (g : GW) (z : Int) : Ct Tryz.prog g 268 [.int .u32 z] [] (fun r g' H' => ∃ b cs, r = .pointer (some ⟨b, 0, none⟩) ∧ U32s cs ∧ H' = [blk b (.cells cs 449)]) := by
  refine CI Tryz.func268 Tryz.ntmps268 rfl fun F g0 hg0 => ?_
  refine SR (La rfl (nSR (Lk (e_alloc Tryz.zeroValue449 rfl) ?_)))
  rintro _ _ _ - ⟨b, rfl, rfl⟩
  refine La rfl (nSR (Lm rfl (Lm rfl (Ln rfl (Lp (p_indexAddrA (j := 0) rfl rfl Tryz.runUnderlying449 Tryz.sizeOf445 rfl (by omega) rfl) (Lk (e_call rfl (ct_populate g0 b _ z 449 zeroU) (K0 .nil)) ?_))))))
  rintro _ _ _ - ⟨_, rfl, ⟨cs, hU, rfl⟩⟩
  refine nS (T_seq (SR (La rfl (nS (T_block (T_loop (ι := Nat × Array Value) (fun x _ => x.1 ≤ 256 ∧ U32s x.2) (fun x => [(3, .pointer (some ⟨b, 0, none⟩)), (4, .int .i64 x.1)]) (fun x => [blk b (.cells x.2 449), F]) (fun x => 256 - x.1) ((0, cs)) (fun g' hl => ⟨Nat.zero_le _, hU⟩) (by repeat (first | exact SubL.nil | refine SubL.cons rfl ?_)) (K0 (K0 .nil)) ?_))))))
  rintro ⟨i, cs⟩ gA hlgA ⟨hi, hU⟩
  try dsimp only
  try dsimp only at hi hU
  refine T_seq (SR (Lm rfl (Lp (p_lss rfl rfl) (nS (T_condD rfl (fun hc4 => ?_) (fun hc4 => ?_))))))
  ·
    replace hc4 : i < 256 := by omega
    obtain ⟨z1, hz1⟩ := hU.2 i (by omega)
    refine kS (T_seq (T_block (SR (Lm rfl (Lm rfl (Ln rfl (Lp (p_indexAddrA (j := 0) rfl rfl Tryz.runUnderlying449 Tryz.sizeOf445 rfl (by omega) rfl) (Lp (p_indexAddrA (j := i) rfl rfl Tryz.runUnderlying445 Tryz.sizeOf29 (by omega) (by omega) rfl) (Lp (p_load rfl Tryz.isAgg29 (.head _) (U32s.ld hz1 (by omega))) ?_)))))))))
    refine La rfl (nSR (La rfl (nS (T_block ?_))))
    refine T_loop (ι := Nat × Int × Array Value) (fun x _ => x.1 ≤ 8 ∧ U32s x.2.2) (fun x => [(3, .pointer (some ⟨b, 0, none⟩)), (4, .int .i64 i), (5, .int .u32 x.2.1), (6, .int .i64 x.1)]) (fun x => [blk b (.cells x.2.2 449), F]) (fun x => 8 - x.1) ((1, z1, cs)) (fun g' hl => ⟨by dsimp only; omega, hU⟩) (by repeat (first | exact SubL.nil | refine SubL.cons rfl ?_)) (K0 (K0 .nil)) ?_
    rintro ⟨j, s, cs⟩ gB hlgB ⟨hj, hU⟩
    try dsimp only
    try dsimp only at hj hU
    refine T_seq (SR (Lm rfl (Lp (p_lss rfl rfl) (nS (T_condD rfl (fun hc6 => ?_) (fun hc6 => ?_))))))
    ·
      replace hc6 : j < 8 := by omega
      obtain ⟨j2, hj2, he2⟩ := and255 s
      obtain ⟨z2, hz2⟩ := hU.2 j2 (by omega)
      refine kS (T_seq (T_block (SR (Lm rfl (Lm rfl (Lp (p_and rfl rfl he2) (Ln rfl (Lp (p_indexAddrA (j := 0) rfl rfl Tryz.runUnderlying449 Tryz.sizeOf445 rfl (by omega) rfl) (Lp (p_indexAddrA (j := j2) rfl rfl Tryz.runUnderlying445 Tryz.sizeOf29 (by omega) (by omega) rfl) ?_)))))))))
      refine Lp (p_load rfl Tryz.isAgg29 (.head _) (U32s.ld hz2 (by omega))) (Lm rfl (Lp (p_shr (n := 8) rfl rfl (by decide) rfl rfl) (Lp (p_xor rfl rfl rfl) (La rfl (nR (Lm rfl (Lm rfl (Lm rfl (Lm rfl ?_)))))))))
      refine Ln rfl (Lp (p_indexAddrA (j := j) rfl rfl Tryz.runUnderlying449 Tryz.sizeOf445 (by omega) (by omega) rfl) (Lp (p_indexAddrA (j := i) rfl rfl Tryz.runUnderlying445 Tryz.sizeOf29 (by omega) (by omega) rfl) ?_))
      refine TL_k0 (e_storeA rfl rfl Tryz.sizeOf29 rfl (K0 .nil) (by have := hU.1; omega) rfl) ?_
      rintro _ _ _ - ⟨rfl, rfl⟩
      refine TL_nil (E_block (E_seq (T_region (Lm rfl (Lp (p_add rfl rfl (wr64 (by omega) (by omega))) (La rfl (TL_nil (EL (.refl _) ((j + 1, _, _)) ?hm ?hI ((K0 (K0 .nil)))))))))))
      case hm => exact (by dsimp only; omega)
      case hI => exact (fun g' hl => ⟨by dsimp only; omega, hU.set _ _⟩)
    ·
      obtain rfl : j = 8 := by omega
      refine T_exit (E_seq_exit (E_loop_exit (E_block_hit (E_block (E_seq (T_region (Lm rfl (Lp (p_add rfl rfl (wr64 (by omega) (by omega))) (La rfl ?_)))))))))
      refine TL_nil (EL hlgB ((i + 1, _)) ?hm ?hI ((K0 (K0 .nil))))
      case hm => exact (by dsimp only; omega)
      case hI => exact (fun g' hl => ⟨by dsimp only; omega, hU⟩)
  ·
    obtain rfl : i = 256 := by omega
    refine T_exit (E_seq_exit (E_loop_exit (E_block_hit (E_seq (SR (Lm rfl (La rfl (nr (E_ret1 [_] rfl hlgA rfl (K0 (K0 .nil)) (fun g' hl => ?_))))))))))
    exact ⟨b, _, rfl, hU, rfl⟩
theorem ct_leUint32 (g : GW) (u : Value) (t : List UInt8) (hu : Bytes g u t) (ht : 4 ≤ t.length) : Ct Tryz.prog g 269 [u] [] (fun r g' H' => ∃ z, r = .int .u32 z ∧ H' = []) := by
  obtain ⟨c0, h0⟩ := get_some (l := t) (k := 0) (by omega)
  obtain ⟨c1, h1⟩ := get_some (l := t) (k := 1) (by omega)
  obtain ⟨c2, h2⟩ := get_some (l := t) (k := 2) (by omega)
  obtain ⟨c3, h3⟩ := get_some (l := t) (k := 3) (by omega)
  refine CI Tryz.func269 Tryz.ntmps269 rfl fun F g0 hg0 => ?_
  replace hu := hu.mono hg0
  refine SR (La rfl (nSR (Lm rfl (Lp (p_ix (hu.1) (j := 3) rfl rfl Tryz.runUnderlying25 Tryz.sizeOf5 rfl (by omega) rfl) (Lp (p_ldB hu rfl Tryz.isAgg5 h3) (nS (T_seq (T_regionD 23 Tryz.mixed rfl Part.all (Dp 0 rfl (p_move rfl) ?_)))))))))
  refine Dp 1 rfl (p_ix (hu.1) (j := 0) rfl rfl Tryz.runUnderlying25 Tryz.sizeOf5 rfl (by omega) rfl) (Dp 2 rfl (p_ldB hu rfl Tryz.isAgg5 h0) (Dp 3 rfl (p_conv rfl Tryz.runUnderlying5 Tryz.runUnderlying29 (rfl)) (Dp 4 rfl (p_move rfl) (Dp 5 rfl (p_ix (hu.1) (j := 1) rfl rfl Tryz.runUnderlying25 Tryz.sizeOf5 rfl (by omega) rfl) (Dp 6 rfl (p_ldB hu rfl Tryz.isAgg5 h1) (Dp 7 rfl (p_conv rfl Tryz.runUnderlying5 Tryz.runUnderlying29 (rfl)) (Dp 8 rfl (p_shl (n := 8) rfl rfl (by decide) rfl rfl) (Dp 9 rfl (p_or rfl rfl rfl) (Dp 10 rfl (p_move rfl) ?_)))))))))
  refine Dp 11 rfl (p_ix (hu.1) (j := 2) rfl rfl Tryz.runUnderlying25 Tryz.sizeOf5 rfl (by omega) rfl) (Dp 12 rfl (p_ldB hu rfl Tryz.isAgg5 h2) (Dp 13 rfl (p_conv rfl Tryz.runUnderlying5 Tryz.runUnderlying29 (rfl)) (Dp 14 rfl (p_shl (n := 16) rfl rfl (by decide) rfl rfl) (Dp 15 rfl (p_or rfl rfl rfl) (Dp 16 rfl (p_move rfl) (Dp 17 rfl (p_ix (hu.1) (j := 3) rfl rfl Tryz.runUnderlying25 Tryz.sizeOf5 rfl (by omega) rfl) (Dp 18 rfl (p_ldB hu rfl Tryz.isAgg5 h3) (Dp 19 rfl (p_conv rfl Tryz.runUnderlying5 Tryz.runUnderlying29 (rfl)) (Dp 20 rfl (p_shl (n := 24) rfl rfl (by decide) rfl rfl) ?_)))))))))
  refine Dp 21 rfl (p_or rfl rfl rfl) (Dp 22 rfl (p_assign rfl) (DD (E_seq (T_ret (E_ret1 [] rfl (.refl _) rfl (K0 .nil) (fun g' hl => ?_))))))
  exact ⟨_, rfl, rfl⟩
theorem ct_simpleUpdate (g : GW) (b : Nat) (cs : Array Value) (e : TypeId) (s : Int) (u : Value) (t : List UInt8) (hU : U32s cs) (hu : Bytes g u t) (ht : t.length ≤ 1000000000) :
    Ct Tryz.prog g 270 [.int .u32 s, .pointer (some ⟨b, 0, none⟩), u] [blk b (.cells cs e)] (fun r g' H' => ∃ z, r = .int .u32 z ∧ H' = [blk b (.cells cs e)]) := by
  refine CI Tryz.func270 Tryz.ntmps270 rfl fun F g0 hg0 => ?_
  replace hu := hu.mono hg0
  refine SR (La rfl (nSR (Lm rfl (Lp (p_notU rfl) (La rfl (nS (T_seq (SR (Lm rfl ?_)))))))))
  refine Lp (p_len (hu.1) rfl rfl Tryz.runUnderlying25) (Lm rfl (nS (T_block (T_loop (ι := Nat × Int) (fun x _ => x.1 ≤ t.length) (fun x => [(0, .int .u32 x.2), (1, .pointer (some ⟨b, 0, none⟩)), (11, u), (12, .int .i64 t.length), (13, .int .i64 x.1)]) (fun _ => [blk b (.cells cs e), F]) (fun x => t.length - x.1) ((0, _)) (fun g' hl => by simp) (by repeat (first | exact SubL.nil | refine SubL.cons rfl ?_)) (K0 (K0 .nil)) ?_))))
  rintro ⟨k, s⟩ gA hlgA hk
  try dsimp only
  try dsimp only at hk
  replace hu := hu.mono hlgA
  refine SR (Lp (p_lss rfl rfl) (nS (T_seq (T_condD rfl (fun hc2 => ?_) (fun hc2 => ?_)))))
  ·
    replace hc2 : k < t.length := by omega
    obtain ⟨c, hc⟩ := get_some hc2
    obtain ⟨c2, hc2⟩ := xor8 (IntKind.u8.wrap s) c.toNat
    have hcl := u8lt c2
    obtain ⟨z2, hz2⟩ := hU.2 c2.toNat (by omega)
    refine kS (T_seq (T_block (SR (Lp (p_ix (hu.1) (j := k) rfl rfl Tryz.runUnderlying25 Tryz.sizeOf5 (by omega) (by omega) rfl) (Lp (p_ldB hu rfl Tryz.isAgg5 hc) (La rfl (nR (Lm rfl (Lm rfl ?_)))))))))
    refine Lp (p_conv rfl Tryz.runUnderlying29 Tryz.runUnderlying5 (rfl)) (Lm rfl (Lp (p_xor rfl rfl hc2) (Ln rfl (Lp (p_indexAddrA (j := c2.toNat) rfl rfl Tryz.runUnderlying445 Tryz.sizeOf29 (by omega) (by omega) rfl) (Lp (p_load rfl Tryz.isAgg29 (.head _) (U32s.ld hz2 (by omega))) (Lm rfl (Lp (p_shr (n := 8) rfl rfl (by decide) rfl rfl) (Lp (p_xor rfl rfl rfl) (La rfl ?_)))))))))
    refine TL_nil (E_block (E_seq (T_region (Lp (p_add rfl rfl (wr64 (by omega) (by omega))) (Lm rfl (TL_nil (EL (.refl _) ((k + 1, _)) ?hm ?hI ((K0 (K0 .nil))))))))))
    case hm => exact (by omega)
    case hI => exact (fun g' hl => by dsimp only; omega)
  ·
    obtain rfl : k = t.length := by omega
    refine T_exit (E_seq_exit (E_loop_exit (E_block_hit (E_seq (SR (Lm rfl (Lp (p_notU rfl) (La rfl (nr (E_ret1 [_] rfl hlgA rfl (K0 (K0 .nil)) (fun g' hl => ?_)))))))))))
    exact ⟨_, rfl, rfl⟩
end Go.Proofs.YtolddodhmeaceaaGreatDoor
