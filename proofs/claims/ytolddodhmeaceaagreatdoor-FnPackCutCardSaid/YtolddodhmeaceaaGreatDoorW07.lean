/- Part 7 of the walk of laws.FnPackCut. -/
import Derived.Test.YtolddodhmeaceaaGreatDoorW06
import Derived.Test.YtolddodhmeaceaaGreatDoorW04
import Derived.Lib.AppendZeros
import Derived.Recover
import Derived.Lib.ByteType
import Derived.WideKeyRuns
set_option linter.unusedVariables false
set_option linter.unusedSimpArgs false
set_option maxRecDepth 100000
namespace Go.Hl
variable {P : Program}
section
variable {d : Option Nat} {ty : TypeId} {ps : String} {af : Array Edge} {gd : Option (Nat × Bool)} {g : GW} {L : List (Nat × Value)} {H : List Atom}
/-- Interfaces of different types. -/
theorem p_eqlDT {t x y yt ms u v u' v'} (ex : ev L x = some (.iface u v)) (ey : ev L y = some (.iface u' v')) (hne : u ≠ u') (hu : P.underlying t = some (.interface ms)) : OpP P ⟨d, .binOp .eql t x y yt, ty, ps, af, gd⟩ g L H (.bool false) :=
  p_cmp (r := false) (.inl rfl) ex ey (fun w => by simp [eqGuard]) rfl rfl (fun g' _ _ d => by simp [Op.equalIn, run_underlying hu, hne])
/-- It is of another type. -/
theorem p_assertT {x v u xt a e z} (ex : ev L x = some (.iface u v)) (hu : ∀ w, (underlying a).run P w = .ok (.pointer e) w) (hz : ∀ w, (zeroValue a).run P w = .ok z w) (hne : u ≠ a) :
    OpP P ⟨d, .typeAssert x xt a true, ty, ps, af, gd⟩ g L H (.tuple #[z, .bool false]) := by
  refine p_assert ex fun w => ?_
  unfold Instr.typeAssert
  simp only [Sem.run_bind, hu, Result.andThen_ok]
  rw [if_neg hne]
  simp only [if_true, Sem.run_bind, hz, Result.andThen_ok, Sem.run_pure]
end
end Go.Hl
namespace Go.Proofs.YtolddodhmeaceaaGreatDoor
open Go.Hl Go.Pk
theorem ct_reset128 (g : GW) (rb : Nat) (cs : Array Value) (hcs : cs.size = 7) (bv rd : Value) (m : Nat) (hbv : Shp bv m) (hrd : IfN rd) :
    Ct Tryz.prog g 128 [pV rb, bv, rd] [blk rb (.cells cs 263)] (fun _ _ H' => H' = [blk rb (.cells (rbC bv rd 0 0 .nilIface (-1) (-1)) 263)]) := by
  refine CI Tryz.func128 Tryz.ntmps128 rfl fun F g0 hg0 => ?_
  refine T_region (Lm rfl (Lm rfl (Lm rfl ?_)))
  refine Lp (p_build (cells := rbC bv rd 0 0 .nilIface (-1) (-1)) rfl (by rcases hbv with ⟨_, _, rfl, rfl, _⟩ | ⟨_, _, _, _, rfl⟩ <;> rcases hrd with rfl | ⟨_, _, rfl⟩ <;> kernel_rfl)) ?_
  refine Ln rfl ?_
  refine TL_k0 (e_storeW rfl rfl Tryz.sizeOf263 rfl rfl (by intro u hu; have h1 := Shp.one hbv; have h2 := IfN.one hrd; simp [Value.cells, rbC] at hu; rcases hu with rfl | rfl | rfl | rfl | rfl <;> first | exact h1 | exact h2 | rfl) (K0 .nil) hcs) ?_
  rintro _ _ _ - ⟨rfl, rfl⟩
  refine TL_nil (E_end0 [_] rfl (.refl _) (K0 (K0 .nil)) (fun g' hl => ?_))
  exact rfl
theorem ct_newReader (g : GW) : Ct Tryz.prog g 125 [.nilIface, .int .i64 4096] [] (fun r _ H' => ∃ rb bv bl, r = pV rb ∧ Shp bv 4096 ∧ bl.length = 4096 ∧ H' = [blk rb (.cells (rbC bv .nilIface 0 0 .nilIface (-1) (-1)) 263), own bv 1 5 (bvs bl)]) := by
  refine CI Tryz.func125 Tryz.ntmps125 rfl fun F g0 hg0 => ?_
  refine SR (La rfl (nSR (Lm rfl (Lp (p_assert (v := .nilIface) (r := .tuple #[.pointer none, .bool false]) rfl (fun w => by kernel_rfl)) (Lm rfl (Lx rfl rfl (Lx rfl rfl (La rfl (La rfl ?_)))))))))
  refine nS (T_seq (SR (Lm rfl (Lm rfl (Ls (Ls (Ls (Ls (Ls ?_)))))))))
  refine Ls (Ls (Lp (p_pickF rfl rfl) (nS (T_condF rfl (kS (SR (Lk (e_alloc Tryz.zeroValue263 rfl) ?_)))))))
  rintro _ _ _ - ⟨r, rfl, rfl⟩
  refine La rfl (nSR (Lm rfl (Lm rfl (Lp (p_max rfl rfl (show _ = (4096 : Int) from rfl)) ?_))))
  refine Lk (e_make (l := 4096) (c := 4096) rfl rfl Tryz.runUnderlying25 Tryz.typeInfo5 rfl rfl rfl (by omega) (by show 1 * _ ≤ _; omega) (by omega)) ?_
  rintro _ _ _ - ⟨h, rfl, rfl⟩
  rw [rep_bvs]
  refine Lm rfl (Lk (e_call rfl (ct_reset128 g0 r _ (by kernel_rfl) _ _ 4096 (.inr ⟨h, 0, 4096, Nat.le_refl _, rfl⟩) (.inl rfl)) (K1 .nil)) ?_)
  rintro _ _ _ - ⟨_, rfl, rfl⟩
  refine nSR (Lm rfl (La rfl (nr (E_ret1 [_, _] rfl (.refl _) rfl (K0 (K0 (K0 .nil))) (fun g' hl => ?_)))))
  exact ⟨r, _, List.replicate 4096 0, rfl, .inr ⟨h, 0, 4096, Nat.le_refl _, rfl⟩, List.length_replicate, rfl⟩
theorem ct_newReader0 (g : GW) : Ct Tryz.prog g 72 [.nilIface] [] (fun r _ H' => ∃ rb bv bl, r = pV rb ∧ Shp bv 4096 ∧ bl.length = 4096 ∧ H' = [blk rb (.cells (rbC bv .nilIface 0 0 .nilIface (-1) (-1)) 263), own bv 1 5 (bvs bl)]) := by
  refine CI Tryz.func72 Tryz.ntmps72 rfl fun F g0 hg0 => ?_
  refine SR (La rfl (nSR (Lm rfl (Lk (e_call rfl (ct_newReader g0) .nil) ?_))))
  rintro _ _ _ - ⟨_, rfl, ⟨rb, bv, bl, rfl, h1, h2, rfl⟩⟩
  refine La rfl (nr (E_ret1 [_, _] rfl (.refl _) rfl (K0 (K0 (K0 .nil))) (fun g' hl => ?_)))
  exact ⟨rb, bv, bl, rfl, h1, h2, rfl⟩
theorem ct_newWriter (g : GW) : Ct Tryz.prog g 73 [.nilIface, .int .i64 64] [] (fun r _ H' => ∃ wb bv bl, r = pV wb ∧ Shp bv 64 ∧ bl.length = 64 ∧ H' = [blk wb (.cells (bwC .nilIface bv 0 .nilIface) 258), own bv 1 5 (bvs bl)]) := by
  refine CI Tryz.func73 Tryz.ntmps73 rfl fun F g0 hg0 => ?_
  refine SR (La rfl (nSR (Lm rfl (Lp (p_assert (v := .nilIface) (r := .tuple #[.pointer none, .bool false]) rfl (fun w => by kernel_rfl)) (Lm rfl (Lx rfl rfl (Lx rfl rfl (La rfl (La rfl ?_)))))))))
  refine nS (T_seq (SR (Lm rfl (Lm rfl (Ls (Ls (Ls (Ls (Ls ?_)))))))))
  refine Ls (Ls (Lp (p_pickF rfl rfl) (nS (T_condF rfl (kS (T_seq (SR (Lm rfl (Lp (p_leq rfl rfl) ?_)))))))))
  refine TL_nil (E_seq ?_)
  refine T_condD rfl (fun hc1 => ?_) (fun hc1 => ?_)
  ·
    exact absurd hc1 (by decide)
  ·
    skip
    refine kS (SR (Lm rfl ?_))
    refine Lk (e_make (l := 64) (c := 64) rfl rfl Tryz.runUnderlying25 Tryz.typeInfo5 rfl rfl rfl (by omega) (by show 1 * _ ≤ _; omega) (by omega)) ?_
    rintro _ _ _ - ⟨h, rfl, rfl⟩
    rw [rep_bvs]
    refine Lm rfl (Lp (p_build (cells := bwC .nilIface (.slice (some ⟨h, 0, none⟩) 64 64) 0 .nilIface) rfl (by kernel_rfl)) (Lk (e_box rfl rfl) ?_))
    rintro _ _ _ - ⟨w, rfl, rfl⟩
    refine La rfl (nr (E_ret1 [_, _] rfl (.refl _) rfl (K0 (K0 (K0 .nil))) (fun g' hl => ?_)))
    exact ⟨w, _, List.replicate 64 0, rfl, .inr ⟨h, 0, 64, Nat.le_refl _, rfl⟩, List.length_replicate, rfl⟩
theorem ct_brReset (g : GW) (rb : Nat) (bv rd : Value) (m br : Nat) (hm : 0 < m) (hbv : Shp bv m) (hrd : IfN rd) :
    Ct Tryz.prog g 79 [pV rb, brV br] [blk rb (.cells (rbC bv rd 0 0 .nilIface (-1) (-1)) 263)] (fun _ _ H' => H' = [blk rb (.cells (rbC bv (brV br) 0 0 .nilIface (-1) (-1)) 263)]) := by
  obtain ⟨q, o, c, hc, rfl⟩ := hbv.pos hm
  refine CI Tryz.func79 Tryz.ntmps79 rfl fun F g0 hg0 => ?_
  refine T_seq (SR (Lm rfl (Lp (p_mkIface rfl Tryz.runUnderlying165 (fun _ h => by cases h)) (Lm rfl (Lp (p_eqlDT rfl rfl (by decide) Tryz.underlying113) (nS (T_condF rfl (kS (T_seq ?_)))))))))
  refine SR (Lm rfl (Ln rfl (Lf rfl Tryz.runUnderlying263 rfl Tryz.sizeOf25 rfl (Lp (p_load rfl Tryz.isAgg25 (.head _) rfl) (Lp (p_eqlSN rfl rfl Tryz.underlying25) (nS (T_condF rfl (kS (T_region ?_)))))))))
  refine Lm rfl (Lm rfl (Ln rfl (Lf rfl Tryz.runUnderlying263 rfl Tryz.sizeOf25 rfl (Lp (p_load rfl Tryz.isAgg25 (.head _) rfl) (Lm rfl (Lk (e_call rfl (ct_reset128 g0 rb _ rfl _ _ m (.inr ⟨q, o, c, hc, rfl⟩) (.inr ⟨_, _, rfl⟩)) (K0 .nil)) ?_))))))
  rintro _ _ _ - ⟨_, rfl, rfl⟩
  refine TL_nil (E_end0 [_] rfl (.refl _) (K0 (K0 .nil)) (fun g' hl => ?_))
  exact rfl
theorem ct_bwReset (g : GW) (wb : Nat) (bv : Value) (m : Nat) (hm : 0 < m) (hbv : Shp bv m) (t : TypeId) (v : Value) (ht : 167 ≠ t) :
    Ct Tryz.prog g 126 [pV wb, .iface t v] [blk wb (.cells (bwC .nilIface bv 0 .nilIface) 258)] (fun _ _ H' => H' = [blk wb (.cells (bwC .nilIface bv 0 (.iface t v)) 258)]) := by
  obtain ⟨q, o, c, hc, rfl⟩ := hbv.pos hm
  refine CI Tryz.func126 Tryz.ntmps126 rfl fun F g0 hg0 => ?_
  refine T_seq (SR (Lm rfl (Lp (p_mkIface rfl Tryz.runUnderlying167 (fun _ h => by cases h)) (Lm rfl (Lp (p_eqlDT rfl rfl ht Tryz.underlying126) (nS (T_condF rfl (kS (T_seq ?_)))))))))
  refine SR (Lm rfl (Ln rfl (Lf rfl Tryz.runUnderlying258 rfl Tryz.sizeOf25 rfl (Lp (p_load rfl Tryz.isAgg25 (.head _) rfl) (Lp (p_eqlSN rfl rfl Tryz.underlying25) (nS (T_condF rfl (kS (SR ?_)))))))))
  refine Lm rfl (Ln rfl (Lf rfl Tryz.runUnderlying258 rfl Tryz.sizeOf64 rfl (TL_k0 (e_store1 rfl rfl Tryz.sizeOf64 rfl (K0 .nil) rfl rfl rfl) ?_)))
  rintro _ _ _ - ⟨rfl, rfl⟩
  refine nSR (Lm rfl (Ln rfl (Lf rfl Tryz.runUnderlying258 rfl Tryz.sizeOf3 rfl (TL_k0 (e_store1 rfl rfl Tryz.sizeOf3 rfl (K0 .nil) rfl rfl rfl) ?_))))
  rintro _ _ _ - ⟨rfl, rfl⟩
  refine nR (Lm rfl (Lm rfl (Ln rfl (Lf rfl Tryz.runUnderlying258 rfl Tryz.sizeOf126 rfl (TL_k0 (e_store1 rfl rfl Tryz.sizeOf126 rfl (K0 .nil) rfl rfl rfl) ?_)))))
  rintro _ _ _ - ⟨rfl, rfl⟩
  refine TL_nil (E_end0 [_] rfl (.refl _) (K0 (K0 .nil)) (fun g' hl => ?_))
  exact rfl
theorem ct_bytesSeek (g : GW) (br : Nat) (cv : Value) (i : Nat) (hi : i ≤ 1000000000) (pr : Int) : Ct Tryz.prog g 249 [pV br, .int .i64 0, .int .i64 1] [blk br (.cells (brC cv i pr) 133)] (fun r _ H' => r = .tuple #[.int .i64 i, .nilIface] ∧ H' = [blk br (.cells (brC cv i (-1)) 133)]) := by
  refine CI Tryz.func249 Tryz.ntmps249 rfl fun F g0 hg0 => ?_
  refine SR (La rfl (La rfl (nSR (Lm rfl (Ln rfl (Lf rfl Tryz.runUnderlying133 rfl Tryz.sizeOf3 rfl (TL_k0 (e_store1 rfl rfl Tryz.sizeOf3 rfl (K0 .nil) rfl rfl rfl) ?_)))))))
  rintro _ _ _ - ⟨rfl, rfl⟩
  refine nSR (La rfl (nS (T_seq (SR (Lm rfl (nS (T_block (SR (Lp (p_eql rfl rfl) ?_)))))))))
  refine La rfl (nS (T_condD rfl (fun hc2 => ?_) (fun hc2 => ?_)))
  ·
    exact absurd hc2 (by decide)
  ·
    skip
    refine SR (Lp (p_eql rfl rfl) (La rfl (nS (T_condD rfl (fun hc3 => ?_) (fun hc3 => ?_)))))
    ·
      skip
      refine T_region (Lm rfl (Ln rfl (Lf rfl Tryz.runUnderlying133 rfl Tryz.sizeOf2 rfl (Lp (p_load rfl Tryz.isAgg2 (.head _) rfl) (Lm rfl ?_)))))
      refine Lp (p_add rfl rfl ((show IntKind.i64.wrap ((i : Int) + 0) = (i : Int) from by rw [wr64 (by omega) (by omega)]; omega))) ?_
      refine La rfl (TL_nil (E_block (E_seq (T_seq (SR (Lm rfl (Lp (p_lss rfl rfl) (nS (T_condD rfl (fun hc4 => ?_) (fun hc4 => ?_))))))))))
      ·
        omega
      ·
        skip
        refine kS (SR (Lm rfl (Lm rfl (Ln rfl (Lf rfl Tryz.runUnderlying133 rfl Tryz.sizeOf2 rfl (TL_k0 (e_store1 rfl rfl Tryz.sizeOf2 rfl (K0 .nil) rfl rfl rfl) ?_))))))
        rintro _ _ _ - ⟨rfl, rfl⟩
        refine nSR (Lm rfl (La rfl (La rfl (nr (E_ret2 [_] rfl (.refl _) rfl rfl (K0 (K0 .nil)) (fun g' hl => ?_))))))
        exact ⟨rfl, rfl⟩
    ·
      exact absurd rfl hc3
theorem ct_srReset (g : GW) (sr rb wb br : Nat) (cv bv bv2 : Value) (pr : Int) (hbv : Shp bv 4096) (hbv2 : Shp bv2 64) (t : TypeId) (v : Value) (ht : 167 ≠ t) :
    Ct Tryz.prog g 74 [pV sr, brV br] [blk sr (.cells (srC .nilIface (.iface t v) rb wb 0) 170), blk br (.cells (brC cv 0 pr) 133), blk rb (.cells (rbC bv .nilIface 0 0 .nilIface (-1) (-1)) 263), blk wb (.cells (bwC .nilIface bv2 0 .nilIface) 258)]
      (fun _ _ H' => H' = [blk sr (.cells (srC (brV br) (.iface t v) rb wb 0) 170), blk br (.cells (brC cv (0 : Nat) (-1)) 133), blk rb (.cells (rbC bv (brV br) 0 0 .nilIface (-1) (-1)) 263), blk wb (.cells (bwC .nilIface bv2 0 (.iface t v)) 258)]) := by
  refine CI Tryz.func74 Tryz.ntmps74 rfl fun F g0 hg0 => ?_
  refine SR (Lm rfl (Lm rfl (Ln rfl (Lf rfl Tryz.runUnderlying170 rfl Tryz.sizeOf113 rfl (TL_k0 (e_store1 rfl rfl Tryz.sizeOf113 rfl (K0 .nil) rfl rfl rfl) ?_)))))
  rintro _ _ _ - ⟨rfl, rfl⟩
  refine nS (T_seq (T_regionD 8 Tryz.mixed rfl Part.all (Dq 0 rfl (fun _ => p_move rfl) (Dq 1 rfl (fun _ => p_nilCheck rfl) (Dq 2 rfl (fun _ => p_fieldAddr rfl Tryz.runUnderlying170 rfl Tryz.sizeOf165 rfl) (Dp 3 rfl (p_load rfl Tryz.isAgg165 (.head _) rfl) (Dq 4 rfl (fun _ => p_move rfl) (Dq 5 rfl (fun _ => p_nilCheck rfl) (Dq 6 rfl (fun _ => p_fieldAddr rfl Tryz.runUnderlying170 rfl Tryz.sizeOf113 rfl) ?_)))))))))
  refine Dp 7 rfl (p_load rfl Tryz.isAgg113 (.head _) rfl) (DB rfl (e_call rfl (ct_brReset g0 rb bv .nilIface 4096 br (by omega) hbv (.inl rfl)) (K2 .nil)) ?_)
  rintro _ _ _ - ⟨_, rfl, rfl⟩
  refine TA_done (by kernel_rfl) (E_seq (T_seq (T_regionD 8 Tryz.mixed rfl Part.all (Dq 0 rfl (fun _ => p_move rfl) (Dq 1 rfl (fun _ => p_nilCheck rfl) (Dq 2 rfl (fun _ => p_fieldAddr rfl Tryz.runUnderlying170 rfl Tryz.sizeOf167 rfl) (Dp 3 rfl (p_load rfl Tryz.isAgg167 (.tail _ (.head _)) rfl) (Dq 4 rfl (fun _ => p_move rfl) (Dq 5 rfl (fun _ => p_nilCheck rfl) ?_)))))))))
  refine Dq 6 rfl (fun _ => p_fieldAddr rfl Tryz.runUnderlying170 rfl Tryz.sizeOf126 rfl) (Dp 7 rfl (p_load rfl Tryz.isAgg126 (.tail _ (.head _)) rfl) (DB rfl (e_call rfl (ct_bwReset g0 wb bv2 64 (by omega) hbv2 t v ht) (K3 .nil)) ?_))
  rintro _ _ _ - ⟨_, rfl, rfl⟩
  refine TA_done (by kernel_rfl) (E_seq (SR (Lm rfl (Ln rfl (Lf rfl Tryz.runUnderlying170 rfl Tryz.sizeOf2 rfl (TL_k0 (e_store1 rfl rfl Tryz.sizeOf2 rfl (K2 .nil) rfl rfl rfl) ?_))))))
  rintro _ _ _ - ⟨rfl, rfl⟩
  refine nSR (Lm rfl (Ln rfl (Lf rfl Tryz.runUnderlying170 rfl Tryz.sizeOf113 rfl (Lp (p_load rfl Tryz.isAgg113 (.head _) rfl) (Lp (p_assertI rfl (fun w => by kernel_rfl)) (Lm rfl (Lx rfl rfl (Lx rfl rfl (La rfl ?_)))))))))
  refine La rfl (nSR (Lm rfl (nS (T_condT rfl (T_region (Lm rfl (Lm rfl (Lk (e_invoke rfl (fun w => by kernel_rfl) rfl (ct_bytesSeek g0 br cv 0 (by omega) pr) (K3 .nil)) ?_))))))))
  rintro _ _ _ - ⟨_, rfl, ⟨rfl, rfl⟩⟩
  refine Lm rfl (Lx rfl rfl (Lx rfl rfl (Ln rfl (Lf rfl Tryz.runUnderlying170 rfl Tryz.sizeOf2 rfl (TL_k0 (e_store1 rfl rfl Tryz.sizeOf2 rfl (K1 .nil) rfl rfl rfl) ?_)))))
  rintro _ _ _ - ⟨rfl, rfl⟩
  refine TL_nil (E_end0 [_, _, _, _] rfl (.refl _) (K0 (K0 (K1 (K0 (K0 .nil))))) (fun g' hl => ?_))
  exact rfl
theorem ct_newSR (g : GW) (br : Nat) (cv : Value) (pr : Int) (t : TypeId) (v : Value) (ht : 167 ≠ t) :
    Ct Tryz.prog g 46 [brV br, .iface t v] [blk br (.cells (brC cv 0 pr) 133)]
      (fun r _ H' => ∃ (sr rb wb : Nat) (bv bv2 : Value) (bl bl2 : List UInt8), r = pV sr ∧ Shp bv 4096 ∧ Shp bv2 64 ∧ bl.length = 4096 ∧ bl2.length = 64 ∧ H' = [blk sr (.cells (srC (brV br) (.iface t v) rb wb 0) 170), blk br (.cells (brC cv (0 : Nat) (-1)) 133), blk rb (.cells (rbC bv (brV br) 0 0 .nilIface (-1) (-1)) 263), own bv 1 5 (bvs bl), blk wb (.cells (bwC .nilIface bv2 0 (.iface t v)) 258), own bv2 1 5 (bvs bl2)]) := by
  refine CI Tryz.func46 Tryz.ntmps46 rfl fun F g0 hg0 => ?_
  refine SR (La rfl (nSR (Lk (e_call rfl (ct_newReader0 g0) .nil) ?_)))
  rintro _ _ _ - ⟨_, rfl, ⟨rb, bv, bl, rfl, h1, h2, rfl⟩⟩
  refine Lk (e_call rfl (ct_newWriter g0) .nil) ?_
  rintro _ _ _ - ⟨_, rfl, ⟨wb, bv2, bl2, rfl, h3, h4, rfl⟩⟩
  refine Lm rfl (Lp (p_build (cells := srC .nilIface (.iface t v) rb wb 0) rfl (by kernel_rfl)) (Lk (e_box rfl rfl) ?_))
  rintro _ _ _ - ⟨c, rfl, rfl⟩
  refine La rfl (nSR (Lm rfl (Lm rfl (Lk (e_call rfl (ct_srReset g0 c rb wb br cv bv bv2 pr h1 h3 t v ht) (K0 (K4 (K2 (K0 .nil))))) ?_))))
  rintro _ _ _ - ⟨_, rfl, rfl⟩
  refine nSR (Lm rfl (La rfl (nr (E_ret1 [_, _, _, _, _, _] rfl (.refl _) rfl (K0 (K0 (K0 (K2 (K0 (K0 (K0 .nil))))))) (fun g' hl => ?_)))))
  exact ⟨c, rb, wb, bv, bv2, bl, bl2, rfl, h1, h3, h2, h4, rfl⟩
end Go.Proofs.YtolddodhmeaceaaGreatDoor
namespace Go.Hl
theorem Still.cell {g : GW} {b o : Nat} {cs : Array Value} {e : TypeId} {v : Value} (h : Still g (blk b (.cells cs e))) (hv : cs[o]? = some v) : Cell g b o v := by
  obtain ⟨h1, h2⟩ := h
  refine ⟨h2 b rfl, ?_⟩
  have hb : g.w.heap[b]? = some (.cells cs e) := h1
  simp only [World.cell?, hb, Option.isSome_none, Bool.false_eq_true, if_false]
  exact hv
theorem Still.many {g : GW} {L : List Atom} (h : Still g (Hl.many L)) : ∀ A ∈ L, Still g A := fun A hA => ⟨h.1.1 A hA, fun b hb => h.2 b ⟨A, hA, hb⟩⟩
end Go.Hl
namespace Go.Proofs.YtolddodhmeaceaaGreatDoor
open Go.Hl Go.Pk
def NoMw (w : Value) : Prop := ∃ t v, w = .iface t v ∧ t ≠ 173
theorem ct_multiRaw (g : GW) (ws : List Value) (hws : ∀ w ∈ ws, NoMw w) (hl : ws.length ≤ 100) (sv : Value) (hsv : Shp sv ws.length) (e : TypeId) :
    Ct Tryz.prog g 47 [sv] [own sv 1 e ws] (fun r _ H' => ∃ mw wsv, r = .iface 173 (pV mw) ∧ Shp wsv ws.length ∧ H' = [blk mw (.cells #[wsv] 176), own wsv 1 126 ws]) := by
  refine CI Tryz.func47 Tryz.ntmps47 rfl fun F g0 hg0 => ?_
  refine SR (La rfl (nSR (Lm rfl (Lp (p_len (hsv) rfl rfl Tryz.runUnderlying172) ?_))))
  refine Lk (e_make (l := 0) (c := ws.length) rfl rfl Tryz.runUnderlying172 Tryz.typeInfo126 rfl rfl rfl (by omega) (by show 16 * _ ≤ _; omega) (by omega)) ?_
  rintro _ _ _ - ⟨a, rfl, rfl⟩
  refine La rfl (nS (T_seq (SR (Lm rfl (Lp (p_len (hsv) rfl rfl Tryz.runUnderlying172) (Lm rfl (nS (T_block (T_loop (ι := Nat × Value) (fun x _ => x.1 ≤ ws.length ∧ Shp x.2 x.1) (fun x => [(3, x.2), (11, sv), (12, .int .i64 ws.length), (13, .int .i64 x.1)]) (fun x => [own sv 1 e ws, own x.2 1 126 (ws.take x.1), F]) (fun x => ws.length - x.1) ((0, _)) (fun g' hl => ⟨Nat.zero_le _, .inr ⟨a, 0, ws.length, Nat.zero_le _, rfl⟩⟩) (by repeat (first | exact SubL.nil | refine SubL.cons rfl ?_)) (K1 (K0 (K0 .nil))) ?_)))))))))
  rintro ⟨j, av⟩ gA hlgA ⟨hj, hav⟩
  try dsimp only
  try dsimp only at hj hav
  refine SR (Lp (p_lss rfl rfl) (nS (T_seq (T_condD rfl (fun hc3 => ?_) (fun hc3 => ?_)))))
  ·
    replace hc3 : j < ws.length := by omega
    obtain ⟨w, hwk⟩ := get_some hc3
    obtain ⟨t, v, rfl, hne⟩ := hws w (List.mem_of_getElem? hwk)
    refine kS (T_seq (T_block (SR (Lp (p_ix (hsv) (j := j) rfl rfl Tryz.runUnderlying172 Tryz.sizeOf126 (by omega) (by omega) rfl) ?_))))
    refine Lp (p_ldOwn rfl Tryz.isAgg126 (.head _) (by rw [Nat.mul_one]; exact hwk)) ?_
    refine La rfl (nSR (Lm rfl (Lp (p_assertT rfl Tryz.runUnderlying173 Tryz.zeroValue173 hne) (Lm rfl (Lx rfl rfl (Lx rfl rfl (La rfl (La rfl (nSR ?_)))))))))
    refine Lm rfl (nS (T_condF rfl (T_region (Lm rfl (Lm rfl (Lk (e_buildSlice rfl rfl rfl Tryz.runUnderlying172 Tryz.sizeOf126 Tryz.zeroValue126 rfl (by simp [Value.cells])) ?_))))))
    rintro _ _ _ - ⟨b4, rfl, rfl⟩
    refine Lk (e_append (by_ := 16) rfl rfl rfl rfl Tryz.runUnderlying172 Tryz.runUnderlying172 (.inr ⟨_, rfl⟩) Tryz.sizeOf126 Tryz.zeroValue126 rfl Tryz.typeInfo126 rfl (by decide) (by decide) (src_ownS rfl (.head _)) (by simp [flatC, Value.cells]; omega) (K2 .nil) (by intro u hu; simp [flatC, Value.cells] at hu; subst hu; rfl)) ?_
    rintro v2 _ _ - ⟨n_v2, hs_v2, hn_v2, rfl⟩
    refine La rfl (TL_nil (E_block (E_seq (T_region (Lp (p_add rfl rfl (wr64 (by omega) (by omega))) (Lm rfl (TL_nil ?_)))))))
    rw [show ws.take j ++ flatC [Value.iface t v] = ws.take (j + 1) from (take_snoc hwk).symm]
    refine EL (.refl _) ((j + 1, v2)) ?hm ?hI ((K2 (K0 (K1 .nil))))
    case hm => exact (by omega)
    case hI => exact (fun g' hl => ⟨by dsimp only; omega, by dsimp only; rw [show j + 1 = n_v2 from by have := hn_v2; simp [flatC, Value.cells] at this; omega]; exact hs_v2⟩)
  ·
    obtain rfl : j = ws.length := by omega
    refine T_exit (E_seq_exit (E_loop_exit (E_block_hit (E_seq (SR (Lm rfl ?_))))))
    refine Lp (p_build (cells := #[av]) rfl (by rcases hav with ⟨_, _, rfl, h, _⟩ | ⟨_, _, _, _, rfl⟩ <;> kernel_rfl)) ?_
    refine Lk (e_box rfl rfl) ?_
    rintro _ _ _ - ⟨m, rfl, rfl⟩
    refine Lp (p_mkIface rfl Tryz.runUnderlying173 (fun _ h => by cases h)) (La rfl (nr (E_ret1 [_, _] rfl hlgA rfl (K0 (K1 (K1 .nil))) (fun g' hl => ?_))))
    exact ⟨m, av, rfl, hav, by rw [List.take_length]; rfl⟩
theorem ct_multi (g : GW) (ws : List Value) (hws : ∀ w ∈ ws, NoMw w) (hl : ws.length ≤ 100) (sv : Value) (hsv : Shp sv ws.length) (e : TypeId) :
    Ct Tryz.prog g 47 [sv] [own sv 1 e ws] (fun r g' H' => ∃ mw wsv, r = .iface 173 (pV mw) ∧ Cell g' mw 0 wsv ∧ Shp wsv ws.length ∧ Rd g' wsv ws ∧ H' = []) := by
  have h1 : Ct Tryz.prog g 47 [sv] [own sv 1 e ws] (fun r _ H' => ∃ mw wsv, r = .iface 173 (pV mw) ∧ Shp wsv ws.length ∧ H' = [Hl.many [blk mw (.cells #[wsv] 176), own wsv 1 126 ws]]) :=
    (ct_multiRaw g ws hws hl sv hsv e).conv fun v g' H' F _ hR hs => by
      obtain ⟨mw, wsv, h1, h2, rfl⟩ := hR
      exact ⟨_, ⟨mw, wsv, h1, h2, rfl⟩, Sat.foldAt (pre := []) (K := [blk mw (.cells #[wsv] 176), own wsv 1 126 ws]) (post := []) hs⟩
  refine h1.freeze fun v g' H' hR => ?_
  obtain ⟨mw, wsv, h1, h2, rfl⟩ := hR
  refine ⟨_, [], rfl, fun I hI hd hh => ?_⟩
  have hst : Still ⟨g'.w, I⟩ (Hl.many [blk mw (.cells #[wsv] 176), own wsv 1 126 ws]) := ⟨hh, hd⟩
  exact ⟨mw, wsv, h1, (hst.many (blk mw (.cells #[wsv] 176)) (by simp)).cell rfl, h2, (hst.many (own wsv 1 126 ws) (by simp)).rd, rfl⟩
abbrev hashV (hb : Nat) : Value := .iface 162 (pV hb)
theorem mw_two {g : GW} {cb hb k : Nat} {wv : Value} (hk : [crcV cb, hashV hb][k]? = some wv) : WrAt Tryz.prog g k wv (Q2 (SkCrc cb) (SkHash hb)) := by
  match k, hk with
  | 0, h => injection h with h; subst h; exact (wr_crc g cb).q2a
  | 1, h => injection h with h; subst h; exact (wr_hash g hb).q2b
theorem ct_NewScannerRaw (g : GW) (b : Nat) (cv : Value) (pr : Int) :
    Ct Tryz.prog g 23 [brV b] [blk b (.cells (brC cv 0 pr) 133)]
      (fun r g' H' => ∃ (sn sr rb wb cb hb mw : Nat) (bv bv2 : Value) (bl bl2 : List UInt8), r = pV sn ∧ Mw g' mw [crcV cb, hashV hb] (Q2 (SkCrc cb) (SkHash hb)) ∧ Shp bv 4096 ∧ Shp bv2 64 ∧ bl.length = 4096 ∧ bl2.length = 64 ∧
        H' = [blk sn (.cells (scnC sr (crcV cb) (hashV hb) (.pointer none) 0 0 true) 131), blk sr (.cells (srC (brV b) (.iface 173 (pV mw)) rb wb 0) 170), blk b (.cells (brC cv (0 : Nat) (-1)) 133), blk rb (.cells (rbC bv (brV b) 0 0 .nilIface (-1) (-1)) 263), own bv 1 5 (bvs bl), blk wb (.cells (bwC .nilIface bv2 0 (.iface 173 (pV mw))) 258), own bv2 1 5 (bvs bl2), blk cb (.cells (crcC 0) 119)] ++ hashA hb (.slice none 0 0) []) := by
  refine CI Tryz.func23 Tryz.ntmps23 rfl fun F g0 hg0 => ?_
  refine SR (La rfl (nSR (Lm rfl (Lp (p_assertI rfl (fun w => by kernel_rfl)) (Lm rfl (Lx rfl rfl (Lx rfl rfl (La rfl (La rfl ?_)))))))))
  refine nSR (Lp (p_build (cells := crcC 0) rfl (by kernel_rfl)) (Lk (e_box rfl rfl) ?_))
  rintro _ _ _ - ⟨c, rfl, rfl⟩
  refine La rfl (nSR (Lk (e_call rfl (ct_hashNew g0) .nil) ?_))
  rintro _ _ _ - ⟨_, rfl, ⟨hb, rfl, rfl⟩⟩
  refine La rfl (nSR (Lm rfl (Lm rfl (Lp (p_mkIface rfl Tryz.runUnderlying117 (fun _ h => by cases h)) (Lm rfl (Lk (e_buildSlice rfl rfl rfl Tryz.runUnderlying172 Tryz.sizeOf126 Tryz.zeroValue126 rfl (by simp [Value.cells])) ?_))))))
  rintro _ _ _ - ⟨s, rfl, rfl⟩
  refine LE (e_call rfl (ct_multi g0 [crcV c, hashV hb] (by intro w hw; simp at hw; rcases hw with rfl | rfl; exact ⟨_, _, rfl, by decide⟩; exact ⟨_, _, rfl, by decide⟩) (show 2 ≤ 100 from by decide) _ (.inr ⟨s, 0, 2, Nat.le_refl _, rfl⟩) _) (K0 .nil)) ?_
  rintro _ gB _ hlgB ⟨_, rfl, ⟨mw, wsv, rfl, hm1, hm2, hm3, rfl⟩⟩
  have hMw : Mw gB mw [crcV c, hashV hb] (Q2 (SkCrc c) (SkHash hb)) := ⟨⟨wsv, hm1, hm2, hm3⟩, fun k wv hk => mw_two hk⟩
  refine Lk (e_call rfl (ct_newSR gB b cv pr _ _ (by decide)) (K3 .nil)) ?_
  rintro _ _ _ - ⟨_, rfl, ⟨sr, rb, wb, bv, bv2, bl, bl2, rfl, e1, e2, e3, e4, rfl⟩⟩
  refine Lm rfl (Lp (p_mkIface rfl Tryz.runUnderlying117 (fun _ h => by cases h)) (Lm rfl (Lm rfl (Lp (p_build (cells := scnC sr (crcV c) (hashV hb) (.pointer none) 0 0 true) rfl (by kernel_rfl)) (Lk (e_box rfl rfl) ?_)))))
  rintro _ _ _ - ⟨n, rfl, rfl⟩
  refine La rfl (nr (E_ret1 [_, _, _, _, _, _, _, _, _, _] rfl hlgB rfl (K0 (K0 (K0 (K0 (K0 (K0 (K0 (K2 (K0 (K0 (K0 .nil))))))))))) (fun g' hl => ?_)))
  exact ⟨n, sr, rb, wb, c, hb, mw, bv, bv2, bl, bl2, rfl, hMw.mono hl, e1, e2, e3, e4, rfl⟩
theorem ct_NewScanner (g : GW) (eE uE : Nat × Nat) (hE : Env g eE uE) (b : Nat) (cv : Value) (C : List UInt8) (hcv : Bytes g cv C) (hC : C.length ≤ 900000000) (pr : Int) :
    Ct Tryz.prog g 23 [brV b] [blk b (.cells (brC cv 0 pr) 133)]
      (fun r g' H' => ∃ (x : Fx) (s : St) (sn cb hb : Nat), r = pV sn ∧ FxOk g' x ∧ x.C = C ∧ x.Sk = skC cb hb ∧ StOk x s 0 ∧ H' = scA x s 0 sn (crcV cb) (hashV hb) (.pointer none) 0 0 true) := by
  refine (ct_NewScannerRaw g b cv pr).conv fun v g' H' F hl hR hs => ?_
  obtain ⟨sn, sr, rb, wb, cb, hb, mw, bv, bv2, bl, bl2, h1, h2, h3, h4, h5, h6, rfl⟩ := hR
  have hs1 := Sat.foldAt (pre := [blk sn (.cells (scnC sr (crcV cb) (hashV hb) (.pointer none) 0 0 true) 131), blk sr (.cells (srC (brV b) (.iface 173 (pV mw)) rb wb 0) 170), blk b (.cells (brC cv (0 : Nat) (-1)) 133), blk rb (.cells (rbC bv (brV b) 0 0 .nilIface (-1) (-1)) 263), own bv 1 5 (bvs bl), blk wb (.cells (bwC .nilIface bv2 0 (.iface 173 (pV mw))) 258), own bv2 1 5 (bvs bl2), blk cb (.cells (crcC 0) 119)]) (K := hashA hb (.slice none 0 0) []) (post := []) hs
  have hs2 := Sat.foldAt (pre := [blk sn (.cells (scnC sr (crcV cb) (hashV hb) (.pointer none) 0 0 true) 131), blk sr (.cells (srC (brV b) (.iface 173 (pV mw)) rb wb 0) 170), blk b (.cells (brC cv (0 : Nat) (-1)) 133), blk rb (.cells (rbC bv (brV b) 0 0 .nilIface (-1) (-1)) 263), own bv 1 5 (bvs bl), blk wb (.cells (bwC .nilIface bv2 0 (.iface 173 (pV mw))) 258), own bv2 1 5 (bvs bl2)]) (K := [blk cb (.cells (crcC 0) 119), Hl.many (hashA hb (.slice none 0 0) [])]) (post := []) hs1
  refine ⟨_, ⟨⟨sr, b, rb, wb, cv, bv, bv2, .iface 173 (pV mw), C, skC cb hb, eE, uE⟩, ⟨⟨0, -1, bl, 0, 0, -1, -1⟩, ⟨bl2, 0, 0, Hl.many [blk cb (.cells (crcC 0) 119), Hl.many (hashA hb (.slice none 0 0) [])]⟩⟩, sn, cb, hb, h1, ?_, rfl, rfl, ?_, rfl⟩, hs2⟩
  · exact ⟨hE.mono hl, hcv.mono hl, hC, h3, h4, wr_mw2 h2, ⟨_, _, rfl⟩⟩
  · exact ⟨⟨h5, Nat.le_refl _, Nat.zero_le _, rfl, Nat.zero_le _, rfl⟩, ⟨h6, Nat.zero_le _, ⟨_, _, rfl, ⟨0, rfl⟩, ⟨_, [], rfl, rfl⟩⟩, rfl⟩⟩
end Go.Proofs.YtolddodhmeaceaaGreatDoor
namespace Go.Hl
variable {P : Program}
section
variable {d : Option Nat} {ty : TypeId} {ps : String} {af : Array Edge} {gd : Option (Nat × Bool)} {g : GW} {L : List (Nat × Value)} {H : List Atom}
/-- v[:k] up to its room. -/
theorem p_slCap {t x elem sz hi k'} {bl o n cap k : Nat} {j : Int} (ex : ev L x = some (.slice (some ⟨bl, o, none⟩) n cap)) (hu : ∀ w, (underlying t).run P w = .ok (.slice elem) w) (hz : ∀ w, (sizeOf elem).run P w = .ok sz w)
    (eh : ev L hi = some (.int k' j)) (hj : j = (k : Int)) (hk : k ≤ cap) : OpP P ⟨d, .slice t x none (some hi) none, ty, ps, af, gd⟩ g L H (.slice (some ⟨bl, o, none⟩) k cap) :=
  fun ac nn D hkn g' hl _ => by
    subst hj
    simp only [execOp, hkn.eval ex, Option.map_none, Option.map_some, hkn.eval eh]
    refine run_v ?_
    unfold Instr.sliceAt
    rw [run_bind_ok (hu _)]
    simp only []
    unfold Instr.slice
    rw [run_bind_ok (hu _)]
    simp only []
    have hbd : (Instr.sliceBounds true n cap none (some (.int k' (k : Int))) none).run P g'.w = .ok (0, k, cap) g'.w := by
      unfold Instr.sliceBounds
      simp [sliceBound_ok (P := P) hk]
    rw [run_bind_ok hbd]
    simp only [Sem.run_bind, hz, Result.andThen_ok, Sem.run_pure]
    simp
    intro _; rfl
theorem zeroCells_one (zc : Value) (n : Nat) : Builtin.zeroCells #[zc] n = Array.replicate n zc := by
  apply Array.ext
  · simp [Builtin.zeroCells]
  · intro j h1 h2
    simp [Builtin.zeroCells, Nat.mod_one]
theorem rep_rep (zc : Value) (a b : Nat) : Array.replicate a zc ++ Array.replicate b zc = Array.replicate (a + b) zc := by
  rw [Array.replicate_append_replicate]
/-- append([]T(nil), make([]T, n)...) of elements of one cell. -/
theorem e_appendZ {so xo at_ sT xT e z i kn zc k} {n : Nat} (es : ev L so = some (.slice none 0 0)) (ex : ev L xo = some (.int k (n : Nat))) (hat : at_ = #[sT, xT]) (hu : P.underlying sT = some (.slice e)) (hux : P.underlying xT = some (.int kn))
    (hi : P.info? e = some i) (hz : i.zero = some z) (hz1 : z.cells = #[zc]) (hs1 : i.size = 1) (h0 : 0 < n) (hb : n * i.bytes ≤ 281474976710656) (h63 : n ≤ 1000000000000) :
    Op1 P ⟨d, .call ⟨.builtin .append, #[so, xo], at_⟩, ty, ps, af, gd⟩ g L H (fun u g' H' => ∃ b cap, u = .slice (some ⟨b, 0, none⟩) n cap ∧ n ≤ cap ∧ cap ≤ 9223372036854775807 ∧ H' = blk b (.cells (Array.replicate cap zc) e) :: H) :=
  Op1.of_run fun a nn D hk g' hl hsat => by
    have hr := Lib.run_append_nil_zeros (P := P) g'.w sT xT ty e i z k kn hu hux hi hz n h0 (by omega) (by omega) hb
    have hge : n ≤ grownCap g'.w n 0 e := by simp [grownCap, Question.cut]
    have hle : grownCap g'.w n 0 e ≤ maxLen := by
      have hlt := Nat.mod_lt (g'.w.tape g'.w.drawn (.appendCap n 0 e)) (show 0 < 2 ^ 63 - n by omega)
      simp only [grownCap, Question.cut, maxLen]; omega
    obtain ⟨h1, h2⟩ := hsat.new (A := blk g'.w.heap.size (.cells (Array.replicate (grownCap g'.w n 0 e) zc) e)) (g'.w.drew.alloc (.cells (Builtin.zeroCells z.cells n ++ Builtin.zeroCells z.cells (grownCap g'.w n 0 e - n)) e)) rfl rfl (by show g'.w.heap.size ≤ (g'.w.heap.push _).size; simp)
      (fun b hb => by show (g'.w.heap.push _)[b]? = _; rw [Array.getElem?_push, if_neg (by omega)])
      (by
        show (g'.w.heap.push _)[g'.w.heap.size]? = _
        rw [Array.getElem?_push, if_pos rfl, hz1, zeroCells_one, zeroCells_one, rep_rep, Nat.add_sub_cancel' hge])
      (fun b hb => by cases hb; exact ⟨by show _ < (g'.w.heap.push _).size; simp, Nat.le_refl _⟩)
    refine ⟨.slice (some ⟨g'.w.heap.size, 0, none⟩) n (grownCap g'.w n 0 e), _, g'.I, _, ?_, h2, h1, _, _, rfl, hge, hle, rfl⟩
    subst hat
    simp only [execOp, resolve, invoke, builtin, Sem.run_bind, Sem.run_pure, Result.andThen_ok, List.map_toArray, List.map_cons, List.map_nil, hk.eval es, hk.eval ex, hr]
/-- make([]T, l, c) of elements of one cell: the block. -/
theorem e_makeB {t e i z x y kl kc l c zc} (ex : ev L x = some (.int kl (l : Nat))) (ey : ev L y = some (.int kc (c : Nat))) (ht : ∀ w, (underlying t).run P w = .ok (.slice e) w) (hi : ∀ w, (typeInfo e).run P w = .ok i w)
    (hz : i.zero = some z) (hz1 : z.cells = #[zc]) (hs1 : i.size = 1) (hlc : l ≤ c) (hb : i.bytes * c ≤ 281474976710656) (h63 : c ≤ 9223372036854775807) :
    Op1 P ⟨d, .makeSlice t x y, ty, ps, af, gd⟩ g L H (fun u g' H' => ∃ b, u = .slice (some ⟨b, 0, none⟩) l c ∧ H' = blk b (.cells (Array.replicate c zc) e) :: H) :=
  Op1.of_run fun a n D hk g' hl hsat => by
    have hi' : P.info? e = some i := by
      have h0 := hi default
      unfold typeInfo at h0
      cases e' : P.info? e with
      | some d => simp [e'] at h0; rw [h0]
      | none => simp [e'] at h0
    have hb' : (i.bytes : Int) * (c : Int) ≤ 281474976710656 := by
      have h : ((i.bytes * c : Nat) : Int) ≤ 281474976710656 := by omega
      rwa [Int.natCast_mul] at h
    have hr := run_make (P := P) g'.w t e i z (und_of ht) hi' hz kl kc l c (by omega) (by omega) hb' (by omega)
    rw [Int.toNat_natCast, Int.toNat_natCast, hs1, Nat.mul_one, hz1] at hr
    have hmc : madeCells #[zc] c = Array.replicate c zc := by
      apply Array.ext
      · simp [madeCells]
      · intro j h1 h2
        simp [madeCells, Nat.mod_one]
    rw [hmc] at hr
    obtain ⟨h1, h2⟩ := hsat.new (A := blk g'.w.heap.size (.cells (Array.replicate c zc) e)) ({ g'.w with heap := g'.w.heap.push (.cells (Array.replicate c zc) e) }) rfl rfl (by simp)
      (fun b hb => by simp only [Array.getElem?_push]; rw [if_neg (by omega)])
      (by show (g'.w.heap.push _)[g'.w.heap.size]? = _; simp)
      (fun b hb => by cases hb; exact ⟨by simp, Nat.le_refl _⟩)
    refine ⟨_, _, g'.I, _, ?_, h2, h1, _, rfl, rfl⟩
    simp only [execOp, hk.eval ex, hk.eval ey]
    exact run_v hr
end
theorem rep_blk (c : Nat) : Array.replicate c (Value.int .u8 0) = (bvs (List.replicate c 0)).toArray := by
  rw [← List.toArray_replicate]; congr 1; simp [bvs, bv]
end Go.Hl
namespace Go.Proofs.YtolddodhmeaceaaGreatDoor
open Go.Hl Go.Pk
theorem cd_catch (g : GW) : CtD Tryz.prog g 172 [] [] (fun _ H' => H' = []) := by
  refine ⟨⟨_, Tryz.func172, by kernel_rfl, by kernel_rfl⟩, fun F g' hl hs => ?_⟩
  have hnn : ∀ w, (binOp .neq 20 .nilIface .nilIface).run Tryz.prog w = .ok (.bool false) w := fun w => Lib.run_neq_nil_nil w Tryz.underlying20
  have h : CallsD Tryz.prog 172 #[] .returning g'.w fun e u' w' => e = .returned (.tuple #[]) ∧ u' = .returning ∧ w' = g'.w := by
    refine callsD_of_wpS Tryz.func172 rfl fun c₀ cs hu => ?_
    apply wpS_seq
    apply wpS_region
    simp [wpOpsS, go_sem, recoverD, hu, hnn, Tryz.ntmps172, Exit.thenS]
    refine wpS_cond (t := false) (by simp [Act.eval, Array.replicate]) ?_
    simp only [Bool.false_eq_true, if_false]
    refine wpS_of_wp (wp_skip ?_)
    cases c₀
    simp_all [bodyPostS, results, (show Tryz.f172.results = #[] from rfl)]
  refine h.mono ?_
  rintro e u w' ⟨rfl, rfl, rfl⟩
  exact ⟨rfl, _, g'.I, [], rfl, .refl _, rfl, hs⟩
abbrev rowA (g : Nat) (full : List UInt8) : Atom := blk g (.cells (bvs full).toArray 5)
theorem Bf.zero {v : Value} (hs : Shp v 0) (A : List UInt8 → Atom) (hd : ∀ xs ys, (A xs).dom = (A ys).dom) : Bf v 0 A := ⟨hs, hd, fun _ _ _ h _ => absurd h (by omega)⟩
theorem row_cat (g : Nat) (a b c : List UInt8) : blk g (.cells ((bvs a).toArray ++ (bvs b).toArray ++ (bvs c).toArray) 5) = rowA g (a ++ b ++ c) := by
  unfold rowA; rw [bvs_append, bvs_append]; simp
theorem bf_tail {g k cap m : Nat} {full : List UInt8} (hm : m ≤ k) (hk : k ≤ cap) (hl : full.length = cap) : Bf (sl (.slice (some ⟨g, 0, none⟩) k cap) m k 1) (k - m) (fun ys => rowA g (full.take m ++ ys ++ full.drop k)) := by
  by_cases h : m = k
  · subst h
    rw [Nat.sub_self]
    refine Bf.zero ?_ _ (fun _ _ => rfl)
    have := (show Shp (.slice (some ⟨g, 0, none⟩) m cap) m from .inr ⟨g, 0, cap, hk, rfl⟩).sl (sz := 1) (Nat.le_refl m) (Nat.le_refl m)
    rwa [Nat.sub_self] at this
  · have h1 := Bf.mid (b := g) (e := 5) (m := k - m) (cap := cap - m) (bvs (full.take m)).toArray (bvs (full.drop k)).toArray (by omega)
    have e1 : (bvs (full.take m)).toArray.size = m := by simp [bvs_length]; omega
    rw [e1] at h1
    rw [sl_some, if_neg (by omega), Nat.zero_add, Nat.mul_one]
    have e2 : (fun xs => blk g (.cells ((bvs (full.take m)).toArray ++ (bvs xs).toArray ++ (bvs (full.drop k)).toArray) 5)) = (fun ys => rowA g (full.take m ++ ys ++ full.drop k)) := by
      funext ys; exact row_cat _ _ _ _
    rw [e2] at h1
    exact h1
theorem bf_head {g k cap : Nat} {full : List UInt8} (hk : k ≤ cap) : Bf (.slice (some ⟨g, 0, none⟩) k cap) k (fun ys => rowA g (ys ++ full.drop k)) := by
  have h1 := Bf.mid (b := g) (e := 5) (m := k) (cap := cap) #[] (bvs (full.drop k)).toArray hk
  have e2 : (fun xs => blk g (.cells (#[] ++ (bvs xs).toArray ++ (bvs (full.drop k)).toArray) 5)) = (fun ys => rowA g (ys ++ full.drop k)) := by
    funext ys; exact row_cat g [] ys (full.drop k)
  rw [e2] at h1
  exact h1
theorem row_take (g k : Nat) (full : List UInt8) : rowA g full = rowA g (full.take k ++ full.drop k) := by rw [List.take_append_drop]
theorem ct_growSlice (g : GW) (b m cap n : Nat) (full : List UInt8) (hl : full.length = cap) (hm : m ≤ cap) (hn : 0 < n) (hcn : cap < m + n) (hb : m + n ≤ 1000000000) :
    Ct Tryz.prog g 157 [.slice (some ⟨b, 0, none⟩) m cap, .int .i64 n] [rowA b full] (fun r _ H' => ∃ b2 cap2 full2, r = .slice (some ⟨b2, 0, none⟩) m cap2 ∧ m + n ≤ cap2 ∧ cap2 ≤ 9223372036854775807 ∧ full2.length = cap2 ∧ full2.take m = full.take m ∧ H' = [rowA b full, rowA b2 full2]) := by
  refine Ct_introD Tryz.func157 rfl (by kernel_rfl) Tryz.ntmps157 rfl ?_
  intro F g0 hg0
  refine SR (La rfl (nSR (TL_defer rfl (nSR (Lm rfl (Lp (p_lenSl rfl rfl Tryz.runUnderlying25) (Lm rfl ?_)))))))
  refine Lp (p_add rfl rfl ((show IntKind.i64.wrap ((m : Int) + (n : Int)) = ((m + n : Nat) : Int) from by rw [wr64 (by omega) (by omega)]; omega))) ?_
  refine La rfl (nS (T_cut (ι := Nat) (fun c _ => m + n ≤ c ∧ c ≤ 3000000000) (fun c => [(0, .slice (some ⟨b, 0, none⟩) m cap), (5, .int .i64 c)]) (fun _ => [rowA b full, F]) ?_ ?_))
  ·
    refine SR (Lm rfl (Lm rfl (Lp (p_cap rfl rfl Tryz.runUnderlying25) ?_)))
    refine Lp (p_mul rfl rfl ((show IntKind.i64.wrap (2 * (cap : Int)) = ((2 * cap : Nat) : Int) from by rw [wr64 (by omega) (by omega)]; omega))) ?_
    refine Lp (p_lss rfl rfl) (nS (T_condD rfl (fun hc1 => ?_) (fun hc1 => ?_)))
    ·
      skip
      refine T_region (Lm rfl (Lp (p_cap rfl rfl Tryz.runUnderlying25) ?_))
      refine Lp (p_mul rfl rfl ((show IntKind.i64.wrap (2 * (cap : Int)) = ((2 * cap : Nat) : Int) from by rw [wr64 (by omega) (by omega)]; omega))) ?_
      refine La rfl (TL_nil (EC (.refl _) (2 * cap) ?hI (K0 (K0 .nil))))
      case hI => intro g' hl; exact ⟨by omega, by omega⟩
    ·
      skip
      refine T_skip (EC (.refl _) (m + n) ?hI (K0 (K0 .nil)))
      case hI => intro g' hl; exact ⟨Nat.le_refl _, by omega⟩
  ·
    rintro c gC hlgC ⟨hc1, hc2⟩
    refine SR (Lm rfl ?_)
    refine Lk (e_appendZ rfl rfl rfl Tryz.underlying25 Tryz.underlying3 (info_of Tryz.typeInfo5) rfl rfl rfl (by omega) (by show _ * 1 ≤ _; omega) (by omega)) ?_
    rintro _ _ _ - ⟨d, cap_d, rfl, hge_d, hle_d, rfl⟩
    refine La rfl (nSR (Lm rfl (Lm rfl ?_)))
    rw [rep_blk]
    have hz : (List.replicate cap_d (0 : UInt8)).length = cap_d := List.length_replicate
    obtain ⟨z, hze⟩ : ∃ z, z = List.replicate cap_d (0 : UInt8) := ⟨_, rfl⟩
    rw [← hze] at hz ⊢
    rw [show blk d (.cells (bvs z).toArray 5) = rowA d (z.take c ++ z.drop c) from row_take d c z, show rowA b full = rowA b (full.take m ++ full.drop m) from row_take b m full]
    have htm : (full.take m).length = m := by { rw [List.length_take]; omega }
    refine Lk (e_copyB (A := fun ys => rowA d (ys ++ z.drop c)) rfl rfl rfl Tryz.runUnderlying25 Tryz.sizeOf5 (src_bf (bf_head hm) htm (.tail _ (.head _))) (bf_head hge_d) (by rw [List.length_take]; omega) (K0 .nil)) ?_
    rintro _ _ _ - ⟨rfl, rfl⟩
    refine La rfl (nSR (Lm rfl (Lm rfl (Lp (p_slCap (k := m) rfl Tryz.runUnderlying25 Tryz.sizeOf5 rfl (by omega) (by omega)) (La rfl (nr (E_pop (cd_catch _) .nil ?_)))))))
    rintro gp5 _ hlgp5 rfl
    refine E_retVD [_, _] rfl (hlgC.trans hlgp5) (.cons (.tmp rfl) .nil) (K1 (K0 (K0 .nil))) (fun g' hl => ?_)
    refine ⟨d, cap_d, _, rfl, by omega, hle_d, ?_, ?_, by rw [List.take_append_drop]⟩
    · simp only [List.length_append, List.length_take, List.length_drop]; omega
    · rw [show min m c = m from Nat.min_eq_left (by omega), List.take_of_length_le (Nat.le_of_eq htm), List.append_assoc, List.take_left' htm]
end Go.Proofs.YtolddodhmeaceaaGreatDoor
namespace Go.Proofs.YtolddodhmeaceaaGreatDoor
open Go.Hl Go.Pk
abbrev rsV (r m cap : Nat) : Value := .slice (some ⟨r, 0, none⟩) m cap
abbrev nilV : Value := .slice none 0 0
abbrev bufC (v : Value) : Array Value := #[v, .int .i64 0, .int .i8 0]
abbrev bufB (b : Nat) (v : Value) : Atom := blk b (.cells (bufC v) 73)
theorem ct_growSliceN (g : GW) (n : Nat) (hn : 0 < n) (hb : n ≤ 1000000000) :
    Ct Tryz.prog g 157 [nilV, .int .i64 n] [] (fun r _ H' => ∃ b2 full2, r = rsV b2 0 full2.length ∧ n ≤ full2.length ∧ full2.length ≤ 9223372036854775807 ∧ H' = [rowA b2 full2]) := by
  refine Ct_introD Tryz.func157 rfl (by kernel_rfl) Tryz.ntmps157 rfl ?_
  intro F g0 hg0
  refine SR (La rfl (nSR (TL_defer rfl (nSR (Lm rfl (Lp (p_lenSl rfl rfl Tryz.runUnderlying25) (Lm rfl ?_)))))))
  refine Lp (p_add rfl rfl ((show IntKind.i64.wrap (((0 : Nat) : Int) + (n : Int)) = (n : Int) from by rw [wr64 (by omega) (by omega)]; omega))) ?_
  refine La rfl (nS (T_seq (SR (Lm rfl (Lm rfl (Lp (p_cap rfl rfl Tryz.runUnderlying25) (Lp (p_mul rfl rfl ((show IntKind.i64.wrap (2 * ((0 : Nat) : Int)) = 0 from rfl))) (Lp (p_lss rfl rfl) (nS (T_condD rfl (fun hc1 => ?_) (fun hc1 => ?_)))))))))))
  ·
    exact absurd hc1 (by omega)
  ·
    skip
    refine kS (SR (Lm rfl ?_))
    refine Lk (e_appendZ rfl rfl rfl Tryz.underlying25 Tryz.underlying3 (info_of Tryz.typeInfo5) rfl rfl rfl (by omega) (by show _ * 1 ≤ _; omega) (by omega)) ?_
    rintro _ _ _ - ⟨d, cap_d, rfl, hge_d, hle_d, rfl⟩
    refine La rfl (nSR (Lm rfl (Lm rfl ?_)))
    rw [rep_blk]
    have hz : (List.replicate cap_d (0 : UInt8)).length = cap_d := List.length_replicate
    obtain ⟨z, hze⟩ : ∃ z, z = List.replicate cap_d (0 : UInt8) := ⟨_, rfl⟩
    rw [← hze] at hz ⊢
    rw [show blk d (.cells (bvs z).toArray 5) = rowA d (z.take n ++ z.drop n) from row_take d n z]
    refine Lk (e_copyB (A := fun ys => rowA d (ys ++ z.drop n)) rfl rfl rfl Tryz.runUnderlying25 Tryz.sizeOf5 ((show Src Tryz.prog _ _ nilV 1 0 (bvs []) from src_nil)) (bf_head hge_d) (by rw [List.length_take]; omega) (K0 .nil)) ?_
    rintro _ _ _ - ⟨rfl, rfl⟩
    refine La rfl (nSR (Lm rfl (Lm rfl (Lp (p_slCap (k := 0) rfl Tryz.runUnderlying25 Tryz.sizeOf5 rfl (by omega) (by omega)) (La rfl (nr (E_pop (cd_catch _) .nil ?_)))))))
    rintro gp4 _ hlgp4 rfl
    refine E_retVD [_] rfl hlgp4 (.cons (.tmp rfl) .nil) (K0 (K0 .nil)) (fun g' hl => ?_)
    have hzl : (([] : List UInt8).take (min 0 n) ++ (z.take n).drop (min 0 n) ++ z.drop n).length = cap_d := by { simp only [List.length_append, List.length_take, List.length_drop, List.length_nil]; omega }
    exact ⟨d, _, by rw [hzl]; rfl, by rw [hzl]; omega, by rw [hzl]; exact hle_d, rfl⟩
theorem ct_tryS (g : GW) (b r m n : Nat) (full : List UInt8) (hm : m ≤ full.length) (hl : full.length ≤ 9223372036854775807) (hb : m + n ≤ 1000000000) :
    Ct Tryz.prog g 151 [pV b, .int .i64 n] [bufB b (rsV r m full.length), rowA r full]
      (fun v _ H' => ∃ t : Bool, (t = true ↔ m + n ≤ full.length) ∧ v = .tuple #[.int .i64 ((bif t then m else 0 : Nat) : Int), .bool t] ∧ H' = [bufB b (rsV r (bif t then m + n else m) full.length), rowA r full]) := by
  refine CI Tryz.func151 Tryz.ntmps151 rfl fun F g0 hg0 => ?_
  refine SR (La rfl (La rfl (nS (T_seq (SR (Lm rfl (Ln rfl (Lf rfl Tryz.runUnderlying73 rfl Tryz.sizeOf25 rfl (Lp (p_load rfl Tryz.isAgg25 (.head _) rfl) ?_)))))))))
  refine Lp (p_len (.some _ _ _ _ hm) rfl rfl Tryz.runUnderlying25) (La rfl (nSR (Lm rfl (Lm rfl (Ln rfl (Lf rfl Tryz.runUnderlying73 rfl Tryz.sizeOf25 rfl (Lp (p_load rfl Tryz.isAgg25 (.head _) rfl) (Lp (p_cap rfl rfl Tryz.runUnderlying25) (Lm rfl ?_)))))))))
  refine Lp (p_sub rfl rfl (wr64 (by omega) (by omega))) (Lp (p_leq rfl rfl) (nS (T_condD rfl (fun hc1 => ?_) (fun hc1 => ?_))))
  ·
    refine SR (Lm rfl (Lm rfl (Ln rfl (Lf rfl Tryz.runUnderlying73 rfl Tryz.sizeOf25 rfl (Lp (p_load rfl Tryz.isAgg25 (.head _) rfl) (Lm rfl (Lm rfl ?_)))))))
    refine Lp (p_add rfl rfl ((show IntKind.i64.wrap ((m : Int) + (n : Int)) = ((m + n : Nat) : Int) from by rw [wr64 (by omega) (by omega)]; omega))) ?_
    refine Lp (p_slCap (k := m + n) rfl Tryz.runUnderlying25 Tryz.sizeOf5 rfl rfl (by omega)) (Ln rfl (Lf rfl Tryz.runUnderlying73 rfl Tryz.sizeOf25 rfl (TL_k0 (e_store1 rfl rfl Tryz.sizeOf25 rfl (K0 .nil) rfl rfl rfl) ?_)))
    rintro _ _ _ - ⟨rfl, rfl⟩
    refine nSR (Lm rfl (La rfl (La rfl (nr (E_seq_ret (E_ret2 [_, _] rfl (.refl _) rfl rfl (K0 (K0 (K0 .nil))) (fun g' hl => ?_)))))))
    exact ⟨true, ⟨fun _ => by omega, fun _ => rfl⟩, rfl, rfl⟩
  ·
    refine kS (SR (La rfl (La rfl (nr (E_ret2 [_, _] rfl (.refl _) rfl rfl (K0 (K0 (K0 .nil))) (fun g' hl => ?_))))))
    exact ⟨false, ⟨fun h => (by cases h), fun h => by omega⟩, rfl, rfl⟩
theorem ct_tryN (g : GW) (b n : Nat) (hb : n ≤ 1000000000) :
    Ct Tryz.prog g 151 [pV b, .int .i64 n] [bufB b nilV]
      (fun v _ H' => ∃ t : Bool, (t = true ↔ n = 0) ∧ v = .tuple #[.int .i64 0, .bool t] ∧ H' = [bufB b nilV]) := by
  refine CI Tryz.func151 Tryz.ntmps151 rfl fun F g0 hg0 => ?_
  refine SR (La rfl (La rfl (nS (T_seq (SR (Lm rfl (Ln rfl (Lf rfl Tryz.runUnderlying73 rfl Tryz.sizeOf25 rfl (Lp (p_load rfl Tryz.isAgg25 (.head _) rfl) ?_)))))))))
  refine Lp (p_len (Shp.nil) rfl rfl Tryz.runUnderlying25) (La rfl (nSR (Lm rfl (Lm rfl (Ln rfl (Lf rfl Tryz.runUnderlying73 rfl Tryz.sizeOf25 rfl (Lp (p_load rfl Tryz.isAgg25 (.head _) rfl) (Lp (p_cap rfl rfl Tryz.runUnderlying25) (Lm rfl ?_)))))))))
  refine Lp (p_sub rfl rfl (wr64 (by omega) (by omega))) (Lp (p_leq rfl rfl) (nS (T_condD rfl (fun hc1 => ?_) (fun hc1 => ?_))))
  ·
    obtain rfl : n = 0 := by omega
    refine SR (Lm rfl (Lm rfl (Ln rfl (Lf rfl Tryz.runUnderlying73 rfl Tryz.sizeOf25 rfl (Lp (p_load rfl Tryz.isAgg25 (.head _) rfl) (Lm rfl (Lm rfl (Lp (p_add rfl rfl (wr64 (by omega) (by omega))) (Lp (p_slH (b := 0) Shp.nil rfl Tryz.runUnderlying25 Tryz.sizeOf5 rfl rfl (by omega) rfl) ?_)))))))))
    refine Ln rfl (Lf rfl Tryz.runUnderlying73 rfl Tryz.sizeOf25 rfl (TL_k0 (e_store1 rfl rfl Tryz.sizeOf25 rfl (K0 .nil) rfl rfl rfl) ?_))
    rintro _ _ _ - ⟨rfl, rfl⟩
    refine nSR (Lm rfl (La rfl (La rfl (nr (E_seq_ret (E_ret2 [_] rfl (.refl _) rfl rfl (K0 (K0 .nil)) (fun g' hl => ?_)))))))
    exact ⟨true, ⟨fun _ => rfl, fun _ => rfl⟩, rfl, rfl⟩
  ·
    skip
    refine kS (SR (La rfl (La rfl (nr (E_ret2 [_] rfl (.refl _) rfl rfl (K0 (K0 .nil)) (fun g' hl => ?_))))))
    exact ⟨false, ⟨fun h => (by cases h), fun h => by omega⟩, rfl, rfl⟩
theorem ct_bufLen (g : GW) (b m : Nat) (v : Value) (hs : Shp v m) (hm : m ≤ 1000000000) :
    Ct Tryz.prog g 143 [pV b] [bufB b v] (fun r _ H' => r = .int .i64 m ∧ H' = [bufB b v]) := by
  refine CI Tryz.func143 Tryz.ntmps143 rfl fun F g0 hg0 => ?_
  refine SR (La rfl (nS (T_seq (T_regionD 11 Tryz.mixed rfl Part.all (Dp 0 rfl (p_move rfl) (Dp 1 rfl (p_nilCheck rfl) (Dp 2 rfl (p_fieldAddr rfl Tryz.runUnderlying73 rfl Tryz.sizeOf25 rfl) (Dp 3 rfl (p_load rfl Tryz.isAgg25 (.head _) rfl) (Dp 4 rfl (p_len (hs) rfl rfl Tryz.runUnderlying25) ?_)))))))))
  refine Dp 5 rfl (p_move rfl) (Dp 6 rfl (p_nilCheck rfl) (Dp 7 rfl (p_fieldAddr rfl Tryz.runUnderlying73 rfl Tryz.sizeOf3 rfl) (Dp 8 rfl (p_load rfl Tryz.isAgg3 (.head _) rfl) ?_)))
  refine Dp 9 rfl (p_sub rfl rfl ((show IntKind.i64.wrap ((m : Int) - 0) = (m : Int) from by rw [wr64 (by omega) (by omega)]; omega))) ?_
  refine Dp 10 rfl (p_assign rfl) (DD (E_seq (T_ret (E_ret1 [_] rfl (.refl _) rfl (K0 (K0 .nil)) (fun g' hl => ?_)))))
  exact ⟨rfl, rfl⟩
theorem ct_growS (g : GW) (b r m n : Nat) (full : List UInt8) (hm : m ≤ full.length) (hn : full.length < m + n) (hb : m + n ≤ 1000000000) :
    Ct Tryz.prog g 138 [pV b, .int .i64 n] [bufB b (rsV r m full.length), rowA r full]
      (fun v _ H' => ∃ r2 full2, v = .int .i64 m ∧ m + n ≤ full2.length ∧ full2.length ≤ 9223372036854775807 ∧ full2.take m = full.take m ∧ H' = [bufB b (rsV r2 (m + n) full2.length), rowA r2 full2]) := by
  refine CI Tryz.func138 Tryz.ntmps138 rfl fun F g0 hg0 => ?_
  refine SR (La rfl (nSR (Lm rfl (Lk (e_call rfl (ct_bufLen g0 b m _ (.some _ _ _ _ hm) (by omega)) (K0 .nil)) ?_))))
  rintro _ _ _ - ⟨_, rfl, ⟨rfl, rfl⟩⟩
  refine La rfl (nS (T_cut (ι := Unit) (fun _ _ => True) (fun _ => [(0, pV b), (1, .int .i64 n), (5, .int .i64 m)]) (fun _ => [bufB b (rsV r m full.length), rowA r full, F]) ?_ ?_))
  ·
    refine SR (Lm rfl (Lp (p_eql rfl rfl) (Lm rfl (TL_splitD 13 rfl (fun hg2 => ?_) (fun hg2 => ?_)))))
    ·
      refine Lg (p_move rfl) (Lg (p_nilCheck rfl) (Lg (p_fieldAddr rfl Tryz.runUnderlying73 rfl Tryz.sizeOf3 rfl) (Lg (p_load rfl Tryz.isAgg3 (.head _) rfl) (Lg (p_neq rfl rfl) (Lp (p_pickT rfl rfl) (nS (T_condD rfl (fun hc3 => ?_) (fun hc3 => ?_))))))))
      ·
        exact absurd rfl hc3
      ·
        skip
        refine T_skip (EC (.refl _) (()) ?hI (K0 (K0 (K0 .nil))))
        case hI => intro g' hl; trivial
    ·
      refine Ls (Ls (Ls (Ls (Ls (Lp (p_pickF rfl rfl) (nS (T_condF rfl (T_skip (EC (.refl _) (()) ?hI (K0 (K0 (K0 .nil))))))))))))
      case hI => intro g' hl; trivial
  ·
    rintro _ gC hlgC _
    refine T_seq (SR (Lm rfl (Lm rfl (Lk (e_call rfl (ct_tryS gC b r m n full hm (by omega) hb) (K0 (K0 .nil))) ?_))))
    rintro _ _ _ - ⟨_, rfl, ⟨t, ht, rfl, rfl⟩⟩
    obtain rfl : t = false := by { cases t with | false => rfl | true => exact absurd (ht.1 rfl) (by omega) }
    refine Lm rfl (Lx rfl rfl (Lx rfl rfl (La rfl (La rfl (nSR (Lm rfl (nS (T_condF rfl (kS ?_)))))))))
    refine T_seq (SR (Lm rfl (Ln rfl (Lf rfl Tryz.runUnderlying73 rfl Tryz.sizeOf25 rfl (Lp (p_load rfl Tryz.isAgg25 (.head _) rfl) (Lp (p_eqlSN rfl rfl Tryz.underlying25) (Lm rfl (Ls (Ls ?_)))))))))
    refine Lp (p_pickF rfl rfl) (nS (T_condF rfl (kS (SR (Lm rfl (Ln rfl (Lf rfl Tryz.runUnderlying73 rfl Tryz.sizeOf25 rfl (Lp (p_load rfl Tryz.isAgg25 (.head _) rfl) (Lp (p_cap rfl rfl Tryz.runUnderlying25) ?_)))))))))
    refine La rfl (TL_nil ?_)
    refine E_seq (T_seq (SR (Lm rfl (Lm rfl (Lp (p_quo rfl rfl (by decide) (show IntKind.i64.wrap ((full.length : Int).tdiv 2) = ((full.length / 2 : Nat) : Int) from quoN full.length 2 (by omega))) (Lm rfl (Lp (p_sub rfl rfl (wr64 (by omega) (by omega))) (Lp (p_leq rfl rfl) (nS (T_condD rfl (fun hc6 => ?_) (fun hc6 => ?_)))))))))))
    ·
      exact absurd hc6 (by omega)
    ·
      skip
      refine SR (Lm rfl (Lm rfl (Lp (p_sub rfl rfl (wr64 (by omega) (by omega))) (Lm rfl (Lp (p_sub rfl rfl (wr64 (by omega) (by omega))) (Lp (p_gtr rfl rfl) (nS (T_condD rfl (fun hc7 => ?_) (fun hc7 => ?_)))))))))
      ·
        exact absurd hc7 (by omega)
      ·
        skip
        refine T_regionD 19 Tryz.mixed rfl (K0 (K1 .nil)) (Dp 0 rfl (p_move rfl) (Dp 1 rfl (p_move rfl) (Dp 2 rfl (p_nilCheck rfl) (Dp 3 rfl (p_fieldAddr rfl Tryz.runUnderlying73 rfl Tryz.sizeOf25 rfl) (Dp 4 rfl (p_load rfl Tryz.isAgg25 (.head _) rfl) (Dp 5 rfl (p_move rfl) (Dp 6 rfl (p_nilCheck rfl) (Dp 7 rfl (p_fieldAddr rfl Tryz.runUnderlying73 rfl Tryz.sizeOf3 rfl) (Dp 8 rfl (p_load rfl Tryz.isAgg3 (.head _) rfl) ?_)))))))))
        refine Dp 9 rfl (p_slL (a := 0) (.some _ _ _ _ hm) rfl Tryz.runUnderlying25 Tryz.sizeOf5 rfl rfl (Nat.zero_le _) (sl_self (.some _ _ _ _ hm))) (Dp 10 rfl (p_move rfl) (Dp 11 rfl (p_nilCheck rfl) (Dp 12 rfl (p_fieldAddr rfl Tryz.runUnderlying73 rfl Tryz.sizeOf3 rfl) (Dp 13 rfl (p_load rfl Tryz.isAgg3 (.head _) rfl) (Dp 14 rfl (p_move rfl) ?_)))))
        refine Dp 15 rfl (p_add rfl rfl ((show IntKind.i64.wrap ((0 : Int) + (n : Int)) = (n : Int) from by rw [wr64 (by omega) (by omega)]; omega))) ?_
        refine DK 16 rfl (e_call rfl (ct_growSlice gC r m full.length n full rfl hm (by omega) hn hb) (K2 .nil)) ?_
        rintro _ _ _ - ⟨_, rfl, ⟨r2, c2, full2, rfl, h1, h2, rfl, h3, rfl⟩⟩
        refine ⟨_, (K2 (K2 .nil)), ?_⟩
        refine Dq 17 rfl (fun _ => p_nilCheck rfl) (Dp 18 rfl (p_fieldAddr rfl Tryz.runUnderlying73 rfl Tryz.sizeOf25 rfl) (DB rfl (e_store1 rfl rfl Tryz.sizeOf25 rfl (K0 .nil) rfl rfl rfl) ?_))
        rintro _ _ _ - ⟨rfl, rfl⟩
        refine TA_done (by kernel_rfl) (E_seq (SR (Lm rfl (Ln rfl (Lf rfl Tryz.runUnderlying73 rfl Tryz.sizeOf3 rfl (TL_k0 (e_store1 rfl rfl Tryz.sizeOf3 rfl (K0 .nil) rfl rfl rfl) ?_))))))
        rintro _ _ _ - ⟨rfl, rfl⟩
        refine nSR (Lm rfl (Lm rfl (Ln rfl (Lf rfl Tryz.runUnderlying73 rfl Tryz.sizeOf25 rfl (Lp (p_load rfl Tryz.isAgg25 (.head _) rfl) (Lm rfl (Lm rfl ?_)))))))
        refine Lp (p_add rfl rfl ((show IntKind.i64.wrap ((m : Int) + (n : Int)) = ((m + n : Nat) : Int) from by rw [wr64 (by omega) (by omega)]; omega))) ?_
        refine Lp (p_slCap (k := m + n) rfl Tryz.runUnderlying25 Tryz.sizeOf5 rfl rfl h1) (Ln rfl (Lf rfl Tryz.runUnderlying73 rfl Tryz.sizeOf25 rfl (TL_k0 (e_store1 rfl rfl Tryz.sizeOf25 rfl (K0 .nil) rfl rfl rfl) ?_)))
        rintro _ _ _ - ⟨rfl, rfl⟩
        refine nSR (Lm rfl (La rfl (nr (E_ret1 [_, _] rfl hlgC rfl (K0 (K2 (K0 .nil))) (fun g' hl => ?_)))))
        exact ⟨r2, full2, rfl, h1, h2, h3, rfl⟩
theorem ct_growN (g : GW) (b n : Nat) (hn : 0 < n) (hb : n ≤ 1000000000) :
    Ct Tryz.prog g 138 [pV b, .int .i64 n] [bufB b nilV]
      (fun v _ H' => ∃ r2 full2, v = .int .i64 0 ∧ n ≤ full2.length ∧ full2.length ≤ 9223372036854775807 ∧ H' = [bufB b (rsV r2 n full2.length), rowA r2 full2]) := by
  refine CI Tryz.func138 Tryz.ntmps138 rfl fun F g0 hg0 => ?_
  refine SR (La rfl (nSR (Lm rfl (Lk (e_call rfl (ct_bufLen g0 b 0 _ Shp.nil (by omega)) (K0 .nil)) ?_))))
  rintro _ _ _ - ⟨_, rfl, ⟨rfl, rfl⟩⟩
  refine La rfl (nS (T_cut (ι := Unit) (fun _ _ => True) (fun _ => [(0, pV b), (1, .int .i64 n), (5, .int .i64 0)]) (fun _ => [bufB b nilV, F]) ?_ ?_))
  ·
    refine SR (Lm rfl (Lp (p_eql rfl rfl) (Lm rfl (TL_splitD 13 rfl (fun hg2 => ?_) (fun hg2 => ?_)))))
    ·
      refine Lg (p_move rfl) (Lg (p_nilCheck rfl) (Lg (p_fieldAddr rfl Tryz.runUnderlying73 rfl Tryz.sizeOf3 rfl) (Lg (p_load rfl Tryz.isAgg3 (.head _) rfl) (Lg (p_neq rfl rfl) (Lp (p_pickT rfl rfl) (nS (T_condD rfl (fun hc3 => ?_) (fun hc3 => ?_))))))))
      ·
        exact absurd rfl hc3
      ·
        skip
        refine T_skip (EC (.refl _) (()) ?hI (K0 (K0 .nil)))
        case hI => intro g' hl; trivial
    ·
      refine Ls (Ls (Ls (Ls (Ls (Lp (p_pickF rfl rfl) (nS (T_condF rfl (T_skip (EC (.refl _) (()) ?hI (K0 (K0 .nil)))))))))))
      case hI => intro g' hl; trivial
  ·
    rintro _ gC hlgC _
    refine T_seq (SR (Lm rfl (Lm rfl (Lk (e_call rfl (ct_tryN gC b n hb) (K0 .nil)) ?_))))
    rintro _ _ _ - ⟨_, rfl, ⟨t, ht, rfl, rfl⟩⟩
    obtain rfl : t = false := by { cases t with | false => rfl | true => exact absurd (ht.1 rfl) (by omega) }
    refine Lm rfl (Lx rfl rfl (Lx rfl rfl (La rfl (La rfl (nSR (Lm rfl (nS (T_condF rfl (kS ?_)))))))))
    refine T_seq (SR (Lm rfl (Ln rfl (Lf rfl Tryz.runUnderlying73 rfl Tryz.sizeOf25 rfl (Lp (p_load rfl Tryz.isAgg25 (.head _) rfl) (Lp (p_eqlS0 rfl rfl Tryz.underlying25) (Lm rfl (Lg (p_move rfl) (Lg (p_leq rfl rfl) ?_)))))))))
    refine Lp (p_pickT rfl rfl) (nS (T_condD rfl (fun hc6 => ?_) (fun hc6 => ?_)))
    ·
      skip
      refine SR (Lm rfl (Lm rfl ?_))
      refine Lk (e_makeB (l := n) (c := 64) rfl rfl Tryz.runUnderlying25 Tryz.typeInfo5 rfl rfl rfl (by omega) (by show 1 * _ ≤ _; omega) (by omega)) ?_
      rintro _ _ _ - ⟨q, rfl, rfl⟩
      rw [rep_blk]
      have hz : (List.replicate 64 (0 : UInt8)).length = 64 := List.length_replicate
      obtain ⟨z, hze⟩ : ∃ z, z = List.replicate 64 (0 : UInt8) := ⟨_, rfl⟩
      rw [← hze] at hz ⊢
      refine Ln rfl (Lf rfl Tryz.runUnderlying73 rfl Tryz.sizeOf25 rfl (TL_k0 (e_store1 rfl rfl Tryz.sizeOf25 rfl (K1 .nil) rfl rfl rfl) ?_))
      rintro _ _ _ - ⟨rfl, rfl⟩
      refine nSR (La rfl (nr (E_seq_ret (E_ret1 [_, _] rfl hlgC rfl (K0 (K0 (K0 .nil))) (fun g' hl => ?_)))))
      exact ⟨q, z, rfl, by omega, by omega, by rw [hz]; rfl⟩
    ·
      skip
      refine kS (SR (Lm rfl (Ln rfl (Lf rfl Tryz.runUnderlying73 rfl Tryz.sizeOf25 rfl (Lp (p_load rfl Tryz.isAgg25 (.head _) rfl) (Lp (p_cap rfl rfl Tryz.runUnderlying25) (La rfl (nS (T_seq ?_)))))))))
      refine SR (Lm rfl (Lm rfl (Lp (p_quo rfl rfl (by decide) (show IntKind.i64.wrap (((0 : Nat) : Int).tdiv 2) = 0 from rfl)) (Lm rfl (Lp (p_sub rfl rfl ((show IntKind.i64.wrap ((0 : Int) - 0) = 0 from rfl))) (Lp (p_leq rfl rfl) (nS (T_condD rfl (fun hc9 => ?_) (fun hc9 => ?_)))))))))
      ·
        exact absurd hc9 (by omega)
      ·
        skip
        refine SR (Lm rfl (Lm rfl (Lp (p_sub rfl rfl (wr64 (by omega) (by omega))) (Lm rfl (Lp (p_sub rfl rfl (wr64 (by omega) (by omega))) (Lp (p_gtr rfl rfl) (nS (T_condD rfl (fun hc10 => ?_) (fun hc10 => ?_)))))))))
        ·
          exact absurd hc10 (by omega)
        ·
          skip
          refine T_regionD 19 Tryz.mixed rfl (K0 (K0 .nil)) (Dp 0 rfl (p_move rfl) (Dp 1 rfl (p_move rfl) (Dp 2 rfl (p_nilCheck rfl) (Dp 3 rfl (p_fieldAddr rfl Tryz.runUnderlying73 rfl Tryz.sizeOf25 rfl) (Dp 4 rfl (p_load rfl Tryz.isAgg25 (.head _) rfl) (Dp 5 rfl (p_move rfl) (Dp 6 rfl (p_nilCheck rfl) (Dp 7 rfl (p_fieldAddr rfl Tryz.runUnderlying73 rfl Tryz.sizeOf3 rfl) (Dp 8 rfl (p_load rfl Tryz.isAgg3 (.head _) rfl) ?_)))))))))
          refine Dp 9 rfl (p_slL (a := 0) Shp.nil rfl Tryz.runUnderlying25 Tryz.sizeOf5 rfl rfl (Nat.zero_le _) (sl_self Shp.nil)) (Dp 10 rfl (p_move rfl) (Dp 11 rfl (p_nilCheck rfl) (Dp 12 rfl (p_fieldAddr rfl Tryz.runUnderlying73 rfl Tryz.sizeOf3 rfl) (Dp 13 rfl (p_load rfl Tryz.isAgg3 (.head _) rfl) (Dp 14 rfl (p_move rfl) ?_)))))
          refine Dp 15 rfl (p_add rfl rfl ((show IntKind.i64.wrap ((0 : Int) + (n : Int)) = (n : Int) from by rw [wr64 (by omega) (by omega)]; omega))) ?_
          refine DK 16 rfl (e_call rfl (ct_growSliceN gC n hn hb) .nil) ?_
          rintro _ _ _ - ⟨_, rfl, ⟨r2, full2, rfl, h1, h2, rfl⟩⟩
          refine ⟨_, (K1 (K1 .nil)), ?_⟩
          refine Dq 17 rfl (fun _ => p_nilCheck rfl) (Dp 18 rfl (p_fieldAddr rfl Tryz.runUnderlying73 rfl Tryz.sizeOf25 rfl) (DB rfl (e_store1 rfl rfl Tryz.sizeOf25 rfl (K0 .nil) rfl rfl rfl) ?_))
          rintro _ _ _ - ⟨rfl, rfl⟩
          refine TA_done (by kernel_rfl) (E_seq (SR (Lm rfl (Ln rfl (Lf rfl Tryz.runUnderlying73 rfl Tryz.sizeOf3 rfl (TL_k0 (e_store1 rfl rfl Tryz.sizeOf3 rfl (K0 .nil) rfl rfl rfl) ?_))))))
          rintro _ _ _ - ⟨rfl, rfl⟩
          refine nSR (Lm rfl (Lm rfl (Ln rfl (Lf rfl Tryz.runUnderlying73 rfl Tryz.sizeOf25 rfl (Lp (p_load rfl Tryz.isAgg25 (.head _) rfl) (Lm rfl (Lm rfl ?_)))))))
          refine Lp (p_add rfl rfl ((show IntKind.i64.wrap ((0 : Int) + (n : Int)) = (n : Int) from by rw [wr64 (by omega) (by omega)]; omega))) ?_
          refine Lp (p_slCap (k := n) rfl Tryz.runUnderlying25 Tryz.sizeOf5 rfl rfl h1) (Ln rfl (Lf rfl Tryz.runUnderlying73 rfl Tryz.sizeOf25 rfl (TL_k0 (e_store1 rfl rfl Tryz.sizeOf25 rfl (K0 .nil) rfl rfl rfl) ?_)))
          rintro _ _ _ - ⟨rfl, rfl⟩
          refine nSR (Lm rfl (La rfl (nr (E_ret1 [_, _] rfl hlgC rfl (K0 (K1 (K0 .nil))) (fun g' hl => ?_)))))
          exact ⟨r2, full2, rfl, h1, h2, rfl⟩
end Go.Proofs.YtolddodhmeaceaaGreatDoor
namespace Go.Proofs.YtolddodhmeaceaaGreatDoor
open Go.Hl Go.Pk
theorem mid_len {p : List UInt8} {full : List UInt8} {m : Nat} (h : m + p.length ≤ full.length) :
    (full.take m ++ (p.take (min p.length (m + p.length - m)) ++ ((full.drop m).take p.length).drop (min p.length (m + p.length - m))) ++ full.drop (m + p.length)) = full.take m ++ p ++ full.drop (m + p.length) := by
  rw [show min p.length (m + p.length - m) = p.length from by omega, List.take_length, List.drop_eq_nil_of_le (by rw [List.length_take]; omega), List.append_nil]
theorem mid_all {full : List UInt8} {m n : Nat} (h : m + n ≤ full.length) : full = full.take m ++ (full.drop m).take n ++ full.drop (m + n) := by
  rw [List.append_assoc, show full.drop (m + n) = (full.drop m).drop n from by rw [List.drop_drop], List.take_append_drop, List.take_append_drop]
theorem ct_writeS (g : GW) (b r m : Nat) (full : List UInt8) (hm : m ≤ full.length) (hl0 : full.length ≤ 9223372036854775807) (pv : Value) (p : List UInt8) (hp : Bytes g pv p) (hb : m + p.length ≤ 1000000000) :
    Ct Tryz.prog g 123 [pV b, pv] [bufB b (rsV r m full.length), rowA r full]
      (fun v _ H' => ∃ r2 full2, v = .tuple #[.int .i64 p.length, .nilIface] ∧ m + p.length ≤ full2.length ∧ full2.length ≤ 9223372036854775807 ∧ full2.take (m + p.length) = full.take m ++ p ∧ H' = [bufB b (rsV r2 (m + p.length) full2.length), rowA r2 full2]) := by
  refine CI Tryz.func123 Tryz.ntmps123 rfl fun F g0 hg0 => ?_
  replace hp := hp.mono hg0
  refine SR (La rfl (La rfl (nSR (Lm rfl (Ln rfl (Lf rfl Tryz.runUnderlying73 rfl Tryz.sizeOf71 rfl (TL_k0 (e_store1 rfl rfl Tryz.sizeOf71 rfl (K0 .nil) rfl rfl rfl) ?_)))))))
  rintro _ _ _ - ⟨rfl, rfl⟩
  refine nSR (Lm rfl (Lm rfl (Lp (p_len (hp.1) rfl rfl Tryz.runUnderlying25) (Lk (e_call rfl (ct_tryS g0 b r m p.length full hm hl0 hb) (K0 (K0 .nil))) ?_))))
  rintro _ _ _ - ⟨_, rfl, ⟨t, ht, rfl, rfl⟩⟩
  refine Lm rfl (Lx rfl rfl (Lx rfl rfl (La rfl (La rfl (nS (T_cut (ι := Nat × List UInt8) (fun x _ => m + p.length ≤ x.2.length ∧ x.2.length ≤ 9223372036854775807 ∧ x.2.take m = full.take m) (fun x => [(0, pV b), (1, pv), (6, .int .i64 m)]) (fun x => [bufB b (rsV x.1 (m + p.length) x.2.length), rowA x.1 x.2, F]) ?_ ?_))))))
  ·
    refine SR (Lm rfl (Lp (p_not rfl) (nS (T_condNB rfl (fun hc3 => ?_) (fun hc3 => ?_)))))
    ·
      subst hc3
      refine T_region (Lm rfl (Lm rfl (Lp (p_len (hp.1) rfl rfl Tryz.runUnderlying25) ?_)))
      refine Lk (e_call rfl (ct_growS g0 b r m p.length full hm (by have := ht; simp at this; omega) hb) (K0 (K0 .nil))) ?_
      rintro _ _ _ - ⟨_, rfl, ⟨r2, full2, rfl, h1, h2, h3, rfl⟩⟩
      refine La rfl (TL_nil (EC (.refl _) ((r2, full2)) ?hI (K0 (K0 (K0 .nil)))))
      case hI => intro g' hl; exact ⟨h1, h2, h3⟩
    ·
      subst hc3
      refine T_skip (EC (.refl _) ((r, full)) ?hI (K0 (K0 (K0 .nil))))
      case hI => intro g' hl; exact ⟨ht.1 rfl, hl0, rfl⟩
  ·
    rintro ⟨r2, full2⟩ gC hlgC ⟨h1, h2, h3⟩
    try dsimp only
    try dsimp only at h1 h2 h3
    refine SR (Lm rfl (Ln rfl (Lf rfl Tryz.runUnderlying73 rfl Tryz.sizeOf25 rfl (Lp (p_load rfl Tryz.isAgg25 (.head _) rfl) (Lm rfl (Lp (p_slL (a := m) (.some _ _ _ _ h1) rfl Tryz.runUnderlying25 Tryz.sizeOf5 rfl rfl (by omega) rfl) (Lm rfl ?_)))))))
    rw [show rowA r2 full2 = rowA r2 (full2.take m ++ (full2.drop m).take p.length ++ full2.drop (m + p.length)) from congrArg _ (mid_all h1)]
    refine Lk (e_copyB (A := fun ys => rowA r2 (full2.take m ++ ys ++ full2.drop (m + p.length))) rfl rfl rfl Tryz.runUnderlying25 Tryz.sizeOf5 (src_bytes (hp.mono hlgC)) (bf_tail (m := m) (k := m + p.length) (by omega) h1 rfl) (by rw [List.length_take, List.length_drop]; omega) (K1 .nil)) ?_
    rintro _ _ _ - ⟨rfl, rfl⟩
    refine La rfl (La rfl (nr (E_ret2 [_, _] rfl hlgC rfl rfl (K1 (K0 (K0 .nil))) (fun g' hl => ?_))))
    have hle : (full2.take m ++ p ++ full2.drop (m + p.length)).length = full2.length := by { simp only [List.length_append, List.length_take, List.length_drop]; omega }
    refine ⟨r2, full2.take m ++ p ++ full2.drop (m + p.length), ?_, by omega, by omega, ?_, ?_⟩
    · rw [show min p.length (m + p.length - m) = p.length from by omega]
    · rw [← h3, List.take_append_of_le_length (by rw [List.length_append, List.length_take]; omega), List.take_of_length_le (by rw [List.length_append, List.length_take]; omega)]
    · rw [hle, mid_len h1]
theorem ct_writeN (g : GW) (b : Nat) (pv : Value) (p : List UInt8) (hp : Bytes g pv p) (h0 : 0 < p.length) (hb : p.length ≤ 1000000000) :
    Ct Tryz.prog g 123 [pV b, pv] [bufB b nilV]
      (fun v _ H' => ∃ r2 full2, v = .tuple #[.int .i64 p.length, .nilIface] ∧ p.length ≤ full2.length ∧ full2.length ≤ 9223372036854775807 ∧ full2.take p.length = p ∧ H' = [bufB b (rsV r2 p.length full2.length), rowA r2 full2]) := by
  refine CI Tryz.func123 Tryz.ntmps123 rfl fun F g0 hg0 => ?_
  replace hp := hp.mono hg0
  refine SR (La rfl (La rfl (nSR (Lm rfl (Ln rfl (Lf rfl Tryz.runUnderlying73 rfl Tryz.sizeOf71 rfl (TL_k0 (e_store1 rfl rfl Tryz.sizeOf71 rfl (K0 .nil) rfl rfl rfl) ?_)))))))
  rintro _ _ _ - ⟨rfl, rfl⟩
  refine nSR (Lm rfl (Lm rfl (Lp (p_len (hp.1) rfl rfl Tryz.runUnderlying25) (Lk (e_call rfl (ct_tryN g0 b p.length hb) (K0 .nil)) ?_))))
  rintro _ _ _ - ⟨_, rfl, ⟨t, ht, rfl, rfl⟩⟩
  obtain rfl : t = false := by { cases t with | false => rfl | true => exact absurd (ht.1 rfl) (by omega) }
  refine Lm rfl (Lx rfl rfl (Lx rfl rfl (La rfl (La rfl (nS (T_seq (SR (Lm rfl (Lp (p_not rfl) ?_)))))))))
  refine nS (T_condT rfl (T_region (Lm rfl (Lm rfl (Lp (p_len (hp.1) rfl rfl Tryz.runUnderlying25) (Lk (e_call rfl (ct_growN g0 b p.length h0 hb) (K0 .nil)) ?_))))))
  rintro _ _ _ - ⟨_, rfl, ⟨r2, full2, rfl, h1, h2, rfl⟩⟩
  refine La rfl (nSR (Lm rfl (Ln rfl (Lf rfl Tryz.runUnderlying73 rfl Tryz.sizeOf25 rfl (Lp (p_load rfl Tryz.isAgg25 (.head _) rfl) (Lm rfl (Lp (p_slL (a := 0) (.some _ _ _ _ h1) rfl Tryz.runUnderlying25 Tryz.sizeOf5 rfl rfl (by omega) rfl) (Lm rfl ?_))))))))
  rw [show rowA r2 full2 = rowA r2 (full2.take 0 ++ (full2.drop 0).take p.length ++ full2.drop p.length) from by rw [List.take_zero, List.drop_zero, List.nil_append, List.take_append_drop]]
  refine Lk (e_copyB (A := fun ys => rowA r2 (full2.take 0 ++ ys ++ full2.drop p.length)) rfl rfl rfl Tryz.runUnderlying25 Tryz.sizeOf5 (src_bytes hp) (bf_tail (m := 0) (k := p.length) (by omega) h1 rfl) (by rw [List.length_take, List.length_drop]; omega) (K1 .nil)) ?_
  rintro _ _ _ - ⟨rfl, rfl⟩
  refine La rfl (La rfl (nr (E_ret2 [_, _] rfl (.refl _) rfl rfl (K1 (K0 (K0 .nil))) (fun g' hl => ?_))))
  have hle : (p ++ full2.drop p.length).length = full2.length := by { simp only [List.length_append, List.length_drop]; omega }
  refine ⟨r2, p ++ full2.drop p.length, ?_, by omega, by omega, ?_, ?_⟩
  · rw [show min p.length (p.length - 0) = p.length from by omega]
  · rw [List.take_left]
  · rw [hle, show min p.length (p.length - 0) = p.length from by omega, List.take_length, List.drop_eq_nil_of_le (by rw [List.length_take]; omega), List.append_nil, List.take_zero, List.nil_append]
theorem ct_write0 (g : GW) (b : Nat) (pv : Value) (hp : Bytes g pv []) :
    Ct Tryz.prog g 123 [pV b, pv] [bufB b nilV] (fun v _ H' => v = .tuple #[.int .i64 0, .nilIface] ∧ H' = [bufB b nilV]) := by
  refine CI Tryz.func123 Tryz.ntmps123 rfl fun F g0 hg0 => ?_
  replace hp := hp.mono hg0
  refine SR (La rfl (La rfl (nSR (Lm rfl (Ln rfl (Lf rfl Tryz.runUnderlying73 rfl Tryz.sizeOf71 rfl (TL_k0 (e_store1 rfl rfl Tryz.sizeOf71 rfl (K0 .nil) rfl rfl rfl) ?_)))))))
  rintro _ _ _ - ⟨rfl, rfl⟩
  refine nSR (Lm rfl (Lm rfl (Lp (p_len (hp.1) rfl rfl Tryz.runUnderlying25) (Lk (e_call rfl (ct_tryN g0 b 0 (by omega)) (K0 .nil)) ?_))))
  rintro _ _ _ - ⟨_, rfl, ⟨t, ht, rfl, rfl⟩⟩
  obtain rfl : t = true := ht.2 rfl
  refine Lm rfl (Lx rfl rfl (Lx rfl rfl (La rfl (La rfl (nS (T_seq (SR (Lm rfl (Lp (p_not rfl) ?_)))))))))
  refine nS (T_condF rfl (kS (SR (Lm rfl (Ln rfl (Lf rfl Tryz.runUnderlying73 rfl Tryz.sizeOf25 rfl (Lp (p_load rfl Tryz.isAgg25 (.head _) rfl) (Lm rfl (Lp (p_slL (a := 0) Shp.nil rfl Tryz.runUnderlying25 Tryz.sizeOf5 rfl rfl (by omega) rfl) ?_)))))))))
  refine Lm rfl (Lk (e_copyB (A := fun _ => bufB b nilV) rfl rfl rfl Tryz.runUnderlying25 Tryz.sizeOf5 (src_bytes hp) (Bf.zero (v := sl nilV 0 0 1) Shp.nil (fun _ => bufB b nilV) (fun _ _ => rfl)) (rfl : ([] : List UInt8).length = 0) (K0 .nil)) ?_)
  rintro _ _ _ - ⟨rfl, rfl⟩
  refine La rfl (La rfl (nr (E_ret2 [_] rfl (.refl _) rfl rfl (K0 (K0 .nil)) (fun g' hl => ?_))))
  exact ⟨rfl, rfl⟩
/-- A buffer that is written alone: what it holds. -/
inductive BufSt (b : Nat) : List UInt8 → Atom → Prop
  | nil : BufSt b [] (bufB b nilV)
  | row (r m : Nat) (full : List UInt8) (hm : m ≤ full.length) (hl : full.length ≤ 9223372036854775807) : BufSt b (full.take m) (Hl.many [bufB b (rsV r m full.length), rowA r full])
theorem fold2 {A B F : Atom} {g : GW} (h : Sat ([A, B] ++ [F]) g) : Sat ([Hl.many [A, B]] ++ [F]) g := Sat.foldAt (pre := []) (K := [A, B]) (post := []) h
theorem ct_bufWrite (g : GW) (b : Nat) (xs : List UInt8) (S : Atom) (hS : BufSt b xs S) (pv : Value) (p : List UInt8) (hp : Bytes g pv p) (hb : xs.length + p.length ≤ 1000000000) :
    Ct Tryz.prog g 123 [pV b, pv] [S] (fun v _ H' => v = .tuple #[.int .i64 p.length, .nilIface] ∧ ∃ S', H' = [S'] ∧ BufSt b (xs ++ p) S') := by
  cases hS with
  | nil =>
    cases p with
    | nil => exact (ct_write0 g b pv hp).mono fun v g' H' _ h => ⟨h.1, _, h.2, .nil⟩
    | cons c p =>
      refine (ct_writeN g b pv (c :: p) hp (Nat.succ_pos _) (by simpa using hb)).conv fun v g' H' F _ h hs => ?_
      obtain ⟨r2, full2, h1, h2, h3, h4, rfl⟩ := h
      exact ⟨_, ⟨h1, _, rfl, by have := BufSt.row (b := b) r2 _ full2 h2 h3; rw [h4] at this; exact this⟩, fold2 hs⟩
  | row r m full hm hl =>
    have hx : (full.take m).length = m := by rw [List.length_take]; omega
    refine ((ct_writeS g b r m full hm hl pv p hp (by omega)).many).mono fun v g' H' _ h => ?_
    obtain ⟨H0, rfl, r2, full2, h1, h2, h3, h4, rfl⟩ := h
    exact ⟨h1, _, rfl, by have := BufSt.row (b := b) r2 _ full2 h2 h3; rw [h4] at this; exact this⟩
def SkBuf (b n : Nat) (S : Atom) : Prop := ∃ xs : List UInt8, xs.length = n ∧ BufSt b xs S
abbrev bufV (b : Nat) : Value := .iface 76 (pV b)
theorem wr_buf (g : GW) (b : Nat) : Wr Tryz.prog g (bufV b) (SkBuf b) :=
  ⟨_, _, 123, _, rfl, fun w => by kernel_rfl, fun g1 _ n S pv p hS hp hb => by
    obtain ⟨xs, rfl, hS⟩ := hS
    exact (ct_bufWrite g1 b xs S hS pv p hp hb).mono fun v g' H' _ h => ⟨h.1, _, h.2.choose_spec.1, _, by rw [List.length_append], h.2.choose_spec.2⟩⟩
theorem ct_bytesS (g : GW) (b r m : Nat) (full : List UInt8) (hm : m ≤ full.length) :
    Ct Tryz.prog g 29 [pV b] [bufB b (rsV r m full.length), rowA r full] (fun v _ H' => v = rsV r m full.length ∧ H' = [bufB b (rsV r m full.length), rowA r full]) := by
  refine CI Tryz.func29 Tryz.ntmps29 rfl fun F g0 hg0 => ?_
  refine SR (La rfl (nS (T_seq (T_regionD 10 Tryz.mixed rfl Part.all (Dp 0 rfl (p_move rfl) (Dp 1 rfl (p_nilCheck rfl) (Dp 2 rfl (p_fieldAddr rfl Tryz.runUnderlying73 rfl Tryz.sizeOf25 rfl) (Dp 3 rfl (p_load rfl Tryz.isAgg25 (.head _) rfl) (Dp 4 rfl (p_move rfl) ?_)))))))))
  refine Dp 5 rfl (p_nilCheck rfl) (Dp 6 rfl (p_fieldAddr rfl Tryz.runUnderlying73 rfl Tryz.sizeOf3 rfl) (Dp 7 rfl (p_load rfl Tryz.isAgg3 (.head _) rfl) (Dp 8 rfl (p_slL (a := 0) (.some _ _ _ _ hm) rfl Tryz.runUnderlying25 Tryz.sizeOf5 rfl rfl (by omega) (sl_self (.some _ _ _ _ hm))) (Dp 9 rfl (p_assign rfl) (DD (E_seq (T_ret (E_ret1 [_, _] rfl (.refl _) rfl (K0 (K0 (K0 .nil))) (fun g' hl => ?_)))))))))
  exact ⟨rfl, rfl⟩
theorem ct_bytesN (g : GW) (b : Nat) :
    Ct Tryz.prog g 29 [pV b] [bufB b nilV] (fun v _ H' => v = nilV ∧ H' = [bufB b nilV]) := by
  refine CI Tryz.func29 Tryz.ntmps29 rfl fun F g0 hg0 => ?_
  refine SR (La rfl (nS (T_seq (T_regionD 10 Tryz.mixed rfl Part.all (Dp 0 rfl (p_move rfl) (Dp 1 rfl (p_nilCheck rfl) (Dp 2 rfl (p_fieldAddr rfl Tryz.runUnderlying73 rfl Tryz.sizeOf25 rfl) (Dp 3 rfl (p_load rfl Tryz.isAgg25 (.head _) rfl) (Dp 4 rfl (p_move rfl) ?_)))))))))
  refine Dp 5 rfl (p_nilCheck rfl) (Dp 6 rfl (p_fieldAddr rfl Tryz.runUnderlying73 rfl Tryz.sizeOf3 rfl) (Dp 7 rfl (p_load rfl Tryz.isAgg3 (.head _) rfl) (Dp 8 rfl (p_slL (a := 0) Shp.nil rfl Tryz.runUnderlying25 Tryz.sizeOf5 rfl rfl (by omega) (sl_self Shp.nil)) (Dp 9 rfl (p_assign rfl) (DD (E_seq (T_ret (E_ret1 [_] rfl (.refl _) rfl (K0 (K0 .nil)) (fun g' hl => ?_)))))))))
  exact ⟨rfl, rfl⟩
theorem ct_bufBytes (g : GW) (b : Nat) (xs : List UInt8) (S : Atom) (hS : BufSt b xs S) :
    Ct Tryz.prog g 29 [pV b] [S] (fun v _ H' => Shp v xs.length ∧ H' = [S]) := by
  cases hS with
  | nil => exact (ct_bytesN g b).mono fun v g' H' _ h => ⟨by rw [h.1]; exact Shp.nil, h.2⟩
  | row r m full hm hl =>
    refine ((ct_bytesS g b r m full hm).many).mono fun v g' H' _ h => ?_
    obtain ⟨H0, rfl, h1, rfl⟩ := h
    exact ⟨by rw [h1, List.length_take, Nat.min_eq_left hm]; exact .some _ _ _ _ hm, rfl⟩
end Go.Proofs.YtolddodhmeaceaaGreatDoor
namespace Go.Proofs.YtolddodhmeaceaaGreatDoor
open Go.Hl Go.Pk
theorem bvs_set (l : List UInt8) (k : Nat) (c : UInt8) : (bvs l).set k (bv c) = bvs (l.set k c) := by simp [bvs, List.map_set]
theorem ct_hexEncode (g : GW) (dv sv : Value) (l xs : List UInt8) (hd : Shp dv (2 * l.length)) (hs : Bytes g sv l) (hx : xs.length = 2 * l.length) (hl : l.length ≤ 1000000000) :
    Ct Tryz.prog g 91 [dv, sv] [own dv 1 5 (bvs xs)] (fun r _ H' => ∃ ys : List UInt8, ys.length = 2 * l.length ∧ H' = [own dv 1 5 (bvs ys)]) := by
  refine CI Tryz.func91 Tryz.ntmps91 rfl fun F g0 hg0 => ?_
  replace hs := hs.mono hg0
  refine SR (La rfl (nSR (La rfl (nS (T_seq (SR (Lm rfl (Lp (p_len (hs.1) rfl rfl Tryz.runUnderlying25) (Lm rfl ?_)))))))))
  refine nS (T_block (T_loop (ι := Nat × List UInt8) (fun x _ => x.1 ≤ l.length ∧ x.2.length = 2 * l.length) (fun x => [(0, dv), (1, sv), (5, .int .i64 ((2 * x.1 : Nat) : Int)), (8, sv), (9, .int .i64 l.length), (10, .int .i64 x.1)]) (fun x => [own dv 1 5 (bvs x.2), F]) (fun x => l.length - x.1) ((0, xs)) (fun g' hl => ⟨Nat.zero_le _, hx⟩) (by repeat (first | exact SubL.nil | refine SubL.cons rfl ?_)) (K0 (K0 .nil)) ?_))
  rintro ⟨k, zs⟩ gA hlgA ⟨hk, hz⟩
  try dsimp only
  try dsimp only at hk hz
  replace hs := hs.mono hlgA
  refine SR (Lp (p_lss rfl rfl) (nS (T_seq (T_condD rfl (fun hc2 => ?_) (fun hc2 => ?_)))))
  ·
    replace hc2 : k < l.length := by omega
    obtain ⟨c, hc⟩ := get_some hc2
    have hc256 := u8lt c
    refine kS (T_seq (T_block (SR (Lp (p_ix (hs.1) (j := k) rfl rfl Tryz.runUnderlying25 Tryz.sizeOf5 (by omega) (by omega) rfl) (Lp (p_ldB hs rfl Tryz.isAgg5 hc) (La rfl (nSR (Lm rfl (Lm rfl ?_)))))))))
    refine Lm rfl (Lp (p_shr rfl rfl (by decide) rfl (fdivN c.toNat 16)) (Lp (p_indexL (j := c.toNat / 16) rfl rfl Tryz.runUnderlying9 (by omega) (hexN_at _ (by omega))) (Lp (p_ix (hd) (j := 2 * k) rfl rfl Tryz.runUnderlying25 Tryz.sizeOf5 (by omega) (by omega) rfl) ?_)))
    refine TL_k0 (e_stOwn rfl rfl Tryz.sizeOf5 rfl (K0 .nil) (by rw [bvs_length]; omega)) ?_
    rintro _ _ _ - ⟨rfl, rfl⟩
    refine nSR ?_
    rw [Nat.mul_one, bvs_set]
    refine Lm rfl (Lm rfl ?_)
    refine Lp (p_add rfl rfl ((show IntKind.i64.wrap (((2 * k : Nat) : Int) + 1) = ((2 * k + 1 : Nat) : Int) from by rw [wr64 (by omega) (by omega)]; omega))) ?_
    refine Lm rfl (Lp (p_and rfl rfl (and15 c)) (Lp (p_indexL (j := c.toNat % 16) rfl rfl Tryz.runUnderlying9 (by omega) (hexN_at _ (by omega))) (Lp (p_ix (hd) (j := 2 * k + 1) rfl rfl Tryz.runUnderlying25 Tryz.sizeOf5 (by omega) (by omega) rfl) ?_)))
    refine TL_k0 (e_stOwn rfl rfl Tryz.sizeOf5 rfl (K0 .nil) (by rw [bvs_length, List.length_set]; omega)) ?_
    rintro _ _ _ - ⟨rfl, rfl⟩
    refine nR ?_
    rw [Nat.mul_one, bvs_set]
    refine Lm rfl ?_
    refine Lp (p_add rfl rfl ((show IntKind.i64.wrap (((2 * k : Nat) : Int) + 2) = ((2 * (k + 1) : Nat) : Int) from by rw [wr64 (by omega) (by omega)]; omega))) ?_
    refine La rfl (TL_nil (E_block (E_seq (T_region ?_))))
    refine Lp (p_add rfl rfl ((show IntKind.i64.wrap ((k : Int) + 1) = ((k + 1 : Nat) : Int) from by rw [wr64 (by omega) (by omega)]; omega))) ?_
    refine Lm rfl (TL_nil (EL (.refl _) ((k + 1, (zs.set (2 * k) (hexN (c.toNat / 16))).set (2 * k + 1) (hexN (c.toNat % 16)))) ?hm ?hI ((K0 (K0 .nil)))))
    case hm => exact (by omega)
    case hI => exact (fun g' hl => ⟨by dsimp only; omega, by dsimp only; rw [List.length_set, List.length_set]; exact hz⟩)
  ·
    skip
    refine T_exit (E_seq_exit (E_loop_exit (E_block_hit (E_seq (SR (Lm rfl (Lp (p_len (hs.1) rfl rfl Tryz.runUnderlying25) ?_)))))))
    refine Lp (p_mul rfl rfl ((show IntKind.i64.wrap ((l.length : Int) * 2) = ((2 * l.length : Nat) : Int) from by rw [wr64 (by omega) (by omega)]; omega))) ?_
    refine La rfl (nr (E_ret1 [_] rfl hlgA rfl (K0 (K0 .nil)) (fun g' hl => ?_)))
    exact ⟨zs, hz, rfl⟩
theorem ct_hexLen (g : GW) (n : Nat) (h : n ≤ 1000000000) : Ct Tryz.prog g 90 [.int .i64 n] [] (fun r _ H' => r = .int .i64 ((2 * n : Nat) : Int) ∧ H' = []) := by
  refine CI Tryz.func90 Tryz.ntmps90 rfl fun F g0 hg0 => ?_
  refine SR (La rfl (nSR (Lm rfl ?_)))
  refine Lp (p_mul rfl rfl ((show IntKind.i64.wrap ((n : Int) * 2) = ((2 * n : Nat) : Int) from by rw [wr64 (by omega) (by omega)]; omega))) ?_
  refine La rfl (nr (E_ret1 [] rfl (.refl _) rfl (K0 .nil) (fun g' hl => ?_)))
  exact ⟨rfl, rfl⟩
theorem ct_hexStr (g : GW) (sv : Value) (l : List UInt8) (hs : Bytes g sv l) (hl : l.length ≤ 1000000) :
    Ct Tryz.prog g 58 [sv] [] (fun r _ H' => ∃ t, r = str t ∧ H' = []) := by
  refine CI Tryz.func58 Tryz.ntmps58 rfl fun F g0 hg0 => ?_
  replace hs := hs.mono hg0
  refine SR (La rfl (nSR (Lm rfl (Lp (p_len (hs.1) rfl rfl Tryz.runUnderlying25) (Lk (e_call rfl (ct_hexLen g0 l.length (by omega)) .nil) ?_)))))
  rintro _ _ _ - ⟨_, rfl, ⟨rfl, rfl⟩⟩
  refine Lk (e_make (l := 2 * l.length) (c := 2 * l.length) rfl rfl Tryz.runUnderlying25 Tryz.typeInfo5 rfl rfl rfl (by omega) (by show 1 * _ ≤ _; omega) (by omega)) ?_
  rintro _ _ _ - ⟨o, rfl, rfl⟩
  refine La rfl (nSR (Lm rfl (Lm rfl ?_)))
  rw [rep_bvs]
  refine Lk (e_call rfl (ct_hexEncode g0 _ sv l (List.replicate (2 * l.length) 0) (.some _ _ _ _ (Nat.le_refl _)) hs List.length_replicate (by omega)) (K0 .nil)) ?_
  rintro _ _ _ - ⟨_, rfl, ⟨ys, hys, rfl⟩⟩
  refine nSR (Lm rfl (Lp (p_bytesStrS (.some _ _ _ _ (Nat.le_refl _)) (src_own (.some _ _ _ _ (Nat.le_refl _)) (by rw [bvs_length, hys, Nat.mul_one]) (.head _)) rfl Tryz.runUnderlying25 Tryz.runUnderlying9 Tryz.runUnderlying5) (La rfl (nr (E_ret1 [] rfl (.refl _) rfl (K1 .nil) (fun g' hl => ?_))))))
  exact ⟨ys, rfl, rfl⟩
theorem ct_hashStr (g : GW) (l : List UInt8) (hl : l.length = 20) :
    Ct Tryz.prog g 28 [.agg (bvs l).toArray] [] (fun r _ H' => ∃ t, r = str t ∧ H' = []) := by
  refine CI Tryz.func28 Tryz.ntmps28 rfl fun F g0 hg0 => ?_
  refine SR (Lk (e_box rfl rfl) ?_)
  rintro _ _ _ - ⟨b, rfl, rfl⟩
  refine La rfl (nSR (Lp (p_slA0 rfl Tryz.runUnderlying79 Tryz.sizeOf5 (sl_self (.some _ _ _ _ (Nat.le_refl _)))) (Lk (e_call rfl (Ct.thaw (A := blk b (.cells (bvs l).toArray 79)) ⟨_, Tryz.func58, by kernel_rfl, by kernel_rfl⟩ (fun g1 hl1 hst => (ct_hexStr g1 _ l (Still.bytes (Bf.whole (b := b) (m := 20) (e := 79)) hl hst) (by omega)).mono fun v g' H' _ h => h)) (K0 .nil)) ?_)))
  rintro _ _ _ - ⟨_, rfl, ⟨_, rfl, t, rfl, rfl⟩⟩
  refine La rfl (nr (E_ret1 [] rfl (.refl _) rfl (K1 .nil) (fun g' hl => ?_)))
  exact ⟨t, rfl, rfl⟩
end Go.Proofs.YtolddodhmeaceaaGreatDoor
namespace Go.Proofs.YtolddodhmeaceaaGreatDoor
open Go.Hl Go.Pk
structure SLI where
  i : Nat
  s : St
  pos : Nat
  lv : Value
  xs : List Value
theorem ents_at {l : List En} {i : Nat} (h : i < l.length) : ∃ e, e ∈ l ∧ (l.drop i).flatMap En.bytes = e.bytes ++ (l.drop (i + 1)).flatMap En.bytes := by
  refine ⟨l[i], List.getElem_mem h, ?_⟩
  rw [List.drop_eq_getElem_cons h, List.flatMap_cons]
theorem kind_le {e : En} (h : e.Ok) : 1 ≤ e.kind ∧ e.kind ≤ 7 := by rcases h.kind with h | h | h <;> omega
theorem ct_ScanPack (g : GW) (eE uE : Nat × Nat) (hE : Env g eE uE) (cv : Value) (C : List UInt8) (hcv : Bytes g cv C) (hC : C.length ≤ 900000000) (l : List En) (hOk : ∀ e ∈ l, e.Ok) (hl : l.length ≤ 40) (hpre : C <+: bodyL l) (hlt : C.length < (bodyL l).length) :
    Ct Tryz.prog g 8 [cv] [] (fun v _ H' => ∃ a b c d, v = .tuple #[a, b, c, d, .bool false] ∧ H' = []) := by
  have hP0 : Pre C (bodyL l).length 0 (head12 l.length ++ l.flatMap En.bytes) := Pre.start hpre
  refine CI Tryz.func8 Tryz.ntmps8 rfl fun F g0 hg0 => ?_
  replace hE := hE.mono hg0
  replace hcv := hcv.mono hg0
  refine T_nil 7 85 (SR (La rfl (La rfl (La rfl (La rfl (La rfl (nSR (Lm rfl (Lk (e_call rfl (ct_bytesNewReader g0 cv C.length hcv.1) .nil) ?_)))))))))
  rintro _ _ _ - ⟨_, rfl, ⟨br, rfl, rfl⟩⟩
  refine Lp (p_mkIface rfl Tryz.runUnderlying61 (fun _ h => by cases h)) (LE (e_call rfl (ct_NewScanner g0 eE uE hE br cv C hcv hC (-1)) (K0 .nil)) ?_)
  rintro _ gB _ hlgB ⟨_, rfl, ⟨x, s1, sn, cb, hb, rfl, hx, hxC, hSk, hs1, rfl⟩⟩
  subst hxC
  refine La rfl (nSR (Lm rfl (LE (e_call rfl (ct_header gB x hx s1 0 hs1 sn (crcV cb) (hashV hb) (.pointer none) 0 true _ l.length _ (by omega) hP0) (K0 (K0 (K0 (K0 (K0 (K0 (K0 (K0 .nil))))))))) ?_)))
  rintro _ gC _ hlgC ⟨_, rfl, ⟨s2, p2, va, vb, ver, obj, er, rfl, hEr, hs2, rfl⟩⟩
  replace hx := hx.mono hlgC
  refine Lm rfl (Lx rfl rfl (Lx rfl rfl (Lx rfl rfl (La rfl (La rfl (La rfl (nS (T_seq (SR ?_)))))))))
  refine Lm rfl (Lp (p_neqE0 hEr.ifn rfl Tryz.underlying64) (nS (T_condNB rfl (fun hc4 => ?_) (fun hc4 => ?_))))
  ·
    try dsimp only at hc4
    skip
    refine SR (La rfl (La rfl (La rfl (La rfl (La rfl (nr (E_seq_ret (E_retV [] rfl (hlgB.trans hlgC) (.cons (.tmp rfl) (.cons (.tmp rfl) (.cons (.tmp rfl) (.cons (.tmp rfl) (.cons (.tmp rfl) .nil))))) (.cons (.there (.there (.there (.there (.there (.there (.there (.there (.there .here))))))))) .nil) (fun g' hl => ?_)))))))))
    exact ⟨_, _, _, _, rfl, rfl⟩
  ·
    try dsimp only at hc4
    obtain ⟨rfl, rfl, rfl, e3, hP2⟩ := hEr.ok (isB_t hc4)
    refine kS (SR (La rfl (nS (T_seq (SR (Lm rfl (Lm rfl (nS (T_block (T_loop (ι := SLI) (fun y _ => y.i ≤ l.length ∧ StOk x y.s y.pos ∧ Pre x.C (bodyL l).length y.pos ((l.drop y.i).flatMap En.bytes) ∧ y.xs.length = y.i * 7) (fun y => [(7, pV sn), (8, .int .u32 va), (9, .int .u32 l.length), (11, y.lv), (30, .int .u32 l.length), (31, .int .u32 y.i)]) (fun y => (own y.lv 7 85 y.xs :: scA x y.s y.pos sn (crcV cb) (hashV hb) (.pointer none) 2 l.length true) ++ [F]) (fun y => l.length - y.i) (⟨0, s2, p2, nilV, []⟩) (fun g' hl => ⟨Nat.zero_le _, hs2, hP2, rfl⟩) (by repeat (first | exact SubL.nil | refine SubL.cons rfl ?_)) (K8 (K0 (K0 (K0 (K0 (K0 (K0 (K0 (K0 (K0 .nil)))))))))) ?_))))))))))
    rintro ⟨i, s3, p3, lv, xs⟩ gD hlgD ⟨hi, hs3, hP3, hxs⟩
    try dsimp only
    try dsimp only at hi hs3 hP3 hxs
    refine SR (Lp (p_lss rfl rfl) (nS (T_seq (T_condD rfl (fun hc6 => ?_) (fun hc6 => ?_)))))
    ·
      try dsimp only at hc6
      replace hc6 : i < l.length := by omega
      replace hx := hx.mono hlgD
      obtain ⟨e, hem, hed⟩ := ents_at hc6
      rw [hed] at hP3
      have he := hOk e hem
      refine kS (T_seq (T_block (SR (Lm rfl (LE (e_call rfl (ct_NextHdr gD x hx s3 p3 hs3 sn cb hb hSk (hashV hb) 2 l.length (by decide) true _ _ e he hP3) (K1 (K1 (K1 (K1 (K1 (K1 (K1 (K1 .nil))))))))) ?_)))))
      rintro _ gE _ hlgE ⟨_, rfl, ⟨s4, p4, ob, ⟨o1, o2, o3, o4, o5⟩, vp, er, rfl, hEr, hs4, rfl⟩⟩
      replace hx := hx.mono hlgE
      refine Lm rfl (Lx rfl rfl (Lx rfl rfl (La rfl (La rfl (nS (T_seq (SR (Lm rfl (Lp (p_neqE0 hEr.ifn rfl Tryz.underlying64) ?_)))))))))
      refine nS (T_condNB rfl (fun hc8 => ?_) (fun hc8 => ?_))
      ·
        try dsimp only at hc8
        skip
        refine SR (Lm rfl (Lm rfl (Lm rfl (La rfl (La rfl (La rfl (La rfl (La rfl (nr ?_)))))))))
        refine E_seq_ret (E_block_ret (E_seq_ret (E_loop_ret (E_block_ret (E_seq_ret (E_retV [] rfl (((hlgB.trans hlgC).trans hlgD).trans hlgE) (.cons (.tmp rfl) (.cons (.tmp rfl) (.cons (.tmp rfl) (.cons (.tmp rfl) (.cons (.tmp rfl) .nil))))) (.cons (.there (.there (.there (.there (.there (.there (.there (.there (.there (.there .here)))))))))) .nil) (fun g' hl => ?_)))))))
        exact ⟨_, _, _, _, rfl, rfl⟩
      ·
        try dsimp only at hc8
        obtain ⟨rfl, e1, e2, hP4⟩ := hEr.ok (isB_t hc8)
        dsimp only at e1 e2
        subst e1
        subst e2
        refine kS (SR (Lk (e_alloc Tryz.zeroValue73 rfl) ?_))
        rintro _ _ _ - ⟨k, rfl, rfl⟩
        refine nSR (Lm rfl (Lp (p_mkIface rfl Tryz.runUnderlying76 (fun _ h => by cases h)) ?_))
        refine LE (e_call rfl (ct_NextObject gE x hx s4 p4 hs4 sn cb hb hSk (hashV hb) 2 l.length true _ e.text _ hP4 ob ⟨e.kind, o2, e.text.length, o4, o5⟩ rfl (bufV _) 0 (SkBuf _) (wr_buf gE _) _ ⟨[], rfl, .nil⟩ (by have := he.len; omega)) (K0 (K0 (K0 (K0 (K0 (K0 (K0 (K0 (K0 (K0 .nil))))))))))) ?_
        rintro _ gG _ hlgG ⟨_, rfl, ⟨s5, p5, S', w, cs, er2, rfl, hEr2, hs5, rfl⟩⟩
        replace hx := hx.mono hlgG
        refine Lm rfl (Lx rfl rfl (Lx rfl rfl (Lx rfl rfl (La rfl (La rfl (La rfl (nS (T_seq (SR ?_)))))))))
        refine Lm rfl (Lp (p_neqE0 hEr2.ifn rfl Tryz.underlying64) (nS (T_condNB rfl (fun hc11 => ?_) (fun hc11 => ?_))))
        ·
          try dsimp only at hc11
          skip
          refine SR (Lm rfl (Lm rfl (Lm rfl (La rfl (La rfl (La rfl (La rfl (La rfl (nr ?_)))))))))
          refine E_seq_ret (E_block_ret (E_seq_ret (E_loop_ret (E_block_ret (E_seq_ret (E_retV [] rfl ((((hlgB.trans hlgC).trans hlgD).trans hlgE).trans hlgG) (.cons (.tmp rfl) (.cons (.tmp rfl) (.cons (.tmp rfl) (.cons (.tmp rfl) (.cons (.tmp rfl) .nil))))) (.cons (.there (.there (.there (.there (.there (.there (.there (.there (.there (.there (.there .here))))))))))) .nil) (fun g' hl => ?_)))))))
          exact ⟨_, _, _, _, rfl, rfl⟩
        ·
          try dsimp only at hc11
          obtain ⟨e3, ⟨ys, hys, hB⟩, hP5⟩ := hEr2.ok (isB_t hc11)
          have hk7 := kind_le he
          refine kS (T_regionD 29 Tryz.mixed rfl (K1 (.cons (.there (.there (.there (.there (.there (.there (.there (.there (.there (.there .here)))))))))) .nil)) (Dp 0 rfl (p_move rfl) (Dp 1 rfl (p_move rfl) (Dp 2 rfl (p_nilCheck rfl) (Dp 3 rfl (p_fieldAddr rfl Tryz.runUnderlying81 rfl Tryz.sizeOf77 rfl) (Dp 4 rfl (p_load rfl Tryz.isAgg77 (.head _) (oh_g81_0 _ rfl)) (Dp 5 rfl (p_conv rfl Tryz.runUnderlying77 Tryz.runUnderlying3 (wr64 (by omega) (by omega))) (Dp 6 rfl (p_move rfl) (Dp 7 rfl (p_nilCheck rfl) ?_)))))))))
          refine Dp 8 rfl (p_fieldAddr rfl Tryz.runUnderlying81 rfl Tryz.sizeOf2 rfl) (Dp 9 rfl (p_load rfl Tryz.isAgg2 (.head _) (oh_g81_1 _ rfl)) (Dp 10 rfl (p_move rfl) (Dp 11 rfl (p_nilCheck rfl) (Dp 12 rfl (p_fieldAddr rfl Tryz.runUnderlying81 rfl Tryz.sizeOf2 rfl) (Dp 13 rfl (p_load rfl Tryz.isAgg2 (.head _) (oh_g81_2 _ rfl)) (Dp 14 rfl (p_move rfl) (Dp 15 rfl (p_nilCheck rfl) (Dp 16 rfl (p_fieldAddr rfl Tryz.runUnderlying81 rfl Tryz.sizeOf79 rfl) (Dp 17 rfl (p_loadN (vs := bvs (ref20 o4)) rfl Tryz.isAgg79 Tryz.sizeOf79 (.head _) (by rw [bvs_length, ref20_len]) (oh_gref ⟨e.kind, o2, e.text.length, o4, o5⟩)) ?_)))))))))
          refine Dp 19 rfl (p_move rfl) (Dp 20 rfl (p_nilCheck rfl) (Dp 21 rfl (p_fieldAddr rfl Tryz.runUnderlying81 rfl Tryz.sizeOf2 rfl) (Dp 22 rfl (p_load rfl Tryz.isAgg2 (.head _) (oh_g81_4 _ rfl)) (Dp 24 rfl (p_move rfl) (DK 18 rfl (e_call rfl (ct_hashStr gG (ref20 o4) (ref20_len o4)) .nil) ?_)))))
          rintro _ _ _ - ⟨_, rfl, ⟨t1, rfl, rfl⟩⟩
          refine ⟨_, (K0 (K0 .nil)), ?_⟩
          refine DK 23 rfl (e_call rfl (ct_bufBytes gG _ ys S' hB) (K2 .nil)) ?_
          rintro _ _ _ - ⟨_, rfl, ⟨hsh, rfl⟩⟩
          refine ⟨_, (K1 (K1 .nil)), ?_⟩
          obtain ⟨ta, tn, tc, hveq⟩ := Shp.is hsh
          subst hveq
          refine Dp 25 rfl (p_build (cells := #[.int .i64 e.kind, .int .i64 o2, .int .i64 e.text.length, str t1, .int .i64 o5, .slice ta tn tc, .int .u32 cs]) rfl (by kernel_rfl)) (DK 26 rfl (e_buildSlice rfl rfl rfl Tryz.runUnderlying30 Tryz.sizeOf85 Tryz.zeroValue85 rfl (by simp [Value.cells])) ?_)
          rintro _ _ _ - ⟨d, rfl, rfl⟩
          refine ⟨_, (K1 (K1 .nil)), ?_⟩
          refine DK 27 rfl (e_append (by_ := 80) rfl rfl rfl rfl Tryz.runUnderlying30 Tryz.runUnderlying30 (.inr ⟨_, rfl⟩) Tryz.sizeOf85 Tryz.zeroValue85 rfl Tryz.typeInfo85 rfl (by decide) (by decide) (src_ownS rfl (.tail _ (.tail _ (.head _)))) (by simp [flatC, Value.cells]; omega) (.cons (.there (.there (.there (.there (.there (.there (.there (.there (.there (.there (.there (.there .here)))))))))))) .nil) (by intro u hu; simp [flatC, Value.cells] at hu; rcases hu with rfl | rfl | rfl | rfl | rfl | rfl | rfl <;> rfl)) ?_
          rintro v2 _ _ - ⟨n_v2, hs_v2, hn_v2, rfl⟩
          refine ⟨_, (K1 (K1 .nil)), ?_⟩
          refine Dp 28 rfl (p_assign rfl) (DD (E_block (E_seq (T_region (Lp (p_add rfl rfl (wrU32 (by omega) (by omega))) (Lm rfl (TL_nil (EL (hlgE.trans hlgG) (⟨i + 1, s5, p5, v2, _⟩) ?hm ?hI ((K2 (K4 (K4 (K4 (K4 (K4 (K4 (K4 (K4 (K1 .nil)))))))))))))))))))
          case hm => exact (by dsimp only; omega)
          case hI => exact (fun g' hl => ⟨by dsimp only; omega, hs5, hP5, by dsimp only; simp [flatC, Value.cells, hxs]; omega⟩)
    ·
      try dsimp only at hc6
      exact (Pre.nil (by have hh := hP3; rw [show i = l.length from by omega, List.drop_length] at hh; exact hh) hlt).elim
end Go.Proofs.YtolddodhmeaceaaGreatDoor
namespace Go.Proofs.YtolddodhmeaceaaGreatDoor
open Go.Hl Go.Pk
def dig1 : List UInt8 := [48, 49, 50, 51, 52, 53, 54, 55, 56, 57, 97, 98, 99, 100, 101, 102, 103, 104, 105, 106, 107, 108, 109, 110, 111, 112, 113, 114, 115, 116, 117, 118, 119, 120, 121, 122]
def dig2 : List UInt8 := [48, 48, 48, 49, 48, 50, 48, 51, 48, 52, 48, 53, 48, 54, 48, 55, 48, 56, 48, 57, 49, 48, 49, 49, 49, 50, 49, 51, 49, 52, 49, 53, 49, 54, 49, 55, 49, 56, 49, 57, 50, 48, 50, 49, 50, 50, 50, 51, 50, 52, 50, 53, 50, 54, 50, 55, 50, 56, 50, 57, 51, 48, 51, 49, 51, 50, 51, 51, 51, 52, 51, 53, 51, 54, 51, 55, 51, 56, 51, 57, 52, 48, 52, 49, 52, 50, 52, 51, 52, 52, 52, 53, 52, 54, 52, 55, 52, 56, 52, 57, 53, 48, 53, 49, 53, 50, 53, 51, 53, 52, 53, 53, 53, 54, 53, 55, 53, 56, 53, 57, 54, 48, 54, 49, 54, 50, 54, 51, 54, 52, 54, 53, 54, 54, 54, 55, 54, 56, 54, 57, 55, 48, 55, 49, 55, 50, 55, 51, 55, 52, 55, 53, 55, 54, 55, 55, 55, 56, 55, 57, 56, 48, 56, 49, 56, 50, 56, 51, 56, 52, 56, 53, 56, 54, 56, 55, 56, 56, 56, 57, 57, 48, 57, 49, 57, 50, 57, 51, 57, 52, 57, 53, 57, 54, 57, 55, 57, 56, 57, 57]
def len8 : List UInt8 := [0, 1, 2, 2, 3, 3, 3, 3, 4, 4, 4, 4, 4, 4, 4, 4, 5, 5, 5, 5, 5, 5, 5, 5, 5, 5, 5, 5, 5, 5, 5, 5, 6, 6, 6, 6, 6, 6, 6, 6, 6, 6, 6, 6, 6, 6, 6, 6, 6, 6, 6, 6, 6, 6, 6, 6, 6, 6, 6, 6, 6, 6, 6, 6, 7, 7, 7, 7, 7, 7, 7, 7, 7, 7, 7, 7, 7, 7, 7, 7, 7, 7, 7, 7, 7, 7, 7, 7, 7, 7, 7, 7, 7, 7, 7, 7, 7, 7, 7, 7, 7, 7, 7, 7, 7, 7, 7, 7, 7, 7, 7, 7, 7, 7, 7, 7, 7, 7, 7, 7, 7, 7, 7, 7, 7, 7, 7, 7, 8, 8, 8, 8, 8, 8, 8, 8, 8, 8, 8, 8, 8, 8, 8, 8, 8, 8, 8, 8, 8, 8, 8, 8, 8, 8, 8, 8, 8, 8, 8, 8, 8, 8, 8, 8, 8, 8, 8, 8, 8, 8, 8, 8, 8, 8, 8, 8, 8, 8, 8, 8, 8, 8, 8, 8, 8, 8, 8, 8, 8, 8, 8, 8, 8, 8, 8, 8, 8, 8, 8, 8, 8, 8, 8, 8, 8, 8, 8, 8, 8, 8, 8, 8, 8, 8, 8, 8, 8, 8, 8, 8, 8, 8, 8, 8, 8, 8, 8, 8, 8, 8, 8, 8, 8, 8, 8, 8, 8, 8, 8, 8, 8, 8, 8, 8, 8, 8, 8, 8, 8, 8, 8, 8, 8, 8, 8, 8]
theorem dig2_at {j : Nat} (h : j < 200) : ∃ c, dig2[j]? = some c := ⟨_, List.getElem?_eq_getElem (show j < dig2.length from h)⟩
theorem len8_at : ∀ j, j < 256 → ∃ c, len8[j]? = some c ∧ c.toNat ≤ 8 := by decide
theorem quoU {k : IntKind} (hk : k.signed = false) (n m : Nat) (h : n < 2 ^ k.bits) : k.wrap ((n : Int).tdiv (m : Int)) = ((n / m : Nat) : Int) := by
  rw [← Int.ofNat_tdiv, wrapN hk (n / m) (Nat.lt_of_le_of_lt (Nat.div_le_self n m) h)]
theorem ct_bool2 (g : GW) (b : Bool) : Ct Tryz.prog g 195 [.bool b] [] (fun r _ H' => ∃ k : Nat, k ≤ 1 ∧ r = .int .i64 k ∧ H' = []) := by
  refine CI Tryz.func195 Tryz.ntmps195 rfl fun F g0 hg0 => ?_
  refine SR (La rfl (nS (T_seq (SR (Lm rfl (nS (T_cond rfl (fun hc1 => ?_) (fun hc1 => ?_))))))))
  ·
    refine SR (La rfl (nr (E_seq_ret (E_ret1 [] rfl (.refl _) rfl (K0 .nil) (fun g' hl => ?_)))))
    exact ⟨1, Nat.le_refl _, rfl, rfl⟩
  ·
    refine kS (SR (La rfl (nr (E_ret1 [] rfl (.refl _) rfl (K0 .nil) (fun g' hl => ?_)))))
    exact ⟨0, Nat.zero_le _, rfl, rfl⟩
theorem ct_log10 (g : GW) (n : Nat) (h : n ≤ 64) : Ct Tryz.prog g 193 [.int .i64 n] [] (fun r _ H' => r = .int .i64 ((n * 78913 / 262144 : Nat) : Int) ∧ H' = []) := by
  refine CI Tryz.func193 Tryz.ntmps193 rfl fun F g0 hg0 => ?_
  refine SR (La rfl (nSR (Lm rfl ?_)))
  refine Lp (p_mul rfl rfl ((show IntKind.i64.wrap ((n : Int) * 78913) = ((n * 78913 : Nat) : Int) from by rw [wr64 (by omega) (by omega)]; omega))) ?_
  refine Lp (p_shr rfl rfl (by decide) rfl (show ((n * 78913 : Nat) : Int).fdiv (2 ^ 18) = ((n * 78913 / 262144 : Nat) : Int) from by rw [show (2 : Int) ^ 18 = ((262144 : Nat) : Int) from rfl, fdivN])) (La rfl (nr (E_ret1 [] rfl (.refl _) rfl (K0 .nil) (fun g' hl => ?_))))
  exact ⟨rfl, rfl⟩
theorem ct_len64 (g : GW) (n : Nat) (h : n < 4294967296) : Ct Tryz.prog g 194 [.int .u64 n] [] (fun r _ H' => ∃ k : Nat, k ≤ 32 ∧ r = .int .i64 k ∧ H' = []) := by
  refine CI Tryz.func194 Tryz.ntmps194 rfl fun F g0 hg0 => ?_
  refine SR (La rfl (nS (T_seq (SR (Lm rfl (Lp (p_geq rfl rfl) (nS (T_condD rfl (fun hc1 => ?_) (fun hc1 => ?_)))))))))
  ·
    exact absurd hc1 (by omega)
  ·
    skip
    refine kS (T_cut (ι := Nat × Nat) (fun x _ => x.1 < 65536 ∧ x.2 ≤ 16) (fun x => [(0, .int .u64 x.1), (2, .int .i64 x.2)]) (fun _ => [F]) ?_ ?_)
    ·
      refine SR (Lm rfl (Lp (p_geq rfl rfl) (nS (T_condD rfl (fun hc2 => ?_) (fun hc2 => ?_)))))
      ·
        skip
        refine SR (Lm rfl (Lp (p_shr rfl rfl (by decide) rfl (show (n : Int).fdiv (2 ^ 16) = ((n / 65536 : Nat) : Int) from by rw [show (2 : Int) ^ 16 = ((65536 : Nat) : Int) from rfl, fdivN])) (La rfl (nR (Lm rfl (Lp (p_add rfl rfl ((show IntKind.i64.wrap (0 + 16) = ((16 : Nat) : Int) from rfl))) (La rfl (TL_nil (EC (.refl _) ((n / 65536, 16)) ?hI (K0 .nil))))))))))
        case hI => intro g' hl; exact ⟨by dsimp only; omega, Nat.le_refl _⟩
      ·
        skip
        refine T_skip (EC (.refl _) ((n, 0)) ?hI (K0 .nil))
        case hI => intro g' hl; exact ⟨by dsimp only; omega, Nat.zero_le _⟩
    ·
      rintro ⟨a, b⟩ gA hlgA ⟨ha, hb⟩
      try dsimp only
      try dsimp only at ha hb
      refine T_cut (ι := Nat × Nat) (fun x _ => x.1 < 256 ∧ x.2 ≤ 24) (fun x => [(0, .int .u64 x.1), (2, .int .i64 x.2)]) (fun _ => [F]) ?_ ?_
      ·
        refine SR (Lm rfl (Lp (p_geq rfl rfl) (nS (T_condD rfl (fun hc4 => ?_) (fun hc4 => ?_)))))
        ·
          skip
          refine SR (Lm rfl (Lp (p_shr rfl rfl (by decide) rfl (show (a : Int).fdiv (2 ^ 8) = ((a / 256 : Nat) : Int) from by rw [show (2 : Int) ^ 8 = ((256 : Nat) : Int) from rfl, fdivN])) (La rfl (nR (Lm rfl ?_)))))
          refine Lp (p_add rfl rfl ((show IntKind.i64.wrap ((b : Int) + 8) = ((b + 8 : Nat) : Int) from by rw [wr64 (by omega) (by omega)]; omega))) ?_
          refine La rfl (TL_nil (EC (.refl _) ((a / 256, b + 8)) ?hI (K0 .nil)))
          case hI => intro g' hl; exact ⟨by dsimp only; omega, by dsimp only; omega⟩
        ·
          skip
          refine T_skip (EC (.refl _) ((a, b)) ?hI (K0 .nil))
          case hI => intro g' hl; exact ⟨by dsimp only; omega, by dsimp only; omega⟩
      ·
        rintro ⟨c, d⟩ gB hlgB ⟨hc, hd⟩
        try dsimp only
        try dsimp only at hc hd
        refine SR ?_
        obtain ⟨e, he, he8⟩ := len8_at c hc
        refine Lm rfl (Lm rfl (Lp (p_conv rfl Tryz.runUnderlying108 Tryz.runUnderlying5 (wrU8 (by omega) (by omega))) (Lp (p_indexL (j := c) rfl rfl Tryz.runUnderlying9 (by omega) he) (Lp (p_conv rfl Tryz.runUnderlying5 Tryz.runUnderlying3 (wr64 (by omega) (by omega))) ?_))))
        refine Lp (p_add rfl rfl ((show IntKind.i64.wrap ((d : Int) + (e.toNat : Int)) = ((d + e.toNat : Nat) : Int) from by rw [wr64 (by omega) (by omega)]; omega))) ?_
        refine La rfl (nr (E_ret1 [] rfl (hlgA.trans hlgB) rfl (K0 .nil) (fun g' hl => ?_)))
        exact ⟨d + e.toNat, by omega, rfl, rfl⟩
end Go.Proofs.YtolddodhmeaceaaGreatDoor
namespace Go.Proofs.YtolddodhmeaceaaGreatDoor
open Go.Hl Go.Pk
def pow10V : List Value := (List.range 20).map fun i => .int .u64 ((10 ^ i : Nat) : Int)
theorem pow10_at : ∀ j, j < 20 → pow10V[j]? = some (.int .u64 ((10 ^ j : Nat) : Int)) := by
  intro j h
  simp [pow10V, List.getElem?_map, List.getElem?_range h]
theorem ct_numDigits (g : GW) (hT : Cells g 25 0 pow10V) (n : Nat) (h : n < 4294967296) :
    Ct Tryz.prog g 169 [.int .u64 n] [] (fun r _ H' => ∃ k : Nat, k ≤ 20 ∧ r = .int .i64 k ∧ H' = []) := by
  refine CI Tryz.func169 Tryz.ntmps169 rfl fun F g0 hg0 => ?_
  replace hT := hT.mono hg0
  refine SR (La rfl (nSR (Lm rfl (Lk (e_call rfl (ct_len64 g0 n h) .nil) ?_))))
  rintro _ _ _ - ⟨_, rfl, ⟨k, hk, rfl, rfl⟩⟩
  refine Lk (e_call rfl (ct_log10 g0 k (by omega)) .nil) ?_
  rintro _ _ _ - ⟨_, rfl, ⟨rfl, rfl⟩⟩
  refine La rfl (nSR (Lm rfl (Lm rfl (Lm rfl (Lp (p_indexAddrA (j := k * 78913 / 262144) rfl rfl Tryz.runUnderlying378 Tryz.sizeOf108 (by omega) (by omega) rfl) (Lp (p_loadFs (k * 78913 / 262144) rfl Tryz.isAgg108 hT (pow10_at _ (by omega)) (by omega)) (Lp (p_geq rfl rfl) (Lk (e_call rfl (ct_bool2 g0 _) .nil) ?_))))))))
  rintro _ _ _ - ⟨_, rfl, ⟨z, hz, rfl, rfl⟩⟩
  refine Lp (p_add rfl rfl ((show IntKind.i64.wrap (((k * 78913 / 262144 : Nat) : Int) + (z : Int)) = ((k * 78913 / 262144 + z : Nat) : Int) from by rw [wr64 (by omega) (by omega)]; omega))) ?_
  refine La rfl (nr (E_ret1 [] rfl (.refl _) rfl (K0 .nil) (fun g' hl => ?_)))
  exact ⟨k * 78913 / 262144 + z, by omega, rfl, rfl⟩
theorem fa {k : IntKind} (hk : k.signed = false) (a b : Nat) (h : a + b < 2 ^ k.bits) : k.wrap ((a : Int) + (b : Int)) = ((a + b : Nat) : Int) := by
  rw [← Int.natCast_add, wrapN hk _ h]
theorem fm {k : IntKind} (hk : k.signed = false) (a b : Nat) (h : a * b < 2 ^ k.bits) : k.wrap ((a : Int) * (b : Int)) = ((a * b : Nat) : Int) := by
  rw [← Int.natCast_mul, wrapN hk _ h]
theorem fs {a b : Nat} (h : b ≤ a) (ha : a < 9223372036854775807) : IntKind.i64.wrap ((a : Int) - (b : Int)) = ((a - b : Nat) : Int) := by
  rw [wr64 (by omega) (by omega)]; omega
theorem r2 (n : Nat) : 2 * (n % 100) < 200 := by omega
theorem ct_fmt10 (g : GW) (v : Value) (m : Nat) (A : List UInt8 → Atom) (hB : Bf v m A) (hm : m ≤ 24) (xs : List UInt8) (hx : xs.length = m) (n : Nat) (hn : n < 4294967296) :
    Ct Tryz.prog g 170 [v, .int .u64 n] [A xs] (fun _ _ H' => ∃ ys : List UInt8, ys.length = m ∧ H' = [A ys]) := by
  refine CI Tryz.func170 Tryz.ntmps170 rfl fun F g0 hg0 => ?_
  refine SR (Lm rfl (Lp (p_len (hB.shp) rfl rfl Tryz.runUnderlying25) (La rfl (nS (T_seq (T_block (T_loop (ι := Nat × Nat × List UInt8) (fun x _ => x.1 ≤ m ∧ x.2.1 < 4294967296 ∧ x.2.2.length = m) (fun x => [(0, v), (1, .int .u64 x.2.1), (4, .int .i64 x.1)]) (fun x => [A x.2.2, F]) (fun x => x.1) ((m, n, xs)) (fun g' hl => ⟨Nat.le_refl _, hn, hx⟩) (by repeat (first | exact SubL.nil | refine SubL.cons rfl ?_)) (K0 (K0 .nil)) ?_)))))))
  rintro ⟨i, u, ys⟩ gA hlgA ⟨hi, hu, hy⟩
  try dsimp only
  try dsimp only at hi hu hy
  refine T_seq (SR (Lm rfl (Lp (p_geq rfl rfl) (nS (T_condD rfl (fun hc2 => ?_) (fun hc2 => ?_))))))
  ·
    skip
    refine kS (T_block (SR (Lm rfl (Lp (p_rem rfl rfl (by decide) (remN u 100000000)) (Lp (p_conv rfl Tryz.runUnderlying108 Tryz.runUnderlying29 (wrU32 (by omega) (by omega))) (La rfl (nSR (Lm rfl ?_))))))))
    refine Lp (p_quo rfl rfl (by decide) (quoU (k := .u64) rfl u 100000000 (by show _ < 18446744073709551616; omega))) ?_
    refine La rfl (nSR (Lm rfl ?_))
    refine Lp (p_quo rfl rfl (by decide) (quoU (k := .u32) rfl _ 10000 (by show _ < 4294967296; omega))) ?_
    refine Lm rfl (Lp (p_rem rfl rfl (by decide) (remN _ 10000)) (La rfl (La rfl (nSR (Lm rfl ?_)))))
    refine Lp (p_quo rfl rfl (by decide) (quoU (k := .u32) rfl _ 100 (by show _ < 4294967296; omega))) ?_
    refine Lp (p_mul rfl rfl ((fm (k := .u32) rfl _ 2 (by show _ < 4294967296; omega)))) ?_
    refine Lm rfl (Lp (p_rem rfl rfl (by decide) (remN _ 100)) ?_)
    refine Lp (p_mul rfl rfl ((fm (k := .u32) rfl _ 2 (by show _ < 4294967296; omega)))) ?_
    refine La rfl (La rfl (nSR (Lm rfl ?_)))
    refine Lp (p_quo rfl rfl (by decide) (quoU (k := .u32) rfl _ 100 (by show _ < 4294967296; omega))) ?_
    refine Lp (p_mul rfl rfl ((fm (k := .u32) rfl _ 2 (by show _ < 4294967296; omega)))) ?_
    refine Lm rfl (Lp (p_rem rfl rfl (by decide) (remN _ 100)) ?_)
    refine Lp (p_mul rfl rfl ((fm (k := .u32) rfl _ 2 (by show _ < 4294967296; omega)))) ?_
    refine La rfl (La rfl (nS (T_seq (T_regionD 12 Tryz.mixed rfl Part.all ?_))))
    obtain ⟨c7, hc7⟩ := dig2_at (j := u % 100000000 % 10000 % 100 * 2 + 1) (by omega)
    obtain ⟨d7, hd7⟩ := dig2_at (j := u % 100000000 % 10000 % 100 * 2) (by omega)
    refine Dp 0 rfl (p_move rfl) (Dp 1 rfl (p_move rfl) (Dp 2 rfl (p_sub rfl rfl ((fs (b := 1) (by omega) (by omega)))) (Dq 3 rfl (fun _ => p_move rfl) (Dq 4 rfl (fun _ => p_move rfl) (Dq 5 rfl (fun _ => p_sub rfl rfl ((fs (b := 2) (by omega) (by omega)))) (Dp 6 rfl (p_move rfl) ?_))))))
    refine Dp 7 rfl (p_add rfl rfl ((fa (k := .u32) rfl _ 1 (by show _ < 4294967296; omega)))) ?_
    refine Dp 8 rfl (p_indexL (j := u % 100000000 % 10000 % 100 * 2 + 1) rfl rfl Tryz.runUnderlying9 (by omega) hc7) (Dq 9 rfl (fun _ => p_move rfl) (Dq 10 rfl (fun _ => p_indexL (j := u % 100000000 % 10000 % 100 * 2) rfl rfl Tryz.runUnderlying9 (by omega) hd7) (Dp 11 rfl (p_ix (hB.shp) (j := i - 1) rfl rfl Tryz.runUnderlying25 Tryz.sizeOf5 (by omega) (by omega) rfl) (DB rfl (e_stBf hB (by simp [hy]) rfl rfl Tryz.sizeOf5 (K0 .nil) (by omega)) ?_))))
    rintro _ _ _ - ⟨rfl, rfl⟩
    refine AP 13 rfl (fun _ => p_ix (hB.shp) (j := i - 2) rfl rfl Tryz.runUnderlying25 Tryz.sizeOf5 (by omega) (by omega) rfl) (TA_k (i := 14) rfl rfl (by kernel_rfl) rfl rfl (e_stBf hB (by simp [hy]) rfl rfl Tryz.sizeOf5 (K0 .nil) (by omega)) ?_)
    rintro _ _ _ - ⟨rfl, rfl⟩
    refine TA_done (by kernel_rfl) (E_seq (T_seq (T_regionD 12 Tryz.mixed rfl Part.all ?_)))
    obtain ⟨c8, hc8⟩ := dig2_at (j := u % 100000000 % 10000 / 100 * 2 + 1) (by omega)
    obtain ⟨d8, hd8⟩ := dig2_at (j := u % 100000000 % 10000 / 100 * 2) (by omega)
    refine Dp 0 rfl (p_move rfl) (Dp 1 rfl (p_move rfl) (Dp 2 rfl (p_sub rfl rfl ((fs (b := 3) (by omega) (by omega)))) (Dq 3 rfl (fun _ => p_move rfl) (Dq 4 rfl (fun _ => p_move rfl) (Dq 5 rfl (fun _ => p_sub rfl rfl ((fs (b := 4) (by omega) (by omega)))) (Dp 6 rfl (p_move rfl) ?_))))))
    refine Dp 7 rfl (p_add rfl rfl ((fa (k := .u32) rfl _ 1 (by show _ < 4294967296; omega)))) ?_
    refine Dp 8 rfl (p_indexL (j := u % 100000000 % 10000 / 100 * 2 + 1) rfl rfl Tryz.runUnderlying9 (by omega) hc8) (Dq 9 rfl (fun _ => p_move rfl) (Dq 10 rfl (fun _ => p_indexL (j := u % 100000000 % 10000 / 100 * 2) rfl rfl Tryz.runUnderlying9 (by omega) hd8) (Dp 11 rfl (p_ix (hB.shp) (j := i - 3) rfl rfl Tryz.runUnderlying25 Tryz.sizeOf5 (by omega) (by omega) rfl) (DB rfl (e_stBf hB (by simp [hy]) rfl rfl Tryz.sizeOf5 (K0 .nil) (by omega)) ?_))))
    rintro _ _ _ - ⟨rfl, rfl⟩
    refine AP 13 rfl (fun _ => p_ix (hB.shp) (j := i - 4) rfl rfl Tryz.runUnderlying25 Tryz.sizeOf5 (by omega) (by omega) rfl) (TA_k (i := 14) rfl rfl (by kernel_rfl) rfl rfl (e_stBf hB (by simp [hy]) rfl rfl Tryz.sizeOf5 (K0 .nil) (by omega)) ?_)
    rintro _ _ _ - ⟨rfl, rfl⟩
    refine TA_done (by kernel_rfl) (E_seq (T_seq (T_regionD 12 Tryz.mixed rfl Part.all ?_)))
    obtain ⟨c9, hc9⟩ := dig2_at (j := u % 100000000 / 10000 % 100 * 2 + 1) (by omega)
    obtain ⟨d9, hd9⟩ := dig2_at (j := u % 100000000 / 10000 % 100 * 2) (by omega)
    refine Dp 0 rfl (p_move rfl) (Dp 1 rfl (p_move rfl) (Dp 2 rfl (p_sub rfl rfl ((fs (b := 5) (by omega) (by omega)))) (Dq 3 rfl (fun _ => p_move rfl) (Dq 4 rfl (fun _ => p_move rfl) (Dq 5 rfl (fun _ => p_sub rfl rfl ((fs (b := 6) (by omega) (by omega)))) (Dp 6 rfl (p_move rfl) ?_))))))
    refine Dp 7 rfl (p_add rfl rfl ((fa (k := .u32) rfl _ 1 (by show _ < 4294967296; omega)))) ?_
    refine Dp 8 rfl (p_indexL (j := u % 100000000 / 10000 % 100 * 2 + 1) rfl rfl Tryz.runUnderlying9 (by omega) hc9) (Dq 9 rfl (fun _ => p_move rfl) (Dq 10 rfl (fun _ => p_indexL (j := u % 100000000 / 10000 % 100 * 2) rfl rfl Tryz.runUnderlying9 (by omega) hd9) (Dp 11 rfl (p_ix (hB.shp) (j := i - 5) rfl rfl Tryz.runUnderlying25 Tryz.sizeOf5 (by omega) (by omega) rfl) (DB rfl (e_stBf hB (by simp [hy]) rfl rfl Tryz.sizeOf5 (K0 .nil) (by omega)) ?_))))
    rintro _ _ _ - ⟨rfl, rfl⟩
    refine AP 13 rfl (fun _ => p_ix (hB.shp) (j := i - 6) rfl rfl Tryz.runUnderlying25 Tryz.sizeOf5 (by omega) (by omega) rfl) (TA_k (i := 14) rfl rfl (by kernel_rfl) rfl rfl (e_stBf hB (by simp [hy]) rfl rfl Tryz.sizeOf5 (K0 .nil) (by omega)) ?_)
    rintro _ _ _ - ⟨rfl, rfl⟩
    refine TA_done (by kernel_rfl) (E_seq (T_seq (T_regionD 12 Tryz.mixed rfl Part.all ?_)))
    obtain ⟨c10, hc10⟩ := dig2_at (j := u % 100000000 / 10000 / 100 * 2 + 1) (by omega)
    obtain ⟨d10, hd10⟩ := dig2_at (j := u % 100000000 / 10000 / 100 * 2) (by omega)
    refine Dp 0 rfl (p_move rfl) (Dp 1 rfl (p_move rfl) (Dp 2 rfl (p_sub rfl rfl ((fs (b := 7) (by omega) (by omega)))) (Dq 3 rfl (fun _ => p_move rfl) (Dq 4 rfl (fun _ => p_move rfl) (Dq 5 rfl (fun _ => p_sub rfl rfl ((fs (b := 8) (by omega) (by omega)))) (Dp 6 rfl (p_move rfl) ?_))))))
    refine Dp 7 rfl (p_add rfl rfl ((fa (k := .u32) rfl _ 1 (by show _ < 4294967296; omega)))) ?_
    refine Dp 8 rfl (p_indexL (j := u % 100000000 / 10000 / 100 * 2 + 1) rfl rfl Tryz.runUnderlying9 (by omega) hc10) (Dq 9 rfl (fun _ => p_move rfl) (Dq 10 rfl (fun _ => p_indexL (j := u % 100000000 / 10000 / 100 * 2) rfl rfl Tryz.runUnderlying9 (by omega) hd10) (Dp 11 rfl (p_ix (hB.shp) (j := i - 7) rfl rfl Tryz.runUnderlying25 Tryz.sizeOf5 (by omega) (by omega) rfl) (DB rfl (e_stBf hB (by simp [hy]) rfl rfl Tryz.sizeOf5 (K0 .nil) (by omega)) ?_))))
    rintro _ _ _ - ⟨rfl, rfl⟩
    refine AP 13 rfl (fun _ => p_ix (hB.shp) (j := i - 8) rfl rfl Tryz.runUnderlying25 Tryz.sizeOf5 (by omega) (by omega) rfl) (TA_k (i := 14) rfl rfl (by kernel_rfl) rfl rfl (e_stBf hB (by simp [hy]) rfl rfl Tryz.sizeOf5 (K0 .nil) (by omega)) ?_)
    rintro _ _ _ - ⟨rfl, rfl⟩
    refine TA_done (by kernel_rfl) (E_seq (T_region (Lm rfl (Lp (p_sub rfl rfl ((fs (b := 8) (by omega) (by omega)))) (La rfl (TL_nil (E_block (EL (.refl _) ((i - 8, u / 100000000, _)) ?hm ?hI ((K0 (K0 .nil)))))))))))
    case hm => exact (by dsimp only; omega)
    case hI => exact (fun g' hl => ⟨by dsimp only; omega, by dsimp only; omega, by simp [hy]⟩)
  ·
    skip
    refine T_exit (E_seq_exit (E_loop_exit (E_block_hit (E_seq (SR (Lm rfl (Lp (p_conv rfl Tryz.runUnderlying108 Tryz.runUnderlying29 (wrU32 (by omega) (by omega))) (La rfl (nS (T_cut (ι := Nat × Nat × List UInt8) (fun x _ => x.1 ≤ m ∧ x.1 < 4 ∧ x.2.1 < 4294967296 ∧ x.2.2.length = m) (fun x => [(0, v), (4, .int .i64 x.1), (12, .int .u32 x.2.1)]) (fun x => [A x.2.2, F]) ?_ ?_))))))))))
    ·
      refine SR (Lm rfl (Lp (p_geq rfl rfl) (nS (T_condD rfl (fun hc11 => ?_) (fun hc11 => ?_)))))
      ·
        skip
        refine SR (Lm rfl (Lp (p_rem rfl rfl (by decide) (remN _ 10000)) (La rfl (nSR (Lm rfl ?_)))))
        refine Lp (p_quo rfl rfl (by decide) (quoU (k := .u32) rfl _ 10000 (by show _ < 4294967296; omega))) ?_
        refine La rfl (nSR (Lm rfl ?_))
        refine Lp (p_quo rfl rfl (by decide) (quoU (k := .u32) rfl _ 100 (by show _ < 4294967296; omega))) ?_
        refine Lp (p_mul rfl rfl ((fm (k := .u32) rfl _ 2 (by show _ < 4294967296; omega)))) ?_
        refine Lm rfl (Lp (p_rem rfl rfl (by decide) (remN _ 100)) ?_)
        refine Lp (p_mul rfl rfl ((fm (k := .u32) rfl _ 2 (by show _ < 4294967296; omega)))) ?_
        refine La rfl (La rfl (nS (T_seq (T_regionD 12 Tryz.mixed rfl Part.all ?_))))
        obtain ⟨c17, hc17⟩ := dig2_at (j := u % 10000 % 100 * 2 + 1) (by omega)
        obtain ⟨d17, hd17⟩ := dig2_at (j := u % 10000 % 100 * 2) (by omega)
        refine Dp 0 rfl (p_move rfl) (Dp 1 rfl (p_move rfl) (Dp 2 rfl (p_sub rfl rfl ((fs (b := 1) (by omega) (by omega)))) (Dq 3 rfl (fun _ => p_move rfl) (Dq 4 rfl (fun _ => p_move rfl) (Dq 5 rfl (fun _ => p_sub rfl rfl ((fs (b := 2) (by omega) (by omega)))) (Dp 6 rfl (p_move rfl) ?_))))))
        refine Dp 7 rfl (p_add rfl rfl ((fa (k := .u32) rfl _ 1 (by show _ < 4294967296; omega)))) ?_
        refine Dp 8 rfl (p_indexL (j := u % 10000 % 100 * 2 + 1) rfl rfl Tryz.runUnderlying9 (by omega) hc17) (Dq 9 rfl (fun _ => p_move rfl) (Dq 10 rfl (fun _ => p_indexL (j := u % 10000 % 100 * 2) rfl rfl Tryz.runUnderlying9 (by omega) hd17) (Dp 11 rfl (p_ix (hB.shp) (j := i - 1) rfl rfl Tryz.runUnderlying25 Tryz.sizeOf5 (by omega) (by omega) rfl) (DB rfl (e_stBf hB (by simp [hy]) rfl rfl Tryz.sizeOf5 (K0 .nil) (by omega)) ?_))))
        rintro _ _ _ - ⟨rfl, rfl⟩
        refine AP 13 rfl (fun _ => p_ix (hB.shp) (j := i - 2) rfl rfl Tryz.runUnderlying25 Tryz.sizeOf5 (by omega) (by omega) rfl) (TA_k (i := 14) rfl rfl (by kernel_rfl) rfl rfl (e_stBf hB (by simp [hy]) rfl rfl Tryz.sizeOf5 (K0 .nil) (by omega)) ?_)
        rintro _ _ _ - ⟨rfl, rfl⟩
        refine TA_done (by kernel_rfl) (E_seq (T_seq (T_regionD 12 Tryz.mixed rfl Part.all ?_)))
        obtain ⟨c18, hc18⟩ := dig2_at (j := u % 10000 / 100 * 2 + 1) (by omega)
        obtain ⟨d18, hd18⟩ := dig2_at (j := u % 10000 / 100 * 2) (by omega)
        refine Dp 0 rfl (p_move rfl) (Dp 1 rfl (p_move rfl) (Dp 2 rfl (p_sub rfl rfl ((fs (b := 3) (by omega) (by omega)))) (Dq 3 rfl (fun _ => p_move rfl) (Dq 4 rfl (fun _ => p_move rfl) (Dq 5 rfl (fun _ => p_sub rfl rfl ((fs (b := 4) (by omega) (by omega)))) (Dp 6 rfl (p_move rfl) ?_))))))
        refine Dp 7 rfl (p_add rfl rfl ((fa (k := .u32) rfl _ 1 (by show _ < 4294967296; omega)))) ?_
        refine Dp 8 rfl (p_indexL (j := u % 10000 / 100 * 2 + 1) rfl rfl Tryz.runUnderlying9 (by omega) hc18) (Dq 9 rfl (fun _ => p_move rfl) (Dq 10 rfl (fun _ => p_indexL (j := u % 10000 / 100 * 2) rfl rfl Tryz.runUnderlying9 (by omega) hd18) (Dp 11 rfl (p_ix (hB.shp) (j := i - 3) rfl rfl Tryz.runUnderlying25 Tryz.sizeOf5 (by omega) (by omega) rfl) (DB rfl (e_stBf hB (by simp [hy]) rfl rfl Tryz.sizeOf5 (K0 .nil) (by omega)) ?_))))
        rintro _ _ _ - ⟨rfl, rfl⟩
        refine AP 13 rfl (fun _ => p_ix (hB.shp) (j := i - 4) rfl rfl Tryz.runUnderlying25 Tryz.sizeOf5 (by omega) (by omega) rfl) (TA_k (i := 14) rfl rfl (by kernel_rfl) rfl rfl (e_stBf hB (by simp [hy]) rfl rfl Tryz.sizeOf5 (K0 .nil) (by omega)) ?_)
        rintro _ _ _ - ⟨rfl, rfl⟩
        refine TA_done (by kernel_rfl) (E_seq (T_region (Lm rfl (Lp (p_sub rfl rfl ((fs (b := 4) (by omega) (by omega)))) (La rfl (TL_nil (EC (.refl _) ((i - 4, u / 10000, _)) ?hI (K0 (K0 .nil)))))))))
        case hI => intro g' hl; exact ⟨by dsimp only; omega, by dsimp only; omega, by dsimp only; omega, by simp [hy]⟩
      ·
        skip
        refine T_skip (EC (.refl _) ((i, u, _)) ?hI (K0 (K0 .nil)))
        case hI => intro g' hl; exact ⟨by dsimp only; omega, by dsimp only; omega, by dsimp only; omega, hy⟩
    ·
      rintro ⟨i2, u2, ys2⟩ gB hlgB ⟨hi2, hi4, hu2, hy2⟩
      try dsimp only
      try dsimp only at hi2 hi4 hu2 hy2
      refine T_cut (ι := Nat × Nat × List UInt8) (fun x _ => x.1 ≤ m ∧ x.1 < 2 ∧ x.2.1 < 4294967296 ∧ x.2.2.length = m) (fun x => [(0, v), (4, .int .i64 x.1), (12, .int .u32 x.2.1)]) (fun x => [A x.2.2, F]) ?_ ?_
      ·
        refine SR (Lm rfl (Lp (p_geq rfl rfl) (nS (T_condD rfl (fun hc17 => ?_) (fun hc17 => ?_)))))
        ·
          skip
          refine SR (Lm rfl (Lp (p_rem rfl rfl (by decide) (remN _ 100)) ?_))
          refine Lp (p_mul rfl rfl ((fm (k := .u32) rfl _ 2 (by show _ < 4294967296; omega)))) ?_
          refine La rfl (nSR (Lm rfl ?_))
          refine Lp (p_quo rfl rfl (by decide) (quoU (k := .u32) rfl _ 100 (by show _ < 4294967296; omega))) ?_
          refine La rfl (nS (T_seq (T_regionD 12 Tryz.mixed rfl Part.all ?_)))
          obtain ⟨c23, hc23⟩ := dig2_at (j := u2 % 100 * 2 + 1) (by omega)
          obtain ⟨d23, hd23⟩ := dig2_at (j := u2 % 100 * 2) (by omega)
          refine Dp 0 rfl (p_move rfl) (Dp 1 rfl (p_move rfl) (Dp 2 rfl (p_sub rfl rfl ((fs (b := 1) (by omega) (by omega)))) (Dq 3 rfl (fun _ => p_move rfl) (Dq 4 rfl (fun _ => p_move rfl) (Dq 5 rfl (fun _ => p_sub rfl rfl ((fs (b := 2) (by omega) (by omega)))) (Dp 6 rfl (p_move rfl) ?_))))))
          refine Dp 7 rfl (p_add rfl rfl ((fa (k := .u32) rfl _ 1 (by show _ < 4294967296; omega)))) ?_
          refine Dp 8 rfl (p_indexL (j := u2 % 100 * 2 + 1) rfl rfl Tryz.runUnderlying9 (by omega) hc23) (Dq 9 rfl (fun _ => p_move rfl) (Dq 10 rfl (fun _ => p_indexL (j := u2 % 100 * 2) rfl rfl Tryz.runUnderlying9 (by omega) hd23) (Dp 11 rfl (p_ix (hB.shp) (j := i2 - 1) rfl rfl Tryz.runUnderlying25 Tryz.sizeOf5 (by omega) (by omega) rfl) (DB rfl (e_stBf hB (by simp [hy2]) rfl rfl Tryz.sizeOf5 (K0 .nil) (by omega)) ?_))))
          rintro _ _ _ - ⟨rfl, rfl⟩
          refine AP 13 rfl (fun _ => p_ix (hB.shp) (j := i2 - 2) rfl rfl Tryz.runUnderlying25 Tryz.sizeOf5 (by omega) (by omega) rfl) (TA_k (i := 14) rfl rfl (by kernel_rfl) rfl rfl (e_stBf hB (by simp [hy2]) rfl rfl Tryz.sizeOf5 (K0 .nil) (by omega)) ?_)
          rintro _ _ _ - ⟨rfl, rfl⟩
          refine TA_done (by kernel_rfl) (E_seq (T_region (Lm rfl (Lp (p_sub rfl rfl ((fs (b := 2) (by omega) (by omega)))) (La rfl (TL_nil (EC (.refl _) ((i2 - 2, u2 / 100, _)) ?hI (K0 (K0 .nil)))))))))
          case hI => intro g' hl; exact ⟨by dsimp only; omega, by dsimp only; omega, by dsimp only; omega, by simp [hy2]⟩
        ·
          skip
          refine T_skip (EC (.refl _) ((i2, u2, _)) ?hI (K0 (K0 .nil)))
          case hI => intro g' hl; exact ⟨by dsimp only; omega, by dsimp only; omega, by dsimp only; omega, hy2⟩
      ·
        rintro ⟨i3, u3, ys3⟩ gC hlgC ⟨hi3, hi5, hu3, hy3⟩
        try dsimp only
        try dsimp only at hi3 hi5 hu3 hy3
        refine SR (Lm rfl (Lp (p_gtr rfl rfl) (nS (T_condD rfl (fun hc21 => ?_) (fun hc21 => ?_)))))
        ·
          obtain ⟨c, hc⟩ := u8_of (IntKind.u32.wrap (48 + (u3 : Int)))
          refine T_region (Lm rfl (Lm rfl (Lp (p_add rfl rfl (rfl)) (Lp (p_conv rfl Tryz.runUnderlying29 Tryz.runUnderlying5 (hc)) (Lp (p_ix (hB.shp) (j := 0) rfl rfl Tryz.runUnderlying25 Tryz.sizeOf5 rfl (by omega) rfl) (TL_k0 (e_stBf (j := 0) hB hy3 rfl rfl Tryz.sizeOf5 (K0 .nil) (by omega)) ?_))))))
          rintro _ _ _ - ⟨rfl, rfl⟩
          refine TL_nil (E_end0 [_] rfl ((hlgA.trans hlgB).trans hlgC) (K0 (K0 .nil)) (fun g' hl => ?_))
          exact ⟨_, by rw [List.length_set]; exact hy3, rfl⟩
        ·
          skip
          refine T_skip (E_end0 [_] rfl ((hlgA.trans hlgB).trans hlgC) (K0 (K0 .nil)) (fun g' hl => ?_))
          exact ⟨_, hy3, rfl⟩
end Go.Proofs.YtolddodhmeaceaaGreatDoor
namespace Go.Proofs.YtolddodhmeaceaaGreatDoor
open Go.Hl Go.Pk
theorem ct_small (g : GW) (n : Nat) (h : n < 100) : Ct Tryz.prog g 168 [.int .i64 n] [] (fun r _ H' => ∃ t : List UInt8, t.length ≤ 24 ∧ r = str t ∧ H' = []) := by
  refine CI Tryz.func168 Tryz.ntmps168 rfl fun F g0 hg0 => ?_
  refine SR (La rfl (nS (T_seq (SR (Lm rfl (Lp (p_lss rfl rfl) (nS (T_condD rfl (fun hc1 => ?_) (fun hc1 => ?_)))))))))
  ·
    refine SR (Lm rfl (Lm rfl ?_))
    refine Lp (p_add rfl rfl ((show IntKind.i64.wrap ((n : Int) + 1) = ((n + 1 : Nat) : Int) from by rw [wr64 (by omega) (by omega)]; omega))) ?_
    refine Lp (p_sliceStr (l := dig1) (a := n) (b := n + 1) rfl rfl rfl Tryz.runUnderlying9 rfl rfl (by omega) (show n + 1 ≤ 36 from by omega) rfl) (La rfl (nr (E_seq_ret (E_ret1 [] rfl (.refl _) rfl (K0 .nil) (fun g' hl => ?_)))))
    exact ⟨_, by rw [List.length_drop, List.length_take]; omega, rfl, rfl⟩
  ·
    refine kS (SR (Lm rfl ?_))
    refine Lp (p_mul rfl rfl ((show IntKind.i64.wrap ((n : Int) * 2) = ((n * 2 : Nat) : Int) from by rw [wr64 (by omega) (by omega)]; omega))) ?_
    refine Lm rfl ?_
    refine Lp (p_mul rfl rfl ((show IntKind.i64.wrap ((n : Int) * 2) = ((n * 2 : Nat) : Int) from by rw [wr64 (by omega) (by omega)]; omega))) ?_
    refine Lp (p_add rfl rfl ((show IntKind.i64.wrap (((n * 2 : Nat) : Int) + 2) = ((n * 2 + 2 : Nat) : Int) from by rw [wr64 (by omega) (by omega)]; omega))) ?_
    refine Lp (p_sliceStr (l := dig2) (a := n * 2) (b := n * 2 + 2) rfl rfl rfl Tryz.runUnderlying9 rfl rfl (by omega) (show n * 2 + 2 ≤ 200 from by omega) rfl) (La rfl (nr (E_ret1 [] rfl (.refl _) rfl (K0 .nil) (fun g' hl => ?_))))
    exact ⟨_, by rw [List.length_drop, List.length_take]; omega, rfl, rfl⟩
abbrev arrV (b n : Nat) : Value := .slice (some ⟨b, 0, none⟩) n n
abbrev arrA (b : Nat) (e : TypeId) (xs : List UInt8) : Atom := blk b (.cells (bvs xs).toArray e)
theorem arr_parts (b : Nat) (e : TypeId) (xs : List UInt8) {c d : Nat} (h : c ≤ d) : arrA b e xs = arrA b e (xs.take c ++ (xs.drop c).take (d - c) ++ xs.drop d) := by rw [parts xs c d h]
theorem ct_fmtInt (g : GW) (hT : Cells g 25 0 pow10V) (n : Nat) (h : n < 4294967296) :
    Ct Tryz.prog g 156 [.int .i64 n, .int .i64 10] [] (fun r _ H' => ∃ t : List UInt8, t.length ≤ 24 ∧ r = str t ∧ H' = []) := by
  refine CI Tryz.func156 Tryz.ntmps156 rfl fun F g0 hg0 => ?_
  replace hT := hT.mono hg0
  refine SR (La rfl (nS (T_seq (SR (Lm rfl (Lp (p_eql rfl rfl) (nS (T_condD rfl (fun hc1 => ?_) (fun hc1 => ?_)))))))))
  ·
    skip
    refine T_seq (SR (Lm rfl (Lp (p_leq rfl rfl) (Lm rfl (TL_splitD 14 rfl (fun hg2 => ?_) (fun hg2 => ?_))))))
    ·
      refine Lg (p_move rfl) (Lg (p_lss rfl rfl) (Lp (p_pickT rfl rfl) (nS (T_condD rfl (fun hc3 => ?_) (fun hc3 => ?_)))))
      ·
        skip
        refine SR (Lm rfl (Lk (e_call rfl (ct_small g0 n (by omega)) .nil) ?_))
        rintro _ _ _ - ⟨_, rfl, ⟨t, ht, rfl, rfl⟩⟩
        refine La rfl (nr (E_seq_ret (E_seq_ret (E_ret1 [] rfl (.refl _) rfl (K0 .nil) (fun g' hl => ?_)))))
        exact ⟨t, ht, rfl, rfl⟩
      ·
        skip
        refine kS (SR (Lk (e_alloc Tryz.zeroValue354 (show _ = (bvs (List.replicate 24 0)).toArray from rfl)) ?_))
        rintro _ _ _ - ⟨b, rfl, rfl⟩
        refine nSR (Lm rfl (Lp (p_conv rfl Tryz.runUnderlying2 Tryz.runUnderlying108 (wrU64 (by omega) (by omega))) (La rfl (nS (T_seq (SR (Lm rfl (Lp (p_lss rfl rfl) (nS (T_condD rfl (fun hc6 => ?_) (fun hc6 => ?_)))))))))))
        ·
          exact absurd hc6 (by omega)
        ·
          skip
          refine kS (SR (Lm rfl (Lk (e_call rfl (ct_numDigits g0 hT n h) .nil) ?_)))
          rintro _ _ _ - ⟨_, rfl, ⟨k, hk, rfl, rfl⟩⟩
          refine La rfl (nSR (Lm rfl ?_))
          refine Lp (p_add rfl rfl ((show IntKind.i64.wrap (1 + (k : Int)) = ((1 + k : Nat) : Int) from by rw [wr64 (by omega) (by omega)]; omega))) ?_
          refine Lp (p_slALH (a := 1) (b := 1 + k) rfl Tryz.runUnderlying354 Tryz.sizeOf5 rfl rfl rfl rfl (by omega) (by omega) rfl) (Lm rfl ?_)
          have hz : (List.replicate 24 (0 : UInt8)).length = 24 := List.length_replicate
          obtain ⟨z, hze⟩ : ∃ z, z = List.replicate 24 (0 : UInt8) := ⟨_, rfl⟩
          rw [← hze] at hz ⊢
          rw [show blk b (.cells (bvs z).toArray 354) = arrA b 354 (z.take 1 ++ (z.drop 1).take (1 + k - 1) ++ z.drop (1 + k)) from arr_parts b 354 z (by omega)]
          refine Lk (e_call rfl (ct_fmt10 g0 _ _ _ (Bf.sub (Bf.whole (b := b) (m := 24) (e := 354)) hz (c := 1) (d := 1 + k) (by omega) (by omega)) (by omega) ((z.drop 1).take (1 + k - 1)) (by rw [List.length_take, List.length_drop]; omega) n h) (K0 .nil)) ?_
          rintro _ _ _ - ⟨_, rfl, ⟨ys, hys, rfl⟩⟩
          refine nS (T_seq (SR (Lm rfl (Lp (p_lss rfl rfl) (nS (T_condD rfl (fun hc9 => ?_) (fun hc9 => ?_)))))))
          ·
            exact absurd hc9 (by omega)
          ·
            skip
            refine kS (SR (Lm rfl ?_))
            refine Lp (p_add rfl rfl ((show IntKind.i64.wrap (1 + (k : Int)) = ((1 + k : Nat) : Int) from by rw [wr64 (by omega) (by omega)]; omega))) ?_
            refine Lp (p_slALH (a := 1) (b := 1 + k) rfl Tryz.runUnderlying354 Tryz.sizeOf5 rfl rfl rfl rfl (by omega) (by omega) rfl) (Lp (p_bytesStrS (Bf.sub (Bf.whole (b := b) (m := 24) (e := 354)) hz (c := 1) (d := 1 + k) (by omega) (by omega)).shp (src_bf (Bf.sub (Bf.whole (b := b) (m := 24) (e := 354)) hz (c := 1) (d := 1 + k) (by omega) (by omega)) hys (.head _)) rfl Tryz.runUnderlying25 Tryz.runUnderlying9 Tryz.runUnderlying5) (La rfl (nr (E_seq_ret (E_ret1 [] rfl (.refl _) rfl (K1 .nil) (fun g' hl => ?_))))))
            exact ⟨ys, by omega, rfl, rfl⟩
    ·
      exact absurd (Int.natCast_nonneg n) hg2
  ·
    exact absurd rfl hc1
theorem ct_FormatInt (g : GW) (hT : Cells g 25 0 pow10V) (n : Nat) (h : n < 4294967296) :
    Ct Tryz.prog g 137 [.int .i64 n, .int .i64 10] [] (fun r _ H' => ∃ t : List UInt8, t.length ≤ 24 ∧ r = str t ∧ H' = []) := by
  refine CI Tryz.func137 Tryz.ntmps137 rfl fun F g0 hg0 => ?_
  replace hT := hT.mono hg0
  refine SR (La rfl (nSR (Lm rfl (Lm rfl (Lk (e_call rfl (ct_fmtInt g0 hT n h) .nil) ?_)))))
  rintro _ _ _ - ⟨_, rfl, ⟨t, ht, rfl, rfl⟩⟩
  refine La rfl (nr (E_ret1 [] rfl (.refl _) rfl (K0 .nil) (fun g' hl => ?_)))
  exact ⟨t, ht, rfl, rfl⟩
end Go.Proofs.YtolddodhmeaceaaGreatDoor
namespace Go.Proofs.YtolddodhmeaceaaGreatDoor
open Go.Hl Go.Pk
theorem ct_typeStr (g : GW) (k : Int) : Ct Tryz.prog g 155 [.int .i8 k] [] (fun r _ H' => ∃ t : List UInt8, t.length ≤ 9 ∧ r = str t ∧ H' = []) := by
  refine CI Tryz.func155 Tryz.ntmps155 rfl fun F g0 hg0 => ?_
  refine SR (La rfl (nSR (Lm rfl (nS (T_block (SR (Lp (p_eql rfl rfl) (La rfl (nS (T_condD rfl (fun hc1 => ?_) (fun hc1 => ?_)))))))))))
  ·
    refine SR (La rfl (nr (E_block_ret (E_ret1 [] rfl (.refl _) rfl (K0 .nil) (fun g' hl => ?_)))))
    exact ⟨[99, 111, 109, 109, 105, 116], by decide, rfl, rfl⟩
  ·
    refine SR (Lp (p_eql rfl rfl) (La rfl (nS (T_condD rfl (fun hc2 => ?_) (fun hc2 => ?_)))))
    ·
      refine SR (La rfl (nr (E_block_ret (E_ret1 [] rfl (.refl _) rfl (K0 .nil) (fun g' hl => ?_)))))
      exact ⟨[116, 114, 101, 101], by decide, rfl, rfl⟩
    ·
      refine SR (Lp (p_eql rfl rfl) (La rfl (nS (T_condD rfl (fun hc3 => ?_) (fun hc3 => ?_)))))
      ·
        refine SR (La rfl (nr (E_block_ret (E_ret1 [] rfl (.refl _) rfl (K0 .nil) (fun g' hl => ?_)))))
        exact ⟨[98, 108, 111, 98], by decide, rfl, rfl⟩
      ·
        refine SR (Lp (p_eql rfl rfl) (La rfl (nS (T_condD rfl (fun hc4 => ?_) (fun hc4 => ?_)))))
        ·
          refine SR (La rfl (nr (E_block_ret (E_ret1 [] rfl (.refl _) rfl (K0 .nil) (fun g' hl => ?_)))))
          exact ⟨[116, 97, 103], by decide, rfl, rfl⟩
        ·
          refine SR (Lp (p_eql rfl rfl) (La rfl (nS (T_condD rfl (fun hc5 => ?_) (fun hc5 => ?_)))))
          ·
            refine SR (La rfl (nr (E_block_ret (E_ret1 [] rfl (.refl _) rfl (K0 .nil) (fun g' hl => ?_)))))
            exact ⟨[111, 102, 115, 45, 100, 101, 108, 116, 97], by decide, rfl, rfl⟩
          ·
            refine SR (Lp (p_eql rfl rfl) (La rfl (nS (T_condD rfl (fun hc6 => ?_) (fun hc6 => ?_)))))
            ·
              refine SR (La rfl (nr (E_block_ret (E_ret1 [] rfl (.refl _) rfl (K0 .nil) (fun g' hl => ?_)))))
              exact ⟨[114, 101, 102, 45, 100, 101, 108, 116, 97], by decide, rfl, rfl⟩
            ·
              refine SR (Lp (p_eql rfl rfl) (La rfl (nS (T_condD rfl (fun hc7 => ?_) (fun hc7 => ?_)))))
              ·
                refine SR (La rfl (nr (E_block_ret (E_ret1 [] rfl (.refl _) rfl (K0 .nil) (fun g' hl => ?_)))))
                exact ⟨[97, 110, 121], by decide, rfl, rfl⟩
              ·
                refine SR (La rfl (nr (E_block_ret (E_ret1 [] rfl (.refl _) rfl (K0 .nil) (fun g' hl => ?_)))))
                exact ⟨[117, 110, 107, 110, 111, 119, 110], by decide, rfl, rfl⟩
theorem ct_typeBytes (g : GW) (k : Int) : Ct Tryz.prog g 136 [.int .i8 k] [] (fun r _ H' => ∃ t : List UInt8, t.length ≤ 9 ∧ Shp r t.length ∧ H' = [own r 1 5 (bvs t)]) := by
  refine CI Tryz.func136 Tryz.ntmps136 rfl fun F g0 hg0 => ?_
  refine SR (La rfl (nSR (Lm rfl (Lk (e_call rfl (ct_typeStr g0 k) .nil) ?_))))
  rintro _ _ _ - ⟨_, rfl, ⟨t, ht, rfl, rfl⟩⟩
  refine Lk (e_strBytes rfl Tryz.runUnderlying9 Tryz.runUnderlying25 Tryz.runUnderlying5) ?_
  rintro o _ _ - ⟨hs_o, rfl⟩
  refine La rfl (nr (E_ret1 [_] rfl (.refl _) rfl (K0 (K0 .nil)) (fun g' hl => ?_)))
  exact ⟨t, ht, hs_o, rfl⟩
theorem ct_hWriteO (g : GW) (hb : Nat) (v pv : Value) (l p : List UInt8) (hp : Shp pv p.length) (hl : l.length + p.length ≤ 1000000000) :
    Ct Tryz.prog g 281 [pV hb, pv] (own pv 1 5 (bvs p) :: hashA hb v l) (fun r _ H' => r = .tuple #[.int .i64 p.length, .nilIface] ∧ ∃ v', H' = own pv 1 5 (bvs p) :: hashA hb v' (l ++ p)) :=
  (Ct.thaw (A := own pv 1 5 (bvs p)) (R := fun r H' => r = .tuple #[.int .i64 p.length, .nilIface] ∧ ∃ v', H' = hashA hb v' (l ++ p)) ⟨_, Tryz.func281, by kernel_rfl, by kernel_rfl⟩ (fun g1 _ hst => ct_hWrite g1 hb v pv l p ⟨hp, hst.rd⟩ hl)).mono
    fun _ _ _ _ h => by obtain ⟨H0, rfl, h1, v', rfl⟩ := h; exact ⟨h1, v', rfl⟩
abbrev hasherV (hb : Nat) : Value := .agg #[hashV hb]
theorem ct_NewHasher (g : GW) (hT : Cells g 25 0 pow10V) (k : Int) (n : Nat) (h : n < 4294967296) :
    Ct Tryz.prog g 100 [.int .i8 k, .int .i64 n] [] (fun r _ H' => ∃ hb v l, l.length ≤ 40 ∧ r = hasherV hb ∧ H' = hashA hb v l) := by
  refine CI Tryz.func100 Tryz.ntmps100 rfl fun F g0 hg0 => ?_
  replace hT := hT.mono hg0
  refine SR (Lk (e_alloc Tryz.zeroValue218 (show _ = #[Value.nilIface] from rfl)) ?_)
  rintro _ _ _ - ⟨r, rfl, rfl⟩
  refine nSR (Lk (e_call rfl (ct_hashNew g0) .nil) ?_)
  rintro _ _ _ - ⟨_, rfl, ⟨hb, rfl, rfl⟩⟩
  refine Lp (p_build (cells := #[hashV hb]) rfl (by kernel_rfl)) (Lk (e_alloc Tryz.zeroValue218 (show _ = #[Value.nilIface] from rfl)) ?_)
  rintro _ _ _ - ⟨t, rfl, rfl⟩
  refine TL_k0 (e_storeW rfl rfl Tryz.sizeOf218 rfl rfl (by intro u hu; simp [Value.cells] at hu; subst hu; rfl) (K0 .nil) rfl) ?_
  rintro _ _ _ - ⟨rfl, rfl⟩
  refine nS (T_seq (T_regionD 7 Tryz.mixed rfl (K0 (K3 .nil)) (Dp 0 rfl (p_fieldAddr rfl Tryz.runUnderlying218 rfl Tryz.sizeOf121 rfl) (Dp 1 rfl (p_load rfl Tryz.isAgg121 (.head _) rfl) (Dp 2 rfl (p_move rfl) (Dp 4 rfl (p_nilCheckI rfl) (Dp 5 rfl (p_move rfl) (DK 3 rfl (e_call rfl (ct_typeBytes g0 k) .nil) ?_))))))))
  rintro _ _ _ - ⟨_, rfl, ⟨p1, hp1, hs1, rfl⟩⟩
  refine ⟨_, (K1 (K1 .nil)), ?_⟩
  refine DK 6 rfl (e_invoke rfl (fun w => by kernel_rfl) rfl (ct_hWriteO g0 hb _ _ [] p1 hs1 (by simp; omega)) (K2 (K2 (K2 .nil)))) ?_
  rintro _ _ _ - ⟨_, rfl, ⟨rfl, v1, rfl⟩⟩
  refine ⟨_, (K3 (K3 .nil)), ?_⟩
  refine DD (E_seq (SR (Lf rfl Tryz.runUnderlying218 rfl Tryz.sizeOf121 rfl (Lp (p_load rfl Tryz.isAgg121 (.head _) rfl) (Lk (e_buildSliceB rfl rfl rfl Tryz.runUnderlying25 Tryz.sizeOf5 Tryz.zeroValue5 rfl (by simp [Value.cells])) ?_)))))
  rintro _ _ _ - ⟨q, rfl, rfl⟩
  refine Lk (e_mark rfl Tryz.runUnderlying25 Tryz.runUnderlying5 (K0 .nil) rfl) ?_
  rintro _ _ _ - ⟨rfl, rfl⟩
  refine Lk (e_invoke rfl (fun w => by kernel_rfl) rfl (ct_hWriteO g0 hb _ _ ([] ++ p1) [32] (.some _ _ _ _ (Nat.le_refl _)) (by simp; omega)) (K0 (K3 (K3 .nil)))) ?_
  rintro _ _ _ - ⟨_, rfl, ⟨rfl, v2, rfl⟩⟩
  refine nS (T_seq (T_regionD 8 Tryz.mixed rfl (K3 (K3 .nil)) (Dp 0 rfl (p_fieldAddr rfl Tryz.runUnderlying218 rfl Tryz.sizeOf121 rfl) (Dp 1 rfl (p_load rfl Tryz.isAgg121 (.head _) rfl) (Dp 2 rfl (p_move rfl) (Dp 5 rfl (p_nilCheckI rfl) (Dp 6 rfl (p_move rfl) (DK 3 rfl (e_call rfl (ct_FormatInt g0 hT n h) .nil) ?_))))))))
  rintro _ _ _ - ⟨_, rfl, ⟨p2, hp2, rfl, rfl⟩⟩
  refine ⟨_, (K0 (K0 .nil)), ?_⟩
  refine DK 4 rfl (e_strBytes rfl Tryz.runUnderlying9 Tryz.runUnderlying25 Tryz.runUnderlying5) ?_
  rintro w _ _ - ⟨hs_w, rfl⟩
  refine ⟨_, (K1 (K1 .nil)), ?_⟩
  refine DK 7 rfl (e_invoke rfl (fun w => by kernel_rfl) rfl (ct_hWriteO g0 hb _ _ ([] ++ p1 ++ [32]) p2 hs_w (by simp; omega)) (K2 (K3 (K3 .nil)))) ?_
  rintro _ _ _ - ⟨_, rfl, ⟨rfl, v3, rfl⟩⟩
  refine ⟨_, (K3 (K3 .nil)), ?_⟩
  refine DD (E_seq (SR (Lf rfl Tryz.runUnderlying218 rfl Tryz.sizeOf121 rfl (Lp (p_load rfl Tryz.isAgg121 (.head _) rfl) (Lk (e_buildSlice rfl rfl rfl Tryz.runUnderlying25 Tryz.sizeOf5 Tryz.zeroValue5 rfl (by simp [Value.cells])) ?_)))))
  rintro _ _ _ - ⟨u, rfl, rfl⟩
  refine Lk (e_invoke rfl (fun w => by kernel_rfl) rfl (ct_hWriteO g0 hb _ _ ([] ++ p1 ++ [32] ++ p2) [0] (.some _ _ _ _ (Nat.le_refl _)) (by simp; omega)) (K0 (K3 (K3 .nil)))) ?_
  rintro _ _ _ - ⟨_, rfl, ⟨rfl, v4, rfl⟩⟩
  refine nSR (Lp (p_loadW (cs := #[hashV hb]) rfl Tryz.isAgg218 Tryz.sizeOf218 (.tail _ (.tail _ (.tail _ (.head _)))) rfl) ?_)
  refine TL_k0 (e_storeW rfl rfl Tryz.sizeOf218 rfl rfl (by intro u hu; simp [Value.cells] at hu; subst hu; rfl) (K8 .nil) rfl) ?_
  rintro _ _ _ - ⟨rfl, rfl⟩
  refine nr (E_retV [_, _] rfl (.refl _) (.cons (.whole rfl Tryz.isAgg218 Tryz.sizeOf218 (.head _) rfl) .nil) (K2 (K2 (K3 .nil))) (fun g' hl => ?_))
  exact ⟨hb, v4, [] ++ p1 ++ [32] ++ p2 ++ [0], by simp; omega, rfl, rfl⟩
theorem wr_hasher (g : GW) (hb : Nat) : Wr Tryz.prog g (.iface 218 (hasherV hb)) (SkHash hb) := by
  refine ⟨_, _, 281, .pointer (some ⟨hb, 0, none⟩), rfl, (fun w => by kernel_rfl), fun g1 hl1 n S pv p hS hp hn => ?_⟩
  obtain ⟨v, l, rfl, rfl⟩ := hS
  exact ((ct_hWrite g1 hb v pv l p hp hn).many).mono fun r g' H' _ hR => by
    obtain ⟨H0, rfl, rfl, v', rfl⟩ := hR
    exact ⟨rfl, _, rfl, v', l ++ p, by simp, rfl⟩
theorem ct_hasherSum (g : GW) (hb : Nat) (v : Value) (l : List UInt8) (hl : l.length ≤ 1000000000) :
    Ct Tryz.prog g 106 [hasherV hb] (hashA hb v l) (fun r _ H' => ∃ d : List UInt8, d.length = 20 ∧ r = .agg (bvs d).toArray ∧ H' = hashA hb v l) := by
  refine CI Tryz.func106 Tryz.ntmps106 rfl fun F g0 hg0 => ?_
  refine SR (Lk (e_box rfl rfl) ?_)
  rintro _ _ _ - ⟨t, rfl, rfl⟩
  refine Lk (e_alloc Tryz.zeroValue79 (show _ = (bvs (List.replicate 20 0)).toArray from rfl)) ?_
  rintro _ _ _ - ⟨b, rfl, rfl⟩
  refine nS (T_seq (T_regionD 5 Tryz.mixed rfl (K1 (K3 .nil)) (Dp 0 rfl (p_slA0 rfl Tryz.runUnderlying79 Tryz.sizeOf5 (sl_self (.some _ _ _ _ (Nat.le_refl _)))) (Dp 1 rfl (p_fieldAddr rfl Tryz.runUnderlying218 rfl Tryz.sizeOf121 rfl) (Dp 2 rfl (p_load rfl Tryz.isAgg121 (.head _) rfl) (DK 3 rfl (e_invoke rfl (fun w => by kernel_rfl) rfl (ct_hSum g0 hb v l hl) (K3 (K3 .nil))) ?_))))))
  rintro _ _ _ - ⟨_, rfl, ⟨hsd, rfl⟩⟩
  refine ⟨_, (K3 (K3 .nil)), ?_⟩
  refine DK 4 rfl (e_copyB (A := _) rfl rfl rfl Tryz.runUnderlying25 Tryz.sizeOf5 (src_own hsd (by rw [bvs_length, sha1L_length]) (.tail _ (.tail _ (.head _)))) (Bf.whole (b := b) (m := 20) (e := 79)) List.length_replicate (K5 .nil)) ?_
  rintro _ _ _ - ⟨rfl, rfl⟩
  refine ⟨_, (K1 (K1 .nil)), ?_⟩
  refine DD (E_seq (T_ret (E_retV [_, _] rfl (.refl _) (.cons (.whole rfl Tryz.isAgg79 Tryz.sizeOf79 (.tail _ (.tail _ (.head _))) (by simp [bvs_length, sha1L_length])) .nil) (K4 (K4 (K1 .nil))) (fun g' hl => ?_))))
  exact ⟨_, by simp [sha1L_length], rfl, rfl⟩
end Go.Proofs.YtolddodhmeaceaaGreatDoor
namespace Go.Hl
variable {P : Program}
theorem bvs_at {l : List UInt8} {i : Nat} (h : i < l.length) : (bvs l).toArray[i]? = some (.int .u8 (l[i].toNat)) := by
  simp [bvs, bv, h]
theorem run_eqBytes (d : Nat) {e : TypeId} (he : P.underlying e = some (.int .u8)) (hc : P.cellsOf e = 1) {n : Nat} {a b : List UInt8} (ha : a.length = n) (hb : b.length = n) (w : World) :
    ∀ is : List Nat, (∀ i ∈ is, i < n) → ∃ r : Bool, (Op.eqItems (d + 1) e (P.cellsOf e) (bvs a).toArray (bvs b).toArray is).run P w = .ok r w ∧ (r = true ↔ ∀ i ∈ is, a[i]? = b[i]?)
  | [], _ => ⟨true, by simp [Op.eqItems], by simp⟩
  | i :: is, h => by
    have hp : P.plainKey e = true := by simp [Program.plainKey, he]
    have hi := h i (by simp)
    obtain ⟨r', hr', hiff⟩ := run_eqBytes d he hc ha hb w is (fun j hj => h j (by simp [hj]))
    have p1 := run_part_plain (P := P) w hp (bvs_at (l := a) (i := i) (by omega))
    have p2 := run_part_plain (P := P) w hp (bvs_at (l := b) (i := i) (by omega))
    have p3 := run_equalIn_int (P := P) w d e .u8 .u8 (a[i].toNat : Int) (b[i].toNat : Int) he
    simp only [Op.eqItems, hc, Nat.mul_one, Sem.run_bind, p1, p2, p3, Result.andThen_ok]
    have hab : (((a[i].toNat : Int) == (b[i].toNat : Int)) = true) ↔ a[i]? = b[i]? := by
      rw [List.getElem?_eq_getElem (by omega), List.getElem?_eq_getElem (by omega)]
      simp only [beq_iff_eq, Option.some.injEq]
      constructor
      · intro hh; exact UInt8.toNat_inj.1 (by omega)
      · intro hh; rw [hh]
    by_cases hx : ((a[i].toNat : Int) == (b[i].toNat : Int)) = true
    · refine ⟨r', ?_, ?_⟩
      · simp only [hx]; rw [hc] at hr'; simpa using hr'
      · rw [hiff]; simp [hab.1 hx]
    · have hx' : ((a[i].toNat : Int) == (b[i].toNat : Int)) = false := by simpa using hx
      refine ⟨false, by simp [hx'], ?_⟩
      constructor
      · intro hh; cases hh
      · intro hh; exact absurd (hab.2 (hh i (by simp))) hx
abbrev Hn (n : Nat) : Type := { l : List UInt8 // l.length = n }
def hkey {n : Nat} (l : Hn n) : Value := .agg (bvs l.1).toArray
theorem run_eqArr (d : Nat) {t e : TypeId} {n : Nat} {i : TypeInfo} (hu : P.underlying t = some (.array n e)) (he : P.underlying e = some (.int .u8)) (hi : P.info? e = some i) (hc : P.cellsOf e = 1) (a b : Hn n) (w : World) :
    (Op.equalIn (d + 2) t (hkey a) (hkey b)).run P w = .ok (decide (a = b)) w := by
  unfold hkey
  rw [run_equalIn_array w (d + 1) _ _ hu hi]
  obtain ⟨r, hr, hiff⟩ := run_eqBytes (P := P) d he hc a.2 b.2 w (List.range n) (fun i hi => List.mem_range.1 hi)
  rw [hr]
  congr 1
  rw [Bool.eq_iff_iff, hiff, decide_eq_true_eq]
  constructor
  · intro h
    apply Subtype.ext
    apply List.ext_getElem?
    intro j
    by_cases hj : j < n
    · exact h j (List.mem_range.2 hj)
    · rw [List.getElem?_eq_none (by rw [a.2]; omega), List.getElem?_eq_none (by rw [b.2]; omega)]
  · rintro rfl _ _; rfl
theorem run_checkArr {t e : TypeId} {n : Nat} {i : TypeInfo} (hu : P.underlying t = some (.array n e)) (he : P.underlying e = some (.int .u8)) (hi : P.info? e = some i) (hc : P.cellsOf e = 1) (a : Hn n) (em : Bool) (m : Nat) (w : World) :
    (Instr.checkKey em (m + 2) t (hkey a)).run P w = .ok () w := by
  have hp : P.plainKey e = true := by simp [Program.plainKey, he]
  unfold hkey
  rw [show m + 2 = (m + 1) + 1 from rfl, Instr.checkKey]
  simp only [Sem.run_bind, run_underlying hu, Result.andThen_ok]
  simp only [Std.Legacy.Range.forIn_eq_forIn_range', Std.Legacy.Range.size, Nat.sub_zero, Nat.add_one_sub_one, Nat.div_one]
  have : ∀ is : List Nat, (∀ j ∈ is, j < n) → (forIn is PUnit.unit (fun j (_ : PUnit) => do
      Instr.checkKey em (m + 1) e (← part e (bvs a.1).toArray (j * (← sizeOf e)))
      pure (ForInStep.yield PUnit.unit)) : Sem PUnit).run P w = .ok PUnit.unit w := by
    intro is
    induction is with
    | nil => intro _; simp
    | cons j is ih =>
      intro h
      have p1 := run_part_plain (P := P) w hp (bvs_at (l := a.1) (i := j) (by have := h j (by simp); have := a.2; omega))
      have p2 : (Instr.checkKey em (m + 1) e (.int .u8 (a.1[j]'(by have := h j (by simp); have := a.2; omega)).toNat)).run P w = .ok () w := by simp [Instr.checkKey, run_underlying he]
      simp only [List.forIn_cons, Sem.run_bind, run_sizeOf w hi, hc, Nat.mul_one, Result.andThen_ok, p1, p2, Sem.run_pure]
      exact ih (fun k hk => h k (by simp [hk]))
  rw [this (List.range' 0 n) (fun j hj => by have := List.mem_range'_1.1 hj; omega)]; rfl
theorem keyArr {kt e : TypeId} {n : Nat} {i : TypeInfo} (hu : P.underlying kt = some (.array n e)) (he : P.underlying e = some (.int .u8)) (hi : P.info? e = some i) (hc : P.cellsOf e = 1) : KeyS P kt (hkey (n := n)) where
  check := fun a b w => run_checkArr hu he hi hc a b 9998 w
  find := fun a l w => by
    rw [run_findKey_eq w (by simp [hu])]
    have : ∀ (l : List (Hn n × Value)) (i : Nat), (Instr.findAsking kt (hkey a) (mapE hkey l i) i).run P w = .ok (idxA a l i) w := by
      intro l
      induction l with
      | nil => intro i; rfl
      | cons x l ih =>
        intro i
        unfold mapE idxA Instr.findAsking
        have h1 : (Op.equal kt (hkey a) (hkey x.1)).run P w = .ok (decide (a = x.1)) w := run_eqArr 9998 hu he hi hc a x.1 w
        simp only [Sem.run_bind, h1, Result.andThen_ok]
        by_cases hx : x.1 = a
        · simp [hx]
        · rw [if_neg hx, if_neg (by simpa using fun h => hx h.symm)]; exact ih (i + 1)
    exact this l 0
  stay := fun a w => by
    unfold Instr.keyThatStays hkey
    have : Instr.sameBits 10000 (.agg (bvs a.1).toArray) (.agg (bvs a.1).toArray) = true := by
      have h : ∀ l : List UInt8, ((bvs l).zip (bvs l)).all (fun x => Instr.sameBits 9999 x.1 x.2) = true := by
        intro l
        induction l with
        | nil => rfl
        | cons c l ih => simp only [bvs, List.map_cons, List.zip_cons_cons, List.all_cons] at ih ⊢; rw [Bool.and_eq_true]; exact ⟨by simp [Instr.sameBits, bv], ih⟩
      rw [Instr.sameBits, Bool.and_eq_true]
      exact ⟨by simp, by simpa using h a.1⟩
    rw [if_pos this]; rfl
section
variable {α : Type} [DecidableEq α] {f : α → Value}
variable {d : Option Nat} {ty : TypeId} {ps : String} {af : Array Edge} {gd : Option (Nat × Bool)} {g : GW} {L : List (Nat × Value)} {H Hr : List Atom}
omit [DecidableEq α] in
theorem e_makeMapH {t h kt e k z} (f : α → Value) (eh : ev L h = some (.int k z)) (ht : ∀ w, (underlying t).run P w = .ok (.map kt e) w) : Op1 P ⟨d, .makeMap t (some h), ty, ps, af, gd⟩ g L H (fun r g' H' => ∃ b, r = .map (some b) ∧ H' = blk b (mapO f []) :: H) :=
  Op1.of_run fun a n D hk g' hl hs => by
    obtain ⟨hs', hl'⟩ := hs.alloc (mapO f [])
    refine ⟨_, _, g'.I, _, ?_, hl', hs', _, rfl, rfl⟩
    simp only [execOp, Option.map_some, hk.eval eh]
    refine run_v ?_
    unfold Instr.makeMap
    simp only [Sem.run_bind, ht, Result.andThen_ok]
    rfl
end
/-! ### Pieces seen otherwise -/
section
variable {g : GW} {L : List (Nat × Value)} {D : List Deferred} {H H2 : List Atom}
theorem T_sat {n c Q} (h : ∀ g', Sat H g' → Sat H2 g') (k : T P n c g L D H2 Q) : T P n c g L D H Q := fun a g' hl hk hs => k a g' hl hk (h g' hs)
theorem TL_sat {n ops l K} (h : ∀ g', Sat H g' → Sat H2 g') (k : TL P n ops l g L D H2 K) : TL P n ops l g L D H K := fun a g' hl hk hs => k a g' hl hk (h g' hs)
theorem E_sat {n x Q} (h : ∀ g', Sat H g' → Sat H2 g') (k : E n x g L D H2 Q) : E n x g L D H Q := fun a g' hl hk hs => k a g' hl hk (h g' hs)
end
theorem Sat.unfoldM {M H Hr : List Atom} {g : GW} (h : Sat H g) (p : Part H [many M] Hr) : Sat (M ++ Hr) g := by
  have h1 : Sat (many M :: Hr) g := h.part p
  have h2 : Sat (Hr ++ [many M]) g := h1.perm (List.perm_append_comm (l₁ := [many M]) (l₂ := Hr))
  exact h2.unfold.perm List.perm_append_comm
theorem Sat.foldTo {M Hr : List Atom} {g : GW} (h : Sat (M ++ Hr) g) : Sat (many M :: Hr) g := by
  have h2 : Sat (Hr ++ M) g := h.perm List.perm_append_comm
  exact h2.fold.perm (List.perm_append_comm (l₁ := Hr) (l₂ := [many M]))
/-- One of many is taken out. -/
theorem Sat.focus {M M' H Hr : List Atom} {A : Atom} {g : GW} (h : Sat H g) (p : Part H [many M] Hr) (hp : M.Perm (A :: M')) : Sat (A :: many M' :: Hr) g := by
  have h1 : Sat (M' ++ (A :: Hr)) g := (h.unfoldM p).perm ((hp.append_right Hr).trans (List.perm_middle.symm))
  exact h1.foldTo.perm (List.Perm.swap _ _ _)
/-- .. and put back. -/
theorem Sat.unfocus {M M' H Hr : List Atom} {A : Atom} {g : GW} (h : Sat H g) (p : Part H [A, many M'] Hr) (hp : M.Perm (A :: M')) : Sat (many M :: Hr) g := by
  have h1 : Sat (A :: many M' :: Hr) g := h.part p
  have h2 : Sat (M' ++ (A :: Hr)) g := Sat.unfoldM (H := A :: many M' :: Hr) h1 (.cons (.there .here) .nil)
  exact Sat.foldTo (h2.perm (List.perm_middle.trans (hp.symm.append_right Hr)))
end Go.Hl
