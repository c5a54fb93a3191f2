/- Part 2 of the walk of laws.FnPackCut. -/
import Derived.Test.YtolddodhmeaceaaGreatDoorW01
set_option linter.unusedVariables false
set_option linter.unusedSimpArgs false
set_option maxRecDepth 100000
namespace Go.Proofs.YtolddodhmeaceaaGreatDoor
open Go.Hl
def fW (l : List UInt8) (m i : Nat) : Int := be32 l (64 * m + 4 * i)
theorem s5_arr (s : S5) (i : Nat) : (s5c s)[0 + i]? = (s5l s)[i]? := by simp [s5c, s5l]
theorem s5_getA {s : S5} {k : Nat} (h : k < 5) : (s5l s).toArray[k]? = some (.int .u32 ((s5i s).getD k 0)) := s5_get h
def RN (l : List UInt8) (m n : Nat) : S5 := rounds (wsch (fW l m) 80) (blocksS l m) n
theorem fk1 {n : Nat} {s : S5} (h : n < 20) : fk n s = (or32 (and32 s.b s.c) (and32 (notU s.b) s.d), 1518500249) := by unfold fk; rw [if_pos h]
theorem fk2 {n : Nat} {s : S5} (h : ¬ n < 20) (h2 : n < 40) : fk n s = (xor32 (xor32 s.b s.c) s.d, 1859775393) := by unfold fk; rw [if_neg h, if_pos h2]
theorem fk3 {n : Nat} {s : S5} (h2 : ¬ n < 40) (h3 : n < 60) : fk n s = (or32 (or32 (and32 s.b s.c) (and32 s.b s.d)) (and32 s.c s.d), 2400959708) := by
  unfold fk; rw [if_neg (by omega), if_neg h2, if_pos h3]
theorem fk4 {n : Nat} {s : S5} (h3 : ¬ n < 60) : fk n s = (xor32 (xor32 s.b s.c) s.d, 3395469782) := by
  unfold fk; rw [if_neg (by omega), if_neg (by omega), if_neg h3]
theorem blocksS_succ (l : List UInt8) (m : Nat) : addS (blocksS l m) (rounds (wsch (fW l m) 80) (blocksS l m) 80) = blocksS l (m + 1) := rfl
theorem pad0 (l : List UInt8) : flatC [] ++ bvs l ++ flatC [.int .u8 128] = bvs (l ++ [128] ++ List.replicate 0 0) := by
  simp [bvs, flatC, Value.cells, bv]
theorem padL_eq (l : List UInt8) : l ++ [128] ++ List.replicate (zpad l.length) 0 ++ (lenB l.length).take 8 = padL l := rfl
theorem ct_Sha1 (g : GW) (v : Value) (l : List UInt8) (hv : Bytes g v l) (hl : l.length ≤ 1000000000) : Ct Tryz.prog g 22 [v] [] (fun r g' H' => Shp r 20 ∧ H' = [own r 1 5 (bvs (sha1L l))]) := by
  refine CI Tryz.func22 Tryz.ntmps22 rfl fun F g0 hg0 => ?_
  replace hv := hv.mono hg0
  have hz64 : zpad l.length < 64 := by unfold zpad; omega
  have hlb := lenB_length l.length
  refine SR (La rfl (nSR (Lk (e_buildSlice rfl rfl rfl Tryz.runUnderlying25 Tryz.sizeOf5 Tryz.zeroValue5 rfl (by simp [Value.cells])) ?_)))
  rintro _ _ _ - ⟨o, rfl, rfl⟩
  refine Lm rfl ?_
  refine Lk (e_append (by_ := 1) rfl rfl rfl rfl Tryz.runUnderlying25 Tryz.runUnderlying25 (.inr ⟨_, rfl⟩) Tryz.sizeOf5 Tryz.zeroValue5 rfl Tryz.typeInfo5 rfl (by decide) (by decide) (src_bytes hv) (by simp [bvs_length, flatC, Value.cells, lenB_length]; omega) (K0 .nil) (by simp [bvs, bv, Value.oneCell'])) ?_
  rintro v2 _ _ - ⟨n_v2, hs_v2, hn_v2, rfl⟩
  refine La rfl (nSR (Lm rfl (Lk (e_buildSlice rfl rfl rfl Tryz.runUnderlying25 Tryz.sizeOf5 Tryz.zeroValue5 rfl (by simp [Value.cells])) ?_)))
  rintro _ _ _ - ⟨b3, rfl, rfl⟩
  refine Lk (e_append (by_ := 1) rfl rfl rfl rfl Tryz.runUnderlying25 Tryz.runUnderlying25 (.inr ⟨_, rfl⟩) Tryz.sizeOf5 Tryz.zeroValue5 rfl Tryz.typeInfo5 rfl (by decide) (by decide) (src_ownS rfl (.head _)) (by simp [bvs_length, flatC, Value.cells, lenB_length]; omega) (K1 .nil) (by simp [flatC, Value.cells, Value.oneCell'])) ?_
  rintro v4 _ _ - ⟨n_v4, hs_v4, hn_v4, rfl⟩
  refine La rfl (nS (T_seq (T_block ?_)))
  rw [pad0 l]
  refine T_loop (ι := Nat × Value) (fun x _ => x.1 ≤ zpad l.length) (fun x => [(0, v), (3, x.2)]) (fun x => [own x.2 1 5 (bvs (l ++ [128] ++ List.replicate x.1 0)), F]) (fun x => zpad l.length - x.1) ((0, _)) (fun g' hl => by simp) (by repeat (first | exact SubL.nil | refine SubL.cons rfl ?_)) (K0 (K1 .nil)) ?_
  rintro ⟨z, o⟩ gA hlgA hz
  try dsimp only
  try dsimp only at hz
  replace hv := hv.mono hlgA
  refine T_seq (SR (Lm rfl (TL_shp (.head _) (fun m hm hml => ?_))))
  replace hml : m = l.length + 1 + z := by simp [bvs_length] at hml; omega
  refine Lp (p_len hm rfl rfl Tryz.runUnderlying25) (Lp (p_rem rfl rfl (by decide) (remN m 64)) (Lp (p_neq rfl rfl) (nS (T_condD rfl (fun hc6 => ?_) (fun hc6 => ?_)))))
  ·
    replace hc6 : z < zpad l.length := by unfold zpad at *; omega
    refine kS (T_block (T_region (Lm rfl (Lk (e_buildSlice rfl rfl rfl Tryz.runUnderlying25 Tryz.sizeOf5 Tryz.zeroValue5 rfl (by simp [Value.cells])) ?_))))
    rintro _ _ _ - ⟨b7, rfl, rfl⟩
    refine Lk (e_append (by_ := 1) rfl rfl rfl rfl Tryz.runUnderlying25 Tryz.runUnderlying25 (.inr ⟨_, rfl⟩) Tryz.sizeOf5 Tryz.zeroValue5 rfl Tryz.typeInfo5 rfl (by decide) (by decide) (src_ownS rfl (.head _)) (by simp [bvs_length, flatC, Value.cells, lenB_length]; omega) (K1 .nil) (by simp [flatC, Value.cells, Value.oneCell'])) ?_
    rintro v8 _ _ - ⟨n_v8, hs_v8, hn_v8, rfl⟩
    refine La rfl (TL_nil (E_block ?_))
    rw [pz_snoc]
    refine EL (.refl _) ((z + 1, _)) ?hm ?hI ((K0 (K1 .nil)))
    case hm => exact (by omega)
    case hI => exact (fun g' hl => by omega)
  ·
    obtain rfl : z = zpad l.length := by unfold zpad at *; omega
    refine T_exit (E_seq_exit (E_loop_exit (E_block_hit (E_seq (SR (Lm rfl (Lp (p_len (hv.1) rfl rfl Tryz.runUnderlying25) (Lp (p_conv rfl Tryz.runUnderlying3 Tryz.runUnderlying108 (wrU64 (by omega) (by omega))) (Lp (p_mul rfl rfl (wrU64 (by omega) (by omega))) ?_)))))))))
    refine La rfl (nS (T_seq (SR (La rfl (nS (T_block ?_))))))
    rw [← List.append_nil (l ++ [128] ++ List.replicate (zpad l.length) 0)]
    refine T_loop (ι := Nat × Value) (fun x _ => x.1 ≤ 8) (fun x => [(0, v), (3, x.2), (4, .int .u64 ((l.length : Int) * 8)), (5, .int .i64 (56 - 8 * (x.1 : Int)))]) (fun x => [own x.2 1 5 (bvs (l ++ [128] ++ List.replicate (zpad l.length) 0 ++ (lenB l.length).take x.1)), F]) (fun x => 8 - x.1) ((0, _)) (fun g' hl => by simp) (by repeat (first | exact SubL.nil | refine SubL.cons rfl ?_)) (K0 (K0 .nil)) ?_
    rintro ⟨j, o⟩ gB hlgB hj
    try dsimp only
    try dsimp only at hj
    replace hv := hv.mono hlgB
    refine T_seq (SR (Lm rfl (Lp (p_geq rfl rfl) (nS (T_condD rfl (fun hc10 => ?_) (fun hc10 => ?_))))))
    ·
      replace hc10 : j < 8 := by omega
      refine kS (T_seq (T_block (T_region (Lm rfl (Lm rfl (Lm rfl (Lp (p_conv rfl Tryz.runUnderlying3 Tryz.runUnderlying103 (wrU64 (by omega) (by omega))) (Lp (p_shr rfl rfl (by omega) (show min (56 - 8 * (j : Int)).toNat 64 = 56 - 8 * j from by omega) rfl) (Lp (p_conv rfl Tryz.runUnderlying108 Tryz.runUnderlying5 (rfl)) ?_)))))))))
      refine Lk (e_buildSlice rfl rfl rfl Tryz.runUnderlying25 Tryz.sizeOf5 Tryz.zeroValue5 rfl (by simp [Value.cells])) ?_
      rintro _ _ _ - ⟨b11, rfl, rfl⟩
      refine Lk (e_append (by_ := 1) rfl rfl rfl rfl Tryz.runUnderlying25 Tryz.runUnderlying25 (.inr ⟨_, rfl⟩) Tryz.sizeOf5 Tryz.zeroValue5 rfl Tryz.typeInfo5 rfl (by decide) (by decide) (src_ownS rfl (.head _)) (by simp [bvs_length, flatC, Value.cells, lenB_length]; omega) (K1 .nil) (by simp [flatC, Value.cells, Value.oneCell'])) ?_
      rintro v12 _ _ - ⟨n_v12, hs_v12, hn_v12, rfl⟩
      refine La rfl (TL_nil (E_block (E_seq (T_region (Lm rfl (Lp (p_sub rfl rfl (wr64 (by omega) (by omega))) (La rfl (TL_nil ?_))))))))
      rw [pl_snoc (by omega)]
      refine E_loop (.refl _) ((j + 1, _)) ?hm ?hI (by refine SubL.cons rfl (SubL.cons rfl (SubL.cons rfl (SubL.cons ?_ SubL.nil))); exact congrArg (fun z => some (Value.int .i64 z)) (by omega)) ((K0 (K1 .nil)))
      case hm => exact (by omega)
      case hI => exact (fun g' hl => by omega)
    ·
      obtain rfl : j = 8 := by omega
      refine T_exit (E_seq_exit (E_loop_exit (E_block_hit (E_seq (SR ?_)))))
      rw [padL_eq]
      refine TL_shp (.head _) (fun mp hm hml => ?_)
      obtain rfl : mp = (padL l).length := by rw [bvs_length] at hml; omega
      refine TL_freeze (K0 .nil) (fun gC hlgC hrd => ?_)
      have hP : Bytes gC o (padL l) := ⟨hm, hrd⟩
      have hmod := padL_mod l
      have hlen := padL_length l
      have hz64 : zpad l.length < 64 := by unfold zpad; omega
      refine Lp (p_build (cells := s5c h0) rfl (by kernel_rfl)) (Lk (e_alloc Tryz.zeroValue109 rfl) ?_)
      rintro _ _ _ - ⟨hb, rfl, rfl⟩
      refine TL_k0 (e_storeW rfl rfl Tryz.sizeOf109 rfl rfl (by simp [s5c, Value.cells, Value.oneCell']) (K0 .nil) rfl) ?_
      rintro _ _ _ - ⟨rfl, rfl⟩
      refine nS (T_seq (SR (La rfl (nS (T_block (T_loop (ι := Nat) (fun m _ => m ≤ (padL l).length / 64) (fun m => [(3, o), (6, .pointer (some ⟨hb, 0, none⟩)), (7, .int .i64 (64 * (m : Int)))]) (fun m => [blk hb (.cells (s5c (blocksS (padL l) m)) 109), F]) (fun m => (padL l).length / 64 - m) (0) (fun g' hl => by simp) (by repeat (first | exact SubL.nil | refine SubL.cons rfl ?_)) (K0 (K0 .nil)) ?_))))))
      rintro m gD hlgD hmN
      replace hP := hP.mono hlgD
      refine T_seq (SR (Lm rfl (Lm rfl (Lp (p_len hP.1 rfl rfl Tryz.runUnderlying25) (Lp (p_lss rfl rfl) (nS (T_condD rfl (fun hc16 => ?_) (fun hc16 => ?_))))))))
      ·
        have hm64 : 64 * m + 64 ≤ (padL l).length := by omega
        refine kS (T_seq (T_block (SR (Lk (e_alloc Tryz.zeroValue110 (show _ = wc [] from rfl)) ?_))))
        rintro _ _ _ - ⟨wb, rfl, rfl⟩
        refine nS (T_seq (SR (Lm rfl (nS (T_block (T_loop (ι := Nat) (fun i _ => i ≤ 16) (fun i => [(3, o), (6, .pointer (some ⟨hb, 0, none⟩)), (7, .int .i64 (64 * (m : Int))), (8, .pointer (some ⟨wb, 0, none⟩)), (58, .int .i64 i)]) (fun i => [blk wb (.cells (wc (wsch (fW (padL l) m) i)) 110), blk hb (.cells (s5c (blocksS (padL l) m)) 109), F]) (fun i => 16 - i) (0) (fun g' hl => by simp) (by repeat (first | exact SubL.nil | refine SubL.cons rfl ?_)) (K0 (K0 (K0 .nil))) ?_))))))
        rintro i gE hlgE hi
        replace hP := hP.mono hlgE
        refine SR (Lp (p_lss rfl rfl) (nS (T_seq (T_condD rfl (fun hc19 => ?_) (fun hc19 => ?_)))))
        ·
          have hi16 : i < 16 := by omega
          refine kS (T_seq (T_block (SR (Lm rfl (La rfl (nR (Lm rfl (Lm rfl (Lm rfl ?_)))))))))
          refine Lm rfl (Lp (p_mul rfl rfl (wr64 (by omega) (by omega))) (Lp (p_add rfl rfl (wr64 (by omega) (by omega))) (Lp (p_slL (a := 64 * m + 4 * i) hP.1 rfl Tryz.runUnderlying25 Tryz.sizeOf5 rfl (by omega) (by omega) rfl) ?_)))
          refine Lk (e_call rfl (ct_Big32 gE _ _ (hP.slFrom rfl (by omega)) (by rw [List.length_drop]; omega)) .nil) ?_
          rintro _ _ _ - ⟨_, rfl, ⟨rfl, rfl⟩⟩
          refine Lp (p_indexAddrA (j := i) rfl rfl Tryz.runUnderlying110 Tryz.sizeOf29 (by omega) (by omega) rfl) ?_
          refine TL_k0 (e_storeA rfl rfl Tryz.sizeOf29 rfl (K0 .nil) (by rw [wc_size (by rw [wsch_length]; omega)]; omega) (wc_setN (ws' := wsch (fW (padL l) m) (i + 1)) (wsch_length _ _) (by omega) (by rw [be32_drop]; exact wsch_lt hi16))) ?_
          rintro _ _ _ - ⟨rfl, rfl⟩
          refine TL_nil (E_block (E_seq (T_region (Lp (p_add rfl rfl (wr64 (by omega) (by omega))) (Lm rfl (TL_nil (EL (.refl _) (i + 1) ?hm ?hI ((K0 (K0 (K0 .nil)))))))))))
          case hm => exact (by omega)
          case hI => exact (fun g' hl => by omega)
        ·
          obtain rfl : i = 16 := by omega
          refine T_exit (E_seq_exit (E_loop_exit (E_block_hit (E_seq (T_seq (SR (La rfl (nS (T_block (T_loop (ι := Nat) (fun i _ => 16 ≤ i ∧ i ≤ 80) (fun i => [(3, o), (6, .pointer (some ⟨hb, 0, none⟩)), (7, .int .i64 (64 * (m : Int))), (8, .pointer (some ⟨wb, 0, none⟩)), (10, .int .i64 i)]) (fun i => [blk wb (.cells (wc (wsch (fW (padL l) m) i)) 110), blk hb (.cells (s5c (blocksS (padL l) m)) 109), F]) (fun i => 80 - i) (16) (fun g' hl => by simp) (by repeat (first | exact SubL.nil | refine SubL.cons rfl ?_)) (K0 (K0 (K0 .nil))) ?_))))))))))
          rintro i gF hlgF ⟨hi16, hi80⟩
          replace hP := hP.mono hlgF
          refine T_seq (SR (Lm rfl (Lp (p_lss rfl rfl) (nS (T_condD rfl (fun hc23 => ?_) (fun hc23 => ?_))))))
          ·
            have hi8 : i < 80 := by omega
            refine kS (T_seq (T_block (T_regionD 22 Tryz.mixed rfl (K0 (K0 (K0 .nil))) (Dp 0 rfl (p_move rfl) (Dp 1 rfl (p_move rfl) (Dp 2 rfl (p_sub rfl rfl (wr64 (by omega) (by omega))) (Dp 3 rfl (p_indexAddrA (j := i - 3) rfl rfl Tryz.runUnderlying110 Tryz.sizeOf29 (by omega) (by omega) rfl) ?_)))))))
            refine Dp 4 rfl (p_load rfl Tryz.isAgg29 (.head _) (wc_get (by rw [wsch_length]; omega))) ?_
            refine Dp 5 rfl (p_move rfl) (Dp 6 rfl (p_sub rfl rfl (wr64 (by omega) (by omega))) (Dp 7 rfl (p_indexAddrA (j := i - 8) rfl rfl Tryz.runUnderlying110 Tryz.sizeOf29 (by omega) (by omega) rfl) ?_))
            refine Dp 8 rfl (p_load rfl Tryz.isAgg29 (.head _) (wc_get (by rw [wsch_length]; omega))) ?_
            refine Dp 9 rfl (p_xor rfl rfl rfl) (Dp 10 rfl (p_move rfl) (Dp 11 rfl (p_sub rfl rfl (wr64 (by omega) (by omega))) (Dp 12 rfl (p_indexAddrA (j := i - 14) rfl rfl Tryz.runUnderlying110 Tryz.sizeOf29 (by omega) (by omega) rfl) ?_)))
            refine Dp 13 rfl (p_load rfl Tryz.isAgg29 (.head _) (wc_get (by rw [wsch_length]; omega))) ?_
            refine Dp 14 rfl (p_xor rfl rfl rfl) (Dp 15 rfl (p_move rfl) (Dp 16 rfl (p_sub rfl rfl (wr64 (by omega) (by omega))) (Dp 17 rfl (p_indexAddrA (j := i - 16) rfl rfl Tryz.runUnderlying110 Tryz.sizeOf29 (by omega) (by omega) rfl) ?_)))
            refine Dp 18 rfl (p_load rfl Tryz.isAgg29 (.head _) (wc_get (by rw [wsch_length]; omega))) ?_
            refine Dp 19 rfl (p_xor rfl rfl rfl) (DK 20 rfl (e_call rfl (ct_turn gF _ 1 (by omega) (by omega)) .nil) ?_)
            rintro _ _ _ - ⟨_, rfl, ⟨rfl, rfl⟩⟩
            refine ⟨_, (K0 (K0 (K0 .nil))), ?_⟩
            refine Dp 21 rfl (p_indexAddrA (j := i) rfl rfl Tryz.runUnderlying110 Tryz.sizeOf29 (by omega) (by omega) rfl) ?_
            refine DB rfl (e_storeA rfl rfl Tryz.sizeOf29 rfl (K0 .nil) (by rw [wc_size (by rw [wsch_length]; omega)]; omega) (wc_setN (ws' := wsch (fW (padL l) m) (i + 1)) (wsch_length _ _) (by omega) (wsch_ge (by omega)))) ?_
            rintro _ _ _ - ⟨rfl, rfl⟩
            refine TA_done (by kernel_rfl) (E_block (E_seq (T_region (Lm rfl (Lp (p_add rfl rfl (wr64 (by omega) (by omega))) (La rfl (TL_nil (EL (.refl _) (i + 1) ?hm ?hI ((K0 (K0 (K0 .nil))))))))))))
            case hm => exact (by omega)
            case hI => exact (fun g' hl => by omega)
          ·
            obtain rfl : i = 80 := by omega
            refine T_exit (E_seq_exit (E_loop_exit (E_block_hit (E_seq (T_seq (T_regionD 15 Tryz.mixed rfl Part.all (Dp 0 rfl (p_indexAddrA (j := 0) rfl rfl Tryz.runUnderlying109 Tryz.sizeOf29 rfl (by omega) rfl) (Dp 1 rfl (p_load rfl Tryz.isAgg29 (.tail _ (.head _)) rfl) (Dp 2 rfl (p_indexAddrA (j := 1) rfl rfl Tryz.runUnderlying109 Tryz.sizeOf29 rfl (by omega) rfl) ?_)))))))))
            refine Dp 3 rfl (p_load rfl Tryz.isAgg29 (.tail _ (.head _)) rfl) (Dp 4 rfl (p_indexAddrA (j := 2) rfl rfl Tryz.runUnderlying109 Tryz.sizeOf29 rfl (by omega) rfl) (Dp 5 rfl (p_load rfl Tryz.isAgg29 (.tail _ (.head _)) rfl) (Dp 6 rfl (p_indexAddrA (j := 3) rfl rfl Tryz.runUnderlying109 Tryz.sizeOf29 rfl (by omega) rfl) (Dp 7 rfl (p_load rfl Tryz.isAgg29 (.tail _ (.head _)) rfl) (Dp 8 rfl (p_indexAddrA (j := 4) rfl rfl Tryz.runUnderlying109 Tryz.sizeOf29 rfl (by omega) rfl) (Dp 9 rfl (p_load rfl Tryz.isAgg29 (.tail _ (.head _)) rfl) (Dp 10 rfl (p_assign rfl) (Dp 11 rfl (p_assign rfl) (Dp 12 rfl (p_assign rfl) ?_)))))))))
            refine Dp 13 rfl (p_assign rfl) (Dp 14 rfl (p_assign rfl) (DD (E_seq (T_seq (SR (Lm rfl (nS (T_block (T_loop (ι := Nat) (fun n _ => n ≤ 80) (fun n => [(3, o), (6, .pointer (some ⟨hb, 0, none⟩)), (7, .int .i64 (64 * (m : Int))), (8, .pointer (some ⟨wb, 0, none⟩)), (11, .int .u32 (RN (padL l) m n).a), (12, .int .u32 (RN (padL l) m n).b), (13, .int .u32 (RN (padL l) m n).c), (14, .int .u32 (RN (padL l) m n).d), (15, .int .u32 (RN (padL l) m n).e), (107, .int .i64 n)]) (fun n => [blk wb (.cells (wc (wsch (fW (padL l) m) 80)) 110), blk hb (.cells (s5c (blocksS (padL l) m)) 109), F]) (fun n => 80 - n) (0) (fun g' hl => by simp) (by repeat (first | exact SubL.nil | refine SubL.cons rfl ?_)) (K0 (K0 (K0 .nil))) ?_)))))))))
            rintro n gG hlgG hn
            replace hP := hP.mono hlgG
            refine SR (Lp (p_lss rfl rfl) (nS (T_seq (T_condD rfl (fun hc27 => ?_) (fun hc27 => ?_)))))
            ·
              have hn80 : n < 80 := by omega
              refine kS (T_seq (T_block (SR (Lm rfl (La rfl (nSR (La rfl (La rfl (nS (T_cut (ι := Unit) (fun _ _ => True) (fun _ => [(3, o), (6, .pointer (some ⟨hb, 0, none⟩)), (7, .int .i64 (64 * (m : Int))), (8, .pointer (some ⟨wb, 0, none⟩)), (11, .int .u32 (RN (padL l) m n).a), (12, .int .u32 (RN (padL l) m n).b), (13, .int .u32 (RN (padL l) m n).c), (14, .int .u32 (RN (padL l) m n).d), (15, .int .u32 (RN (padL l) m n).e), (16, .int .i64 n), (17, .int .u32 (fk n (RN (padL l) m n)).1), (18, .int .u32 (fk n (RN (padL l) m n)).2), (107, .int .i64 n)]) (fun _ => [blk wb (.cells (wc (wsch (fW (padL l) m) 80)) 110), blk hb (.cells (s5c (blocksS (padL l) m)) 109), F]) ?_ ?_))))))))))
              ·
                refine T_block (SR (Lm rfl (Lp (p_lss rfl rfl) (La rfl (nS (T_condD rfl (fun hc28 => ?_) (fun hc28 => ?_)))))))
                ·
                  replace hc28 : n < 20 := by omega
                  refine T_region (Lm rfl (Lm rfl (Lp (p_and rfl rfl rfl) (Lm rfl (Lp (p_notU rfl) (Lm rfl (Lp (p_and rfl rfl rfl) (Lp (p_or rfl rfl rfl) (La rfl ?_)))))))))
                  refine La rfl (TL_nil (E_block ?_))
                  refine E_cut (.refl _) (()) ?hI (by rw [fk1 (by omega)]; repeat (first | exact SubL.nil | refine SubL.cons rfl ?_)) (K0 (K0 (K0 .nil)))
                  case hI => intro g' hl; trivial
                ·
                  have h20 : ¬ n < 20 := by omega
                  refine SR (Lm rfl (Lp (p_lss rfl rfl) (La rfl (nS (T_condD rfl (fun hc29 => ?_) (fun hc29 => ?_))))))
                  ·
                    replace hc29 : n < 40 := by omega
                    refine T_region (Lm rfl (Lm rfl (Lp (p_xor rfl rfl rfl) (Lm rfl (Lp (p_xor rfl rfl rfl) (La rfl (La rfl (TL_nil (E_block ?_)))))))))
                    refine E_cut (.refl _) (()) ?hI (by rw [fk2 (by omega) (by omega)]; repeat (first | exact SubL.nil | refine SubL.cons rfl ?_)) (K0 (K0 (K0 .nil)))
                    case hI => intro g' hl; trivial
                  ·
                    have h40 : ¬ n < 40 := by omega
                    refine SR (Lm rfl (Lp (p_lss rfl rfl) (La rfl (nS (T_condD rfl (fun hc30 => ?_) (fun hc30 => ?_))))))
                    ·
                      replace hc30 : n < 60 := by omega
                      refine T_region (Lm rfl (Lm rfl (Lp (p_and rfl rfl rfl) (Lm rfl (Lm rfl (Lp (p_and rfl rfl rfl) (Lp (p_or rfl rfl rfl) (Lm rfl (Lm rfl ?_)))))))))
                      refine Lp (p_and rfl rfl rfl) (Lp (p_or rfl rfl rfl) (La rfl (La rfl (TL_nil (E_block ?_)))))
                      refine E_cut (.refl _) (()) ?hI (by rw [fk3 (by omega) (by omega)]; repeat (first | exact SubL.nil | refine SubL.cons rfl ?_)) (K0 (K0 (K0 .nil)))
                      case hI => intro g' hl; trivial
                    ·
                      have h60 : ¬ n < 60 := by omega
                      refine T_region (Lm rfl (Lm rfl (Lp (p_xor rfl rfl rfl) (Lm rfl (Lp (p_xor rfl rfl rfl) (La rfl (La rfl (TL_nil (E_block ?_)))))))))
                      refine E_cut (.refl _) (()) ?hI (by rw [fk4 (by omega)]; repeat (first | exact SubL.nil | refine SubL.cons rfl ?_)) (K0 (K0 (K0 .nil)))
                      case hI => intro g' hl; trivial
              ·
                rintro _ gI hlgI _
                refine T_regionD 22 Tryz.mixed rfl (K0 (K0 (K0 .nil))) (Dp 0 rfl (p_move rfl) (Dp 2 rfl (p_move rfl) (Dp 4 rfl (p_move rfl) (Dp 6 rfl (p_move rfl) (Dp 8 rfl (p_move rfl) (Dp 9 rfl (p_indexAddrA (j := n) rfl rfl Tryz.runUnderlying110 Tryz.sizeOf29 (by omega) (by omega) rfl) ?_))))))
                refine Dp 10 rfl (p_load rfl Tryz.isAgg29 (.head _) (wc_get (by rw [wsch_length]; omega))) ?_
                refine Dp 12 rfl (p_move rfl) (Dp 13 rfl (p_move rfl) (Dp 15 rfl (p_move rfl) (Dp 16 rfl (p_move rfl) (DK 1 rfl (e_call rfl (ct_turn gI _ 5 (by omega) (by omega)) .nil) ?_))))
                rintro _ _ _ - ⟨_, rfl, ⟨rfl, rfl⟩⟩
                refine ⟨_, (K0 (K0 (K0 .nil))), ?_⟩
                refine Dp 3 rfl (p_add rfl rfl rfl) (Dp 5 rfl (p_add rfl rfl rfl) (Dp 7 rfl (p_add rfl rfl rfl) (Dp 11 rfl (p_add rfl rfl rfl) (DK 14 rfl (e_call rfl (ct_turn gI _ 30 (by omega) (by omega)) .nil) ?_))))
                rintro _ _ _ - ⟨_, rfl, ⟨rfl, rfl⟩⟩
                refine ⟨_, (K0 (K0 (K0 .nil))), ?_⟩
                refine Dp 17 rfl (p_assign rfl) (Dp 18 rfl (p_assign rfl) (Dp 19 rfl (p_assign rfl) (Dp 20 rfl (p_assign rfl) (Dp 21 rfl (p_assign rfl) (DD (E_block (E_seq (T_region (Lp (p_add rfl rfl (wr64 (by omega) (by omega))) ?_)))))))))
                refine Lm rfl (TL_nil (EL hlgI (n + 1) ?hm ?hI ((K0 (K0 (K0 .nil))))))
                case hm => exact (by omega)
                case hI => exact (fun g' hl => by omega)
            ·
              obtain rfl : n = 80 := by omega
              refine T_exit (E_seq_exit (E_loop_exit (E_block_hit (E_seq (SR (Lp (p_indexAddrA (j := 0) rfl rfl Tryz.runUnderlying109 Tryz.sizeOf29 rfl (by omega) rfl) (Lp (p_load rfl Tryz.isAgg29 (.tail _ (.head _)) rfl) (Lm rfl (Lp (p_add rfl rfl rfl) ?_)))))))))
              refine Lp (p_indexAddrA (j := 0) rfl rfl Tryz.runUnderlying109 Tryz.sizeOf29 rfl (by omega) rfl) (TL_k0 (e_store1 rfl rfl Tryz.sizeOf29 rfl (K1 .nil) rfl rfl rfl) ?_)
              rintro _ _ _ - ⟨rfl, rfl⟩
              refine nSR (Lp (p_indexAddrA (j := 1) rfl rfl Tryz.runUnderlying109 Tryz.sizeOf29 rfl (by omega) rfl) (Lp (p_load rfl Tryz.isAgg29 (.head _) rfl) (Lm rfl (Lp (p_add rfl rfl rfl) (Lp (p_indexAddrA (j := 1) rfl rfl Tryz.runUnderlying109 Tryz.sizeOf29 rfl (by omega) rfl) (TL_k0 (e_store1 rfl rfl Tryz.sizeOf29 rfl (K0 .nil) rfl rfl rfl) ?_))))))
              rintro _ _ _ - ⟨rfl, rfl⟩
              refine nSR (Lp (p_indexAddrA (j := 2) rfl rfl Tryz.runUnderlying109 Tryz.sizeOf29 rfl (by omega) rfl) (Lp (p_load rfl Tryz.isAgg29 (.head _) rfl) (Lm rfl (Lp (p_add rfl rfl rfl) (Lp (p_indexAddrA (j := 2) rfl rfl Tryz.runUnderlying109 Tryz.sizeOf29 rfl (by omega) rfl) (TL_k0 (e_store1 rfl rfl Tryz.sizeOf29 rfl (K0 .nil) rfl rfl rfl) ?_))))))
              rintro _ _ _ - ⟨rfl, rfl⟩
              refine nSR (Lp (p_indexAddrA (j := 3) rfl rfl Tryz.runUnderlying109 Tryz.sizeOf29 rfl (by omega) rfl) (Lp (p_load rfl Tryz.isAgg29 (.head _) rfl) (Lm rfl (Lp (p_add rfl rfl rfl) (Lp (p_indexAddrA (j := 3) rfl rfl Tryz.runUnderlying109 Tryz.sizeOf29 rfl (by omega) rfl) (TL_k0 (e_store1 rfl rfl Tryz.sizeOf29 rfl (K0 .nil) rfl rfl rfl) ?_))))))
              rintro _ _ _ - ⟨rfl, rfl⟩
              refine nR (Lp (p_indexAddrA (j := 4) rfl rfl Tryz.runUnderlying109 Tryz.sizeOf29 rfl (by omega) rfl) (Lp (p_load rfl Tryz.isAgg29 (.head _) rfl) (Lm rfl (Lp (p_add rfl rfl rfl) (Lp (p_indexAddrA (j := 4) rfl rfl Tryz.runUnderlying109 Tryz.sizeOf29 rfl (by omega) rfl) (TL_k0 (e_store1 rfl rfl Tryz.sizeOf29 rfl (K0 .nil) rfl rfl rfl) ?_))))))
              rintro _ _ _ - ⟨rfl, rfl⟩
              refine TL_nil (E_block (E_seq (T_region (Lm rfl (Lp (p_add rfl rfl (wr64 (by omega) (by omega))) (La rfl (TL_nil ?_)))))))
              refine E_loop ((hlgE.trans hlgF).trans hlgG) (m + 1) ?hm ?hI (by refine SubL.cons rfl (SubL.cons rfl (SubL.cons ?_ SubL.nil)); exact congrArg (fun z => some (Value.int .i64 z)) (by omega)) ((K0 (K1 .nil)))
              case hm => exact (by omega)
              case hI => exact (fun g' hl => by omega)
      ·
        obtain rfl : m = (padL l).length / 64 := by omega
        refine T_exit (E_seq_exit (E_loop_exit (E_block_hit (E_seq (SR (TL_nilS 1 5 (La rfl (nS (T_seq ?_)))))))))
        refine SR ?_
        refine Lp (p_loadN (vs := s5l (blocksS (padL l) ((padL l).length / 64))) rfl Tryz.isAgg109 Tryz.sizeOf109 (.tail _ (.head _)) rfl (fun i v h => by rw [s5_arr]; exact h)) ?_
        refine Lm rfl (nS (T_block (T_loop (ι := Nat × Value) (fun x _ => x.1 ≤ 5) (fun x => [(19, x.2), (191, .agg (s5l (blocksS (padL l) ((padL l).length / 64))).toArray), (192, .int .i64 x.1)]) (fun x => [own x.2 1 5 (bvs (((s5i (blocksS (padL l) ((padL l).length / 64))).take x.1).flatMap putB)), F]) (fun x => 5 - x.1) ((0, _)) (fun g' hl => by simp) (by repeat (first | exact SubL.nil | refine SubL.cons rfl ?_)) (K0 (K1 .nil)) ?_)))
        rintro ⟨k, q⟩ gH hlgH hk
        try dsimp only
        try dsimp only at hk
        refine SR (Lp (p_lss rfl rfl) (nS (T_seq (T_condD rfl (fun hc40 => ?_) (fun hc40 => ?_)))))
        ·
          have hk5 : k < 5 := by omega
          refine kS (T_seq (T_block (SR (Lp (p_indexAgg (j := k) rfl rfl Tryz.runUnderlying109 Tryz.isAgg29 Tryz.sizeOf29 (by omega) (by omega) (s5_getA hk5)) (La rfl (nR (Lm rfl (Lm rfl (Lk (e_call rfl (ct_Put32 gH _) .nil) ?_)))))))))
          rintro _ _ _ - ⟨_, rfl, ⟨pb, rfl, rfl⟩⟩
          refine Lk (e_append (by_ := 1) rfl rfl rfl rfl Tryz.runUnderlying25 Tryz.runUnderlying25 (.inr ⟨_, rfl⟩) Tryz.sizeOf5 Tryz.zeroValue5 rfl Tryz.typeInfo5 rfl (by decide) (by decide) (src_ownS rfl (.head _)) (by rw [s5_len _ _ (by omega)]; show (4 * k + 4) * 1 ≤ _; omega) (K1 .nil) (by simp [put32, Value.oneCell'])) ?_
          rintro v42 _ _ - ⟨n_v42, hs_v42, hn_v42, rfl⟩
          refine La rfl (TL_nil (E_block (E_seq (T_region (Lp (p_add rfl rfl (wr64 (by omega) (by omega))) (Lm rfl (TL_nil ?_)))))))
          rw [s5_take hk5]
          refine EL (.refl _) ((k + 1, _)) ?hm ?hI ((K0 (K1 .nil)))
          case hm => exact (by omega)
          case hI => exact (fun g' hl => by omega)
        ·
          obtain rfl : k = 5 := by omega
          refine T_exit (E_seq_exit (E_loop_exit (E_block_hit (E_seq (SR (TL_shp (.head _) (fun m5 hm5 hml5 => ?_)))))))
          rw [s5_len _ _ (by omega)] at hml5
          obtain rfl : m5 = 20 := by omega
          refine Lm rfl (La rfl (nr (E_ret1 [_] rfl ((((hlgA.trans hlgB).trans hlgC).trans hlgD).trans hlgH) rfl (K0 (K0 .nil)) (fun g' hl => ?_))))
          exact ⟨hm5, rfl⟩
end Go.Proofs.YtolddodhmeaceaaGreatDoor
namespace Go.Proofs.YtolddodhmeaceaaGreatDoor
open Go.Hl
/-- An object as it is hashed. -/
def objL (k c : List UInt8) : List UInt8 := k ++ [32] ++ dec c.length ++ [0] ++ c
def nameOf (k : Int) (c : List UInt8) : List UInt8 := hexL (sha1L (objL (obName k) c))
theorem nameOf_length (k : Int) (c : List UInt8) : (nameOf k c).length = 40 := by rw [nameOf, hexL_length, sha1L_length]
theorem ct_ObjectHash (g : GW) (k : List UInt8) (v : Value) (c : List UInt8) (hv : Bytes g v c) (hk : k.length ≤ 100) (hc : c.length ≤ 10000000) :
    Ct Tryz.prog g 18 [str k, v] [] (fun r g' H' => Shp r 20 ∧ H' = [own r 1 5 (bvs (sha1L (objL k c)))]) := by
  have hd := dec_length c.length
  refine CI Tryz.func18 Tryz.ntmps18 rfl fun F g0 hg0 => ?_
  replace hv := hv.mono hg0
  refine SR (La rfl (nSR (Lm rfl ?_)))
  refine Lp (p_str_add rfl rfl (by simp; omega) rfl) ?_
  refine Lm rfl (Lp (p_len (hv.1) rfl rfl Tryz.runUnderlying25) (Lk (e_call rfl (ct_Decimal g0 c.length (by omega)) .nil) ?_))
  rintro _ _ _ - ⟨_, rfl, ⟨rfl, rfl⟩⟩
  refine Lp (p_str_add rfl rfl (by simp; omega) rfl) ?_
  refine Lk (e_strBytes rfl Tryz.runUnderlying9 Tryz.runUnderlying25 Tryz.runUnderlying5) ?_
  rintro o _ _ - ⟨hs_o, rfl⟩
  refine Lk (e_buildSlice rfl rfl rfl Tryz.runUnderlying25 Tryz.sizeOf5 Tryz.zeroValue5 rfl (by simp [Value.cells])) ?_
  rintro _ _ _ - ⟨z, rfl, rfl⟩
  refine Lk (e_append (by_ := 1) rfl rfl rfl rfl Tryz.runUnderlying25 Tryz.runUnderlying25 (.inr ⟨_, rfl⟩) Tryz.sizeOf5 Tryz.zeroValue5 rfl Tryz.typeInfo5 rfl (by decide) (by decide) (src_ownS rfl (.head _)) (by simp [bvs_length, flatC, Value.cells]; omega) (K1 .nil) (by simp [flatC, Value.cells, Value.oneCell'])) ?_
  rintro v4 _ _ - ⟨n_v4, hs_v4, hn_v4, rfl⟩
  refine La rfl (nSR (Lm rfl (Lm rfl ?_)))
  refine Lk (e_append (by_ := 1) rfl rfl rfl rfl Tryz.runUnderlying25 Tryz.runUnderlying25 (.inr ⟨_, rfl⟩) Tryz.sizeOf5 Tryz.zeroValue5 rfl Tryz.typeInfo5 rfl (by decide) (by decide) (src_bytes hv) (by simp [bvs_length, flatC, Value.cells]; omega) (K0 .nil) (by simp [bvs, bv, Value.oneCell'])) ?_
  rintro v5 _ _ - ⟨n_v5, hs_v5, hn_v5, rfl⟩
  refine TL_shp (.head _) (fun m hm hml => ?_)
  refine TL_freeze (K0 .nil) (fun gA hlgA hrd => ?_)
  have e : bvs (k ++ [32] ++ dec c.length) ++ flatC [.int .u8 0] ++ bvs c = bvs (objL k c) := by simp [bvs, flatC, Value.cells, objL, bv]
  rw [e] at hrd hml
  rw [bvs_length] at hml
  obtain rfl : m = (objL k c).length := by omega
  refine Lk (e_call rfl (ct_Sha1 gA _ (objL k c) ⟨hm, hrd⟩ (by simp [objL]; omega)) .nil) ?_
  rintro _ _ _ - ⟨_, rfl, ⟨hsr, rfl⟩⟩
  refine La rfl (nr (E_ret1 [_] rfl hlgA rfl (K0 (K1 .nil)) (fun g' hl => ?_)))
  exact ⟨hsr, rfl⟩
end Go.Proofs.YtolddodhmeaceaaGreatDoor
namespace Go.Proofs.YtolddodhmeaceaaGreatDoor
open Go.Hl
/-! ### Putting in order, from the end -/
section
variable {α : Type}
def insR (lt : α → α → Bool) (e : α) : List α → List α
  | [] => [e]
  | x :: r => if lt e x then x :: insR lt e r else e :: x :: r
def insB (lt : α → α → Bool) (e : α) (l : List α) : List α := (insR lt e l.reverse).reverse
def srt (lt : α → α → Bool) (l : List α) : List α := l.foldl (fun out e => insB lt e out) []
theorem insR_length (lt : α → α → Bool) (e : α) (l : List α) : (insR lt e l).length = l.length + 1 := by
  induction l with
  | nil => rfl
  | cons x r ih => unfold insR; split <;> simp [ih]
theorem insB_length (lt : α → α → Bool) (e : α) (l : List α) : (insB lt e l).length = l.length + 1 := by simp [insB, insR_length]
theorem insR_split (lt : α → α → Bool) (e : α) : ∀ (b a : List α), (∀ x ∈ b, lt e x = true) → (∀ x, a[0]? = some x → lt e x = false) → insR lt e (b ++ a) = b ++ e :: a
  | [], a, _, h => by
    cases a with
    | nil => rfl
    | cons x r => rw [List.nil_append, insR, if_neg (by rw [h x rfl]; decide)]; rfl
  | x :: b, a, hb, h => by
    rw [List.cons_append, insR, if_pos (hb x (by simp)), insR_split lt e b a (fun y hy => hb y (.tail _ hy)) h]
    rfl
theorem insB_at {lt : α → α → Bool} {e : α} {l : List α} {at' : Nat} (h : at' ≤ l.length) (h1 : ∀ (j : Nat) x, at' ≤ j → l[j]? = some x → lt e x = true)
    (h2 : at' = 0 ∨ ∃ x, l[at' - 1]? = some x ∧ lt e x = false) : l.take at' ++ [e] ++ l.drop at' = insB lt e l := by
  have hl : l.reverse = (l.drop at').reverse ++ (l.take at').reverse := by rw [← List.reverse_append, List.take_append_drop]
  unfold insB
  rw [hl, insR_split lt e (l.drop at').reverse (l.take at').reverse]
  · simp
  · intro x hx
    rw [List.mem_reverse] at hx
    obtain ⟨j, hj⟩ := List.getElem?_of_mem hx
    rw [List.getElem?_drop] at hj
    exact h1 _ x (by omega) hj
  · intro x hx
    rcases h2 with h2 | ⟨y, hy, hlt⟩
    · subst h2; simp at hx
    · have hp : 0 < at' := by
        rcases Nat.eq_zero_or_pos at' with h0 | h0
        · subst h0; simp at hx
        · exact h0
      rw [List.getElem?_reverse (by rw [List.length_take]; omega), List.length_take, List.getElem?_take, if_pos (by omega)] at hx
      rw [show min at' l.length - 1 - 0 = at' - 1 by omega, hy] at hx
      cases hx
      exact hlt
theorem srt_snoc {lt : α → α → Bool} {l : List α} {k : Nat} {e : α} (h : l[k]? = some e) : insB lt e (srt lt (l.take k)) = srt lt (l.take (k + 1)) := by
  rw [take_snoc h]; simp [srt]
theorem srt_length (lt : α → α → Bool) (l : List α) : (srt lt l).length = l.length := by
  have : ∀ (l out : List α), (l.foldl (fun out e => insB lt e out) out).length = out.length + l.length := by
    intro l
    induction l with
    | nil => intro out; rfl
    | cons x l ih => intro out; rw [List.foldl_cons, ih, insB_length]; simp; omega
  simpa [srt] using this l []
theorem insR_mem {lt : α → α → Bool} {e x : α} {l : List α} : x ∈ insR lt e l ↔ x = e ∨ x ∈ l := by
  induction l with
  | nil => simp [insR]
  | cons y r ih =>
    unfold insR
    split
    · simp only [List.mem_cons, ih]
      constructor
      · rintro (h | h | h) <;> simp [h]
      · rintro (h | h | h) <;> simp [h]
    · simp
theorem insB_mem {lt : α → α → Bool} {e x : α} {l : List α} : x ∈ insB lt e l ↔ x = e ∨ x ∈ l := by simp [insB, insR_mem]
theorem srt_mem {lt : α → α → Bool} {x : α} {l : List α} : x ∈ srt lt l ↔ x ∈ l := by
  have : ∀ (l out : List α), x ∈ l.foldl (fun out e => insB lt e out) out ↔ x ∈ out ∨ x ∈ l := by
    intro l
    induction l with
    | nil => intro out; simp
    | cons y l ih =>
      intro out
      rw [List.foldl_cons, ih, insB_mem, List.mem_cons]
      constructor
      · rintro ((h | h) | h) <;> simp [h]
      · rintro (h | h | h) <;> simp [h]
  simpa [srt] using this l []
end
theorem wrPred {n : Nat} (h : 0 < n) (h2 : n ≤ 9223372036854775807) : IntKind.i64.wrap ((n : Int) - 1) = ((n - 1 : Nat) : Int) := by rw [wr64 (by omega) (by omega)]; omega
/-! ### Entries -/
structure EV where
  name : List UInt8
  mode : Nat
  raw : List UInt8
def eC (e : EV) : List Value := [str e.name, .int .u32 e.mode, str (hexL e.raw)]
theorem eC_len (e : EV) : (eC e).length = 3 := rfl
theorem eC_one (e : EV) : ∀ u ∈ eC e, u.oneCell' = true := by simp [eC, str, Value.oneCell']
theorem flat_one {α : Type} {f : α → List Value} (h : ∀ a, ∀ u ∈ f a, u.oneCell' = true) (l : List α) : ∀ u ∈ l.flatMap f, u.oneCell' = true := by
  intro u hu
  obtain ⟨a, _, h2⟩ := List.mem_flatMap.1 hu
  exact h a u h2
def sortN (e : EV) : List UInt8 := if e.mode = 16384 then e.name ++ [47] else e.name
def eOk (e : EV) : Prop := e.name.length ≤ 100000 ∧ e.mode ≤ 100000 ∧ e.raw.length ≤ 100
def ltE (e x : EV) : Bool := Op.bytesLess (sortN e) (sortN x)
/-- A list of structs, read. -/
def Lst {α : Type} (g : GW) (v : Value) (f : α → List Value) (l : List α) : Prop := Shp v l.length ∧ Rd g v (l.flatMap f)
theorem Lst.mono {α : Type} {g g' : GW} {v : Value} {f : α → List Value} {l : List α} (h : Lst g v f l) (hl : Le g g') : Lst g' v f l := ⟨h.1, h.2.mono hl⟩
theorem flat_take {α : Type} {f : α → List Value} {n : Nat} (hf : ∀ a, (f a).length = n) (l : List α) (a b : Nat) :
    ((l.flatMap f).drop (a * n)).take ((b - a) * n) = ((l.drop a).take (b - a)).flatMap f := by
  have hd : ∀ (l : List α) (a : Nat), (l.flatMap f).drop (a * n) = (l.drop a).flatMap f := by
    intro l
    induction l with
    | nil => intro a; simp
    | cons x l ih =>
      intro a
      cases a with
      | zero => simp
      | succ a =>
        rw [List.flatMap_cons, List.drop_append, hf, show (a + 1) * n - n = a * n by rw [Nat.add_mul]; omega, ih]
        rw [List.drop_of_length_le (by rw [hf, Nat.add_mul]; omega)]
        rfl
  have ht : ∀ (l : List α) (a : Nat), (l.flatMap f).take (a * n) = (l.take a).flatMap f := by
    intro l
    induction l with
    | nil => intro a; simp
    | cons x l ih =>
      intro a
      cases a with
      | zero => simp
      | succ a =>
        rw [List.flatMap_cons, List.take_append, hf, show (a + 1) * n - n = a * n by rw [Nat.add_mul]; omega, ih]
        rw [List.take_of_length_le (by rw [hf, Nat.add_mul]; omega)]
        rfl
  rw [hd, ht]
theorem ins_flat {α : Type} {f : α → List Value} {n : Nat} (hf : ∀ a, (f a).length = n) (out : List α) (e : α) (a m : Nat) (hm : m = out.length) :
    flatC [] ++ ((out.flatMap f).drop (0 * n)).take ((a - 0) * n) ++ flatC [.agg (f e).toArray] ++ ((out.flatMap f).drop (a * n)).take ((m - a) * n) = (out.take a ++ [e] ++ out.drop a).flatMap f := by
  subst hm
  rw [flat_take hf, flat_take hf]
  rw [List.take_of_length_le (l := out.drop a) (by rw [List.length_drop]; omega)]
  simp [flatC, Value.cells]
end Go.Proofs.YtolddodhmeaceaaGreatDoor
namespace Go.Proofs.YtolddodhmeaceaaGreatDoor
open Go.Hl
theorem bvs_one (l : List UInt8) : ∀ u ∈ bvs l, u.oneCell' = true := by
  intro u hu
  obtain ⟨c, _, rfl⟩ := List.mem_map.1 hu
  rfl
theorem toArr_get {l : List Value} {i : Nat} {v : Value} (h : l[i]? = some v) : l.toArray[0 + i]? = some v := by rw [Nat.zero_add]; simpa using h
theorem oct_len : ∀ (k n : Nat), 0 < k → n < 8 ^ k → (oct n).length ≤ k
  | 0, _, h, _ => by omega
  | k + 1, n, _, h => by
    unfold oct
    split
    · simp
    · cases k with
      | zero => omega
      | succ k =>
        have := oct_len (k + 1) (n / 8) (by omega) (by rw [Nat.pow_succ] at h; omega)
        simp; omega
def treeB (e : EV) : List UInt8 := oct e.mode ++ [32] ++ e.name ++ [0] ++ e.raw
def treeL (l : List EV) : List UInt8 := l.flatMap treeB
theorem flat_le {α β : Type} {f : α → List β} {B : Nat} : ∀ (l : List α), (∀ a ∈ l, (f a).length ≤ B) → (l.flatMap f).length ≤ l.length * B
  | [], _ => by simp
  | x :: l, h => by
    rw [List.flatMap_cons, List.length_append, List.length_cons, Nat.add_mul]
    have h1 := h x (by simp)
    have h2 := flat_le l (fun a ha => h a (.tail _ ha))
    omega
theorem treeB_le {e : EV} (h : eOk e) : (treeB e).length ≤ 8 + e.name.length + 1 + e.raw.length := by
  have := oct_len 7 e.mode (by decide) (by have := h.2.1; omega)
  simp only [treeB, List.length_append, List.length_cons, List.length_nil]
  omega
theorem treeB_snoc {l : List EV} {k : Nat} {e : EV} (h : l[k]? = some e) :
    bvs (treeL (l.take k)) ++ bvs (oct e.mode ++ [32] ++ e.name) ++ flatC [.int .u8 0] ++ bvs e.raw = bvs (treeL (l.take (k + 1))) := by
  rw [take_snoc h]; simp [treeL, treeB, bvs, flatC, Value.cells, bv]
/-! ### Files -/
structure DV where
  path : List UInt8
  mode : Nat
  text : List UInt8
  ta : Option Addr
  tn : Nat
  tc : Nat
abbrev DV.tv (d : DV) : Value := .slice d.ta d.tn d.tc
def dC (d : DV) : List Value := [str d.path, .int .u32 d.mode, d.tv]
theorem dC_len (d : DV) : (dC d).length = 3 := rfl
theorem dC_one (d : DV) : ∀ u ∈ dC d, u.oneCell' = true := by simp [dC, str, Value.oneCell']
def Docs (g : GW) (v : Value) (l : List DV) : Prop := Lst g v dC l ∧ ∀ d ∈ l, Bytes g d.tv d.text
theorem Docs.mono {g g' : GW} {v : Value} {l : List DV} (h : Docs g v l) (hl : Le g g') : Docs g' v l := ⟨h.1.mono hl, fun d hd => (h.2 d hd).mono hl⟩
def isIn (name : List UInt8) (d : DV) : Bool := decide ((frontL d.path).1 = name) && decide ((frontL d.path).2 ≠ [])
def innerOf (name : List UInt8) (l : List DV) : List DV := (l.filter (isIn name)).map fun d => { d with path := (frontL d.path).2 }
def othersOf (name : List UInt8) (l : List DV) : List DV := l.filter fun d => !isIn name d
theorem innerOf_yes {name : List UInt8} {l : List DV} {k : Nat} {d : DV} (h : l[k]? = some d) (hi : isIn name d = true) :
    (innerOf name (l.take k)).flatMap dC ++ flatC [.agg (dC { d with path := (frontL d.path).2 }).toArray] = (innerOf name (l.take (k + 1))).flatMap dC := by
  rw [take_snoc h]; simp [innerOf, hi, flatC, Value.cells]
theorem innerOf_no {name : List UInt8} {l : List DV} {k : Nat} {d : DV} (h : l[k]? = some d) (hi : isIn name d = false) : innerOf name (l.take (k + 1)) = innerOf name (l.take k) := by
  rw [take_snoc h]; simp [innerOf, hi]
theorem othersOf_no {name : List UInt8} {l : List DV} {k : Nat} {d : DV} (h : l[k]? = some d) (hi : isIn name d = true) : othersOf name (l.take (k + 1)) = othersOf name (l.take k) := by
  rw [take_snoc h]; simp [othersOf, hi]
theorem othersOf_yes {name : List UInt8} {l : List DV} {k : Nat} {d : DV} (h : l[k]? = some d) (hi : isIn name d = false) :
    (othersOf name (l.take k)).flatMap dC ++ flatC [.agg (dC d).toArray] = (othersOf name (l.take (k + 1))).flatMap dC := by
  rw [take_snoc h]; simp [othersOf, hi, flatC, Value.cells]
theorem innerOf_le (name : List UInt8) (l : List DV) (k : Nat) : (innerOf name (l.take k)).length ≤ l.length := by
  simp only [innerOf, List.length_map]
  exact Nat.le_trans (List.length_filter_le _ _) (by rw [List.length_take]; omega)
theorem othersOf_le (name : List UInt8) (l : List DV) (k : Nat) : (othersOf name (l.take k)).length ≤ l.length :=
  Nat.le_trans (List.length_filter_le _ _) (by rw [List.length_take]; omega)
theorem Shp.is {v : Value} {n : Nat} (h : Shp v n) : ∃ ta tn tc, v = .slice ta tn tc := by
  rcases h with ⟨_, cap, rfl, _⟩ | ⟨b, o, cap, _, rfl⟩
  · exact ⟨_, _, _, rfl⟩
  · exact ⟨_, _, _, rfl⟩
theorem Shp.one {v : Value} {n : Nat} (h : Shp v n) : v.oneCell' = true := by
  obtain ⟨_, _, _, rfl⟩ := Shp.is h; rfl
end Go.Proofs.YtolddodhmeaceaaGreatDoor
namespace Go.Proofs.YtolddodhmeaceaaGreatDoor
open Go.Hl
/-- An instruction of a delta. -/
structure SV where
  copy : Bool
  frm : Int
  size : Int
  text : List UInt8
  wide : Int
  ta : Option Addr
  tn : Nat
  tc : Nat
abbrev SV.tv (s : SV) : Value := .slice s.ta s.tn s.tc
def stC (s : SV) : List Value := [.bool s.copy, .int .i64 s.frm, .int .i64 s.size, s.tv, .int .i64 s.wide]
theorem stC_len (s : SV) : (stC s).length = 5 := rfl
theorem stC_one (s : SV) : ∀ u ∈ stC s, u.oneCell' = true := by simp [stC, Value.oneCell']
def i64r (x : Int) : Prop := -9223372036854775808 ≤ x ∧ x ≤ 9223372036854775807
structure SOk (g : GW) (s : SV) : Prop where
  text : Bytes g s.tv s.text
  frm : i64r s.frm
  size : i64r s.size
  wide : i64r s.wide
theorem SOk.mono {g g' : GW} {s : SV} (h : SOk g s) (hl : Le g g') : SOk g' s := ⟨h.text.mono hl, h.frm, h.size, h.wide⟩
def Steps (g : GW) (v : Value) (l : List SV) : Prop := Lst g v stC l ∧ ∀ s ∈ l, SOk g s
theorem Steps.mono {g g' : GW} {v : Value} {l : List SV} (h : Steps g v l) (hl : Le g g') : Steps g' v l := ⟨h.1.mono hl, fun d hd => (h.2 d hd).mono hl⟩
/-- An entry of a pack. -/
structure XV where
  kind : Int
  text : List UInt8
  base : Int
  steps : List SV
  ta : Option Addr
  tn : Nat
  tc : Nat
  sa : Option Addr
  sn : Nat
  sc : Nat
abbrev XV.tv (x : XV) : Value := .slice x.ta x.tn x.tc
abbrev XV.sv (x : XV) : Value := .slice x.sa x.sn x.sc
def xC (x : XV) : List Value := [.int .i64 x.kind, x.tv, .int .i64 x.base, x.sv]
theorem xC_len (x : XV) : (xC x).length = 4 := rfl
theorem xC_one (x : XV) : ∀ u ∈ xC x, u.oneCell' = true := by simp [xC, Value.oneCell']
structure XOk (g : GW) (x : XV) : Prop where
  text : Bytes g x.tv x.text
  steps : Steps g x.sv x.steps
  kind : i64r x.kind
  base : i64r x.base
theorem XOk.mono {g g' : GW} {x : XV} (h : XOk g x) (hl : Le g g') : XOk g' x := ⟨h.text.mono hl, h.steps.mono hl, h.kind, h.base⟩
def Ents (g : GW) (v : Value) (l : List XV) : Prop := Lst g v xC l ∧ ∀ x ∈ l, XOk g x
theorem Ents.mono {g g' : GW} {v : Value} {l : List XV} (h : Ents g v l) (hl : Le g g') : Ents g' v l := ⟨h.1.mono hl, fun d hd => (h.2 d hd).mono hl⟩
def fitS (l : List SV) : Prop := l.length ≤ 2147483647 ∧ ∀ s ∈ l, s.text.length ≤ 2147483647
def fitX (l : List XV) : Prop := l.length ≤ 2147483647 ∧ ∀ x ∈ l, x.text.length ≤ 2147483647 ∧ fitS x.steps
theorem ct_zzFits8 (g : GW) (s : SV) (hs : Bytes g s.tv s.text) :
    Ct Tryz.prog g 67 [.agg (stC s).toArray] [] (fun r g' H' => ∃ b, r = .bool b ∧ (b = true → s.text.length ≤ 2147483647) ∧ H' = []) := by
  refine CI Tryz.func67 Tryz.ntmps67 rfl fun F g0 hg0 => ?_
  replace hs := hs.mono hg0
  refine SR (Lk (e_box rfl rfl) ?_)
  rintro _ _ _ - ⟨b1, rfl, rfl⟩
  refine La rfl (nS (T_seq (SR (Lf rfl Tryz.runUnderlying105 rfl Tryz.sizeOf25 rfl (Lp (p_load rfl Tryz.isAgg25 (.head _) rfl) (Lp (p_len (hs.1) rfl rfl Tryz.runUnderlying25) (Lp (p_gtr rfl rfl) (nS (T_condD rfl (fun hc2 => ?_) (fun hc2 => ?_))))))))))
  ·
    refine SR (La rfl (nr (E_seq_ret (E_ret1 [] rfl (.refl _) rfl (K1 .nil) (fun g' hl => ?_)))))
    exact ⟨false, rfl, nofun, rfl⟩
  ·
    refine kS (SR (La rfl (nr (E_ret1 [] rfl (.refl _) rfl (K1 .nil) (fun g' hl => ?_)))))
    exact ⟨true, rfl, fun _ => by omega, rfl⟩
theorem ct_zzFits7 (g : GW) (v : Value) (l : List SV) (hv : Steps g v l) (hlen : l.length ≤ 9223372036854775807) :
    Ct Tryz.prog g 33 [v] [] (fun r g' H' => ∃ b, r = .bool b ∧ (b = true → fitS l) ∧ H' = []) := by
  refine CI Tryz.func33 Tryz.ntmps33 rfl fun F g0 hg0 => ?_
  replace hv := hv.mono hg0
  refine SR (La rfl (nS (T_seq (SR (Lm rfl (Lp (p_len (hv.1.1) rfl rfl Tryz.runUnderlying37) (Lp (p_gtr rfl rfl) (nS (T_condD rfl (fun hc1 => ?_) (fun hc1 => ?_))))))))))
  ·
    refine SR (La rfl (nr (E_seq_ret (E_ret1 [] rfl (.refl _) rfl (K0 .nil) (fun g' hl => ?_)))))
    exact ⟨false, rfl, nofun, rfl⟩
  ·
    refine kS (T_seq (SR (Lm rfl (Lp (p_len (hv.1.1) rfl rfl Tryz.runUnderlying37) (Lm rfl (nS (T_block (T_loop (ι := Nat) (fun k _ => k ≤ l.length ∧ ∀ (i : Nat) d, l[i]? = some d → i < k → d.text.length ≤ 2147483647) (fun k => [(8, v), (9, .int .i64 l.length), (10, .int .i64 k)]) (fun _ => [F]) (fun k => l.length - k) (0) (fun g' hl => ⟨Nat.zero_le _, fun _ _ _ h => absurd h (Nat.not_lt_zero _)⟩) (by repeat (first | exact SubL.nil | refine SubL.cons rfl ?_)) (K0 .nil) ?_))))))))
    rintro k gA hlgA ⟨hk, hno⟩
    replace hv := hv.mono hlgA
    refine SR (Lp (p_lss rfl rfl) (nS (T_seq (T_condD rfl (fun hc3 => ?_) (fun hc3 => ?_)))))
    ·
      have hkl : k < l.length := by omega
      obtain ⟨d, hid⟩ := get_some hkl
      refine kS (T_seq (T_block (SR (Lp (p_ix (hv.1.1) (j := k) rfl rfl Tryz.runUnderlying37 Tryz.sizeOf105 (by omega) (by omega) rfl) (Lp (p_ldRdN (vs := stC d) hv.1.2 rfl Tryz.isAgg105 Tryz.sizeOf105 rfl (by decide) (flat_all stC_len hid)) (Lk (e_alloc Tryz.zeroValue105 rfl) ?_))))))
      rintro _ _ _ - ⟨db, rfl, rfl⟩
      refine TL_k0 (e_storeW rfl rfl Tryz.sizeOf105 rfl rfl (fun u hu => stC_one d u hu) (K0 .nil) rfl) ?_
      rintro _ _ _ - ⟨rfl, rfl⟩
      refine nSR (Lp (p_loadW rfl Tryz.isAgg105 Tryz.sizeOf105 (.head _) rfl) (Lk (e_call rfl (ct_zzFits8 gA d (hv.2 d (List.mem_of_getElem? hid)).text) .nil) ?_))
      rintro _ _ _ - ⟨_, rfl, ⟨b, rfl, hb, rfl⟩⟩
      refine Lp (p_not rfl) (nS (T_condNB rfl (fun hc7 => ?_) (fun hc7 => ?_)))
      ·
        refine SR (La rfl (nr (E_block_ret (E_seq_ret (E_loop_ret (E_block_ret (E_seq_ret (E_ret1 [] rfl hlgA rfl (K1 .nil) (fun g' hl => ?_)))))))))
        exact ⟨false, rfl, nofun, rfl⟩
      ·
        refine T_skip (E_block (E_seq (T_region (Lp (p_add rfl rfl (wr64 (by omega) (by omega))) (Lm rfl (TL_nil (EL (.refl _) (k + 1) ?hm ?hI ((K1 .nil)))))))))
        case hm => exact (by omega)
        case hI => exact (fun g' hl => ⟨by omega, fun i d' h1 h2 => by by_cases hik : i = k; (subst hik; rw [hid] at h1; cases h1; exact hb (by assumption)); exact hno i d' h1 (by omega)⟩)
    ·
      obtain rfl : k = l.length := by omega
      refine T_exit (E_seq_exit (E_loop_exit (E_block_hit (E_seq (SR (La rfl (nr (E_ret1 [] rfl hlgA rfl (K0 .nil) (fun g' hl => ?_)))))))))
      exact ⟨true, rfl, fun _ => ⟨by omega, fun s hs => by obtain ⟨i, h⟩ := List.mem_iff_getElem?.1 hs; exact hno i s h (lt_of_get h)⟩, rfl⟩
theorem ct_zzFits26 (g : GW) (x : XV) (hx : XOk g x) (hlen : x.steps.length ≤ 9223372036854775807) :
    Ct Tryz.prog g 10 [.agg (xC x).toArray] [] (fun r g' H' => ∃ b, r = .bool b ∧ (b = true → x.text.length ≤ 2147483647 ∧ fitS x.steps) ∧ H' = []) := by
  refine CI Tryz.func10 Tryz.ntmps10 rfl fun F g0 hg0 => ?_
  replace hx := hx.mono hg0
  refine SR (Lk (e_box rfl rfl) ?_)
  rintro _ _ _ - ⟨b1, rfl, rfl⟩
  refine La rfl (nS (T_seq (SR (Lf rfl Tryz.runUnderlying39 rfl Tryz.sizeOf25 rfl (Lp (p_load rfl Tryz.isAgg25 (.head _) rfl) (Lp (p_len (hx.text.1) rfl rfl Tryz.runUnderlying25) (Lp (p_gtr rfl rfl) (nS (T_condD rfl (fun hc2 => ?_) (fun hc2 => ?_))))))))))
  ·
    refine SR (La rfl (nr (E_seq_ret (E_ret1 [] rfl (.refl _) rfl (K1 .nil) (fun g' hl => ?_)))))
    exact ⟨false, rfl, nofun, rfl⟩
  ·
    refine kS (T_seq (SR (Lf rfl Tryz.runUnderlying39 rfl Tryz.sizeOf37 rfl (Lp (p_load rfl Tryz.isAgg37 (.head _) rfl) (Lk (e_call rfl (ct_zzFits7 g0 x.sv x.steps hx.steps hlen) .nil) ?_)))))
    rintro _ _ _ - ⟨_, rfl, ⟨b, rfl, hb, rfl⟩⟩
    refine Lp (p_not rfl) (nS (T_condNB rfl (fun hc4 => ?_) (fun hc4 => ?_)))
    ·
      refine SR (La rfl (nr (E_seq_ret (E_ret1 [] rfl (.refl _) rfl (K1 .nil) (fun g' hl => ?_)))))
      exact ⟨false, rfl, nofun, rfl⟩
    ·
      refine kS (SR (La rfl (nr (E_ret1 [] rfl (.refl _) rfl (K1 .nil) (fun g' hl => ?_)))))
      exact ⟨true, rfl, fun _ => ⟨by omega, hb (by assumption)⟩, rfl⟩
theorem ct_zzFits25 (g : GW) (v : Value) (l : List XV) (hv : Ents g v l) (hlen : l.length ≤ 9223372036854775807) (hl2 : ∀ x ∈ l, x.steps.length ≤ 9223372036854775807) :
    Ct Tryz.prog g 4 [v] [] (fun r g' H' => ∃ b, r = .bool b ∧ (b = true → fitX l) ∧ H' = []) := by
  refine CI Tryz.func4 Tryz.ntmps4 rfl fun F g0 hg0 => ?_
  replace hv := hv.mono hg0
  refine SR (La rfl (nS (T_seq (SR (Lm rfl (Lp (p_len (hv.1.1) rfl rfl Tryz.runUnderlying22) (Lp (p_gtr rfl rfl) (nS (T_condD rfl (fun hc1 => ?_) (fun hc1 => ?_))))))))))
  ·
    refine SR (La rfl (nr (E_seq_ret (E_ret1 [] rfl (.refl _) rfl (K0 .nil) (fun g' hl => ?_)))))
    exact ⟨false, rfl, nofun, rfl⟩
  ·
    refine kS (T_seq (SR (Lm rfl (Lp (p_len (hv.1.1) rfl rfl Tryz.runUnderlying22) (Lm rfl (nS (T_block (T_loop (ι := Nat) (fun k _ => k ≤ l.length ∧ ∀ (i : Nat) d, l[i]? = some d → i < k → d.text.length ≤ 2147483647 ∧ fitS d.steps) (fun k => [(8, v), (9, .int .i64 l.length), (10, .int .i64 k)]) (fun _ => [F]) (fun k => l.length - k) (0) (fun g' hl => ⟨Nat.zero_le _, fun _ _ _ h => absurd h (Nat.not_lt_zero _)⟩) (by repeat (first | exact SubL.nil | refine SubL.cons rfl ?_)) (K0 .nil) ?_))))))))
    rintro k gA hlgA ⟨hk, hno⟩
    replace hv := hv.mono hlgA
    refine SR (Lp (p_lss rfl rfl) (nS (T_seq (T_condD rfl (fun hc3 => ?_) (fun hc3 => ?_)))))
    ·
      have hkl : k < l.length := by omega
      obtain ⟨d, hid⟩ := get_some hkl
      refine kS (T_seq (T_block (SR (Lp (p_ix (hv.1.1) (j := k) rfl rfl Tryz.runUnderlying22 Tryz.sizeOf39 (by omega) (by omega) rfl) (Lp (p_ldRdN (vs := xC d) hv.1.2 rfl Tryz.isAgg39 Tryz.sizeOf39 rfl (by decide) (flat_all xC_len hid)) (Lk (e_alloc Tryz.zeroValue39 rfl) ?_))))))
      rintro _ _ _ - ⟨db, rfl, rfl⟩
      refine TL_k0 (e_storeW rfl rfl Tryz.sizeOf39 rfl rfl (fun u hu => xC_one d u hu) (K0 .nil) rfl) ?_
      rintro _ _ _ - ⟨rfl, rfl⟩
      refine nSR (Lp (p_loadW rfl Tryz.isAgg39 Tryz.sizeOf39 (.head _) rfl) (Lk (e_call rfl (ct_zzFits26 gA d (hv.2 d (List.mem_of_getElem? hid)) (hl2 d (List.mem_of_getElem? hid))) .nil) ?_))
      rintro _ _ _ - ⟨_, rfl, ⟨b, rfl, hb, rfl⟩⟩
      refine Lp (p_not rfl) (nS (T_condNB rfl (fun hc7 => ?_) (fun hc7 => ?_)))
      ·
        refine SR (La rfl (nr (E_block_ret (E_seq_ret (E_loop_ret (E_block_ret (E_seq_ret (E_ret1 [] rfl hlgA rfl (K1 .nil) (fun g' hl => ?_)))))))))
        exact ⟨false, rfl, nofun, rfl⟩
      ·
        refine T_skip (E_block (E_seq (T_region (Lp (p_add rfl rfl (wr64 (by omega) (by omega))) (Lm rfl (TL_nil (EL (.refl _) (k + 1) ?hm ?hI ((K1 .nil)))))))))
        case hm => exact (by omega)
        case hI => exact (fun g' hl => ⟨by omega, fun i d' h1 h2 => by by_cases hik : i = k; (subst hik; rw [hid] at h1; cases h1; exact hb (by assumption)); exact hno i d' h1 (by omega)⟩)
    ·
      obtain rfl : k = l.length := by omega
      refine T_exit (E_seq_exit (E_loop_exit (E_block_hit (E_seq (SR (La rfl (nr (E_ret1 [] rfl hlgA rfl (K0 .nil) (fun g' hl => ?_)))))))))
      exact ⟨true, rfl, fun _ => ⟨by omega, fun s hs => by obtain ⟨i, h⟩ := List.mem_iff_getElem?.1 hs; exact hno i s h (lt_of_get h)⟩, rfl⟩
end Go.Proofs.YtolddodhmeaceaaGreatDoor
namespace Go.Pk
def size7 (n : Nat) : List UInt8 := if n < 128 then [UInt8.ofNat n] else UInt8.ofNat (n % 128 + 128) :: size7 (n / 128)
theorem size7_lt {n : Nat} (h : n < 128) : size7 n = [UInt8.ofNat n] := by rw [size7, if_pos h]
theorem size7_ge {n : Nat} (h : ¬ n < 128) : size7 n = UInt8.ofNat (n % 128 + 128) :: size7 (n / 128) := by rw [size7, if_neg h]
theorem size7_len (n : Nat) : (size7 n).length ≤ n / 128 + 1 := by
  induction n using Nat.strongRecOn with
  | _ n ih =>
    unfold size7
    split
    · simp
    · have := ih (n / 128) (by omega)
      simp; omega
/-- The beginning of an entry: kind k, n bytes. -/
def entryHead (k n : Nat) : List UInt8 := if n < 16 then [UInt8.ofNat (k * 16 + n)] else UInt8.ofNat (k * 16 + n % 16 + 128) :: size7 (n / 16)
/-- Groups of which the last one alone is below 128. -/
def BackOk (l : List UInt8) : Prop := ∃ i c, l = i ++ [c] ∧ c.toNat < 128 ∧ ∀ x ∈ i, 128 ≤ x.toNat
theorem BackOk.cons {c : UInt8} {l : List UInt8} (h : BackOk (c :: l)) : (c.toNat < 128 ∧ l = []) ∨ (128 ≤ c.toNat ∧ BackOk l) := by
  obtain ⟨i, d, he, hd, hi⟩ := h
  cases i with
  | nil => simp at he; obtain ⟨rfl, rfl⟩ := he; exact .inl ⟨hd, rfl⟩
  | cons x i =>
    simp at he
    obtain ⟨rfl, rfl⟩ := he
    exact .inr ⟨hi _ (by simp), i, d, rfl, hd, fun y hy => hi y (by simp [hy])⟩
theorem BackOk.ne {l : List UInt8} (h : BackOk l) : l ≠ [] := by
  obtain ⟨i, d, rfl, _⟩ := h; simp
def adStep (s : Nat × Nat) (c : UInt8) : Nat × Nat := ((s.1 + c.toNat) % 65521, (s.2 + (s.1 + c.toNat) % 65521) % 65521)
def adFold (s : Nat × Nat) (l : List UInt8) : Nat × Nat := l.foldl adStep s
def adN (l : List UInt8) : Nat := (adFold (1, 0) l).2 * 65536 + (adFold (1, 0) l).1
theorem adFold_app (s : Nat × Nat) (l m : List UInt8) : adFold s (l ++ m) = adFold (adFold s l) m := by simp [adFold]
theorem adFold_lt {s : Nat × Nat} (h : s.1 < 65521 ∧ s.2 < 65521) : ∀ l, (adFold s l).1 < 65521 ∧ (adFold s l).2 < 65521 := by
  intro l
  induction l generalizing s with
  | nil => exact h
  | cons c l ih => exact ih ⟨Nat.mod_lt _ (by decide), Nat.mod_lt _ (by decide)⟩
theorem adN_lt (l : List UInt8) : adN l < 4294967296 := by
  have := adFold_lt (s := (1, 0)) (by decide) l
  unfold adN; omega
/-- The sums that are not reduced yet. -/
def adRaw (s : Nat × Nat) (l : List UInt8) : Nat × Nat := l.foldl (fun s c => (s.1 + c.toNat, s.2 + (s.1 + c.toNat))) s
theorem adRaw_mod (l : List UInt8) : ∀ (s t : Nat × Nat), s.1 % 65521 = t.1 % 65521 → s.2 % 65521 = t.2 % 65521 → t.1 < 65521 ∧ t.2 < 65521 →
    ((adRaw s l).1 % 65521, (adRaw s l).2 % 65521) = adFold t l := by
  induction l with
  | nil =>
    intro s t h1 h2 h3
    rw [Nat.mod_eq_of_lt h3.1] at h1; rw [Nat.mod_eq_of_lt h3.2] at h2
    simp [adRaw, adFold, h1, h2]
  | cons c l ih =>
    intro s t h1 h2 h3
    refine ih (s.1 + c.toNat, s.2 + (s.1 + c.toNat)) (adStep t c) ?_ ?_ ⟨Nat.mod_lt _ (by decide), Nat.mod_lt _ (by decide)⟩
    · simp only [adStep]; omega
    · simp only [adStep]; omega
theorem adRaw_le {B : Nat} (l : List UInt8) : ∀ (s : Nat × Nat), s.1 + 255 * l.length ≤ B → (adRaw s l).1 ≤ s.1 + 255 * l.length ∧ (adRaw s l).2 ≤ s.2 + l.length * B := by
  induction l with
  | nil => intro s _; simp [adRaw]
  | cons c l ih =>
    intro s h
    have hc := c.toNat_lt
    simp only [List.length_cons] at h ⊢
    have := ih (s.1 + c.toNat, s.2 + (s.1 + c.toNat)) (by simp only []; omega)
    simp only [] at this
    rw [Nat.add_mul]
    refine ⟨Nat.le_trans this.1 (by omega), Nat.le_trans this.2 (by omega)⟩
def put32N (n : Nat) : List UInt8 := [UInt8.ofNat (n / 16777216), UInt8.ofNat (n / 65536), UInt8.ofNat (n / 256), UInt8.ofNat n]
def blockHead (last : Bool) (n : Nat) : List UInt8 := [if last then 1 else 0, UInt8.ofNat n, UInt8.ofNat (n / 256), UInt8.ofNat (255 - n % 256), UInt8.ofNat (255 - n / 256)]
def blocks (t : List UInt8) : List UInt8 :=
  if t.length ≤ 65535 then blockHead true t.length ++ t else blockHead false 65535 ++ t.take 65535 ++ blocks (t.drop 65535)
termination_by t.length
decreasing_by simp; omega
theorem blocks_le {t : List UInt8} (h : t.length ≤ 65535) : blocks t = blockHead true t.length ++ t := by rw [blocks, if_pos h]
theorem blocks_gt {t : List UInt8} (h : ¬ t.length ≤ 65535) : blocks t = blockHead false 65535 ++ t.take 65535 ++ blocks (t.drop 65535) := by rw [blocks, if_neg h]
def stored (t : List UInt8) : List UInt8 := [120, 1] ++ blocks t ++ put32N (adN t)
/-- An entry as it lies in a pack. -/
structure En where
  kind : Nat
  mid : List UInt8
  text : List UInt8
structure En.Ok (e : En) : Prop where
  len : e.text.length ≤ 2000000
  kind : (1 ≤ e.kind ∧ e.kind ≤ 4 ∧ e.mid = []) ∨ (e.kind = 6 ∧ BackOk e.mid ∧ e.mid.length ≤ 10) ∨ (e.kind = 7 ∧ e.mid.length = 20)
def En.bytes (e : En) : List UInt8 := entryHead e.kind e.text.length ++ e.mid ++ stored e.text
def head12 (n : Nat) : List UInt8 := [80, 65, 67, 75, 0, 0, 0, 2] ++ put32N n
def bodyL (l : List En) : List UInt8 := head12 l.length ++ l.flatMap En.bytes
/-- C is a front of what there would be; pos bytes of it are read; X is what there would be from there on. -/
structure Pre (C : List UInt8) (N pos : Nat) (X : List UInt8) : Prop where
  le : pos ≤ C.length
  pre : C.drop pos <+: X
  sum : pos + X.length = N
theorem Pre.start {C X : List UInt8} (h : C <+: X) : Pre C X.length 0 X := ⟨Nat.zero_le _, by simpa using h, by simp⟩
theorem Pre.app {C Y X : List UInt8} {N pos : Nat} (h : Pre C N pos (Y ++ X)) (hl : pos + Y.length ≤ C.length) : (C.drop pos).take Y.length = Y ∧ Pre C N (pos + Y.length) X := by
  obtain ⟨Z, hZ⟩ := h.pre
  have h1 : (C.drop pos).take Y.length = Y := by
    have := congrArg (List.take Y.length) hZ
    rw [List.take_append_of_le_length (by rw [List.length_drop]; omega)] at this
    simpa using this
  refine ⟨h1, hl, ⟨Z, ?_⟩, by have := h.sum; rw [List.length_append] at this; omega⟩
  have := congrArg (List.drop Y.length) hZ
  rw [List.drop_append_of_le_length (by rw [List.length_drop]; omega), List.drop_drop] at this
  simpa using this
theorem Pre.get {C X : List UInt8} {N pos : Nat} (h : Pre C N pos X) (hl : pos < C.length) : ∃ c X', X = c :: X' ∧ C[pos]? = some c ∧ Pre C N (pos + 1) X' := by
  obtain ⟨Z, hZ⟩ := h.pre
  have hd : C.drop pos = C[pos] :: C.drop (pos + 1) := List.drop_eq_getElem_cons hl
  rw [hd] at hZ
  refine ⟨C[pos], C.drop (pos + 1) ++ Z, by rw [← hZ]; rfl, List.getElem?_eq_getElem hl, hl, ⟨Z, rfl⟩, ?_⟩
  have := h.sum
  rw [← hZ] at this
  simp at this ⊢; omega
theorem Pre.nil {C : List UInt8} {N pos : Nat} (h : Pre C N pos []) (hC : C.length < N) : False := by
  have := h.sum; have := h.le; simp at *; omega
end Go.Pk
namespace Go.Proofs.YtolddodhmeaceaaGreatDoor
open Go.Hl
def GStep (s : SV) (n : Nat) : Prop := if s.copy then 0 ≤ s.frm ∧ 1 ≤ s.size ∧ s.size < 16777216 ∧ s.frm < n ∧ s.size ≤ n - s.frm else 1 ≤ s.text.length ∧ s.text.length ≤ 127
instance (s : SV) (n : Nat) : Decidable (GStep s n) := by unfold GStep; split <;> infer_instance
def stepLen (s : SV) : Nat := if s.copy then s.size.toNat else s.text.length
def madeLen (l : List SV) : Nat := (l.map stepLen).sum
theorem madeLen_snoc {l : List SV} {k : Nat} {s : SV} (h : l[k]? = some s) : madeLen (l.take (k + 1)) = madeLen (l.take k) + stepLen s := by
  rw [take_snoc h]; simp [madeLen]
def GSteps (l : List SV) (n : Nat) : Prop := (∀ s ∈ l, GStep s n) ∧ 0 < l.length ∧ l.length ≤ 500 ∧ n ≤ 1000000
theorem sum_le {l : List Nat} {B : Nat} (h : ∀ x ∈ l, x ≤ B) : l.sum ≤ l.length * B := by
  induction l with
  | nil => simp
  | cons a l ih =>
    have h1 := h a (by simp)
    have h2 := ih fun x hx => h x (.tail _ hx)
    simp only [List.sum_cons, List.length_cons, Nat.add_mul]; omega
theorem stepLen_le {s : SV} {n : Nat} (h : GStep s n) (hn : n ≤ 1000000) : stepLen s ≤ 1000000 := by
  unfold GStep at h; unfold stepLen
  split at h <;> rename_i hc <;> simp [hc] <;> omega
theorem madeLen_le {l : List SV} {n : Nat} (h : GSteps l n) : madeLen l ≤ 500000000 := by
  obtain ⟨h1, h2, h3, h4⟩ := h
  have := sum_le (l := l.map stepLen) (B := 1000000) (fun x hx => by obtain ⟨s, hs, rfl⟩ := List.mem_map.1 hx; exact stepLen_le (h1 s hs) h4)
  rw [List.length_map] at this
  have h5 : l.length * 1000000 ≤ 500 * 1000000 := Nat.mul_le_mul_right _ h3
  unfold madeLen; omega
theorem madeLen_take_le {l : List SV} {n : Nat} (h : GSteps l n) (k : Nat) : madeLen (l.take k) ≤ 500000000 := by
  obtain ⟨h1, h2, h3, h4⟩ := h
  have := sum_le (l := (l.take k).map stepLen) (B := 1000000) (fun x hx => by obtain ⟨s, hs, rfl⟩ := List.mem_map.1 hx; exact stepLen_le (h1 s (List.mem_of_mem_take hs)) h4)
  rw [List.length_map, List.length_take] at this
  have h5 : (min k l.length) * 1000000 ≤ 500 * 1000000 := Nat.mul_le_mul_right _ (by omega)
  unfold madeLen; omega
theorem ct_GoodStep (g : GW) (s : SV) (v : Value) (n : Nat) (hs : SOk g s) (hv : Shp v n) (hn : n ≤ 4611686018427387904) (ht : s.text.length ≤ 2147483647) :
    Ct Tryz.prog g 68 [.agg (stC s).toArray, v] [] (fun r g' H' => ∃ b, r = .bool b ∧ (b = true ↔ GStep s n) ∧ H' = []) := by
  have hsr := hs.frm.1; have hsr2 := hs.frm.2
  refine CI Tryz.func68 Tryz.ntmps68 rfl fun F g0 hg0 => ?_
  refine SR (Lk (e_box rfl rfl) ?_)
  rintro _ _ _ - ⟨b1, rfl, rfl⟩
  refine La rfl (nS (T_seq (SR (Lf rfl Tryz.runUnderlying105 rfl Tryz.sizeOf4 rfl (Lp (p_load rfl Tryz.isAgg4 (.head _) rfl) (Lp (p_not rfl) (nS (T_condNB rfl (fun hc2 => ?_) (fun hc2 => ?_)))))))))
  ·
    refine SR (Lf rfl Tryz.runUnderlying105 rfl Tryz.sizeOf25 rfl (Lp (p_load rfl Tryz.isAgg25 (.head _) rfl) (Lp (p_len (hs.text.1) rfl rfl Tryz.runUnderlying25) (Lp (p_geq rfl rfl) (Lm rfl (TL_splitD 12 rfl (fun hg3 => ?_) (fun hg3 => ?_)))))))
    ·
      refine Lg (p_fieldAddr rfl Tryz.runUnderlying105 rfl Tryz.sizeOf25 rfl) (Lg (p_load rfl Tryz.isAgg25 (.head _) rfl) (Lg (p_len (hs.text.1) rfl rfl Tryz.runUnderlying25) (Lg (p_leq rfl rfl) (Lp (p_pickT rfl rfl) (La rfl (nr (E_seq_ret (E_ret1 [] rfl (.refl _) rfl (K1 .nil) (fun g' hl => ?_)))))))))
      refine ⟨_, rfl, ?_, rfl⟩
      simp only [decide_eq_true_eq, Bool.false_eq_true]
      unfold GStep
      (simp [*]; omega)
    ·
      refine Ls (Ls (Ls (Ls (Lp (p_pickF rfl rfl) (La rfl (nr (E_seq_ret (E_ret1 [] rfl (.refl _) rfl (K1 .nil) (fun g' hl => ?_)))))))))
      refine ⟨_, rfl, ?_, rfl⟩
      simp only [decide_eq_true_eq, Bool.false_eq_true]
      unfold GStep
      (simp [*]; omega)
  ·
    refine kS (SR (Lf rfl Tryz.runUnderlying105 rfl Tryz.sizeOf3 rfl (Lp (p_load rfl Tryz.isAgg3 (.head _) rfl) (Lp (p_geq rfl rfl) (Lm rfl (TL_splitD 21 rfl (fun hg4 => ?_) (fun hg4 => ?_)))))))
    ·
      refine Lg (p_fieldAddr rfl Tryz.runUnderlying105 rfl Tryz.sizeOf3 rfl) (Lg (p_load rfl Tryz.isAgg3 (.head _) rfl) (Lg (p_geq rfl rfl) (Lp (p_pickT rfl rfl) (Lm rfl (TL_splitD 26 rfl (fun hg5 => ?_) (fun hg5 => ?_))))))
      ·
        refine Lg (p_fieldAddr rfl Tryz.runUnderlying105 rfl Tryz.sizeOf3 rfl) (Lg (p_load rfl Tryz.isAgg3 (.head _) rfl) (Lg (p_lss rfl rfl) (Lp (p_pickT rfl rfl) (Lm rfl (TL_splitD 31 rfl (fun hg6 => ?_) (fun hg6 => ?_))))))
        ·
          refine Lg (p_fieldAddr rfl Tryz.runUnderlying105 rfl Tryz.sizeOf3 rfl) (Lg (p_load rfl Tryz.isAgg3 (.head _) rfl) (Lg (p_move rfl) (Lg (p_len (hv) rfl rfl Tryz.runUnderlying25) (Lg (p_lss rfl rfl) (Lp (p_pickT rfl rfl) (Lm rfl (TL_splitD 38 rfl (fun hg7 => ?_) (fun hg7 => ?_))))))))
          ·
            refine Lg (p_fieldAddr rfl Tryz.runUnderlying105 rfl Tryz.sizeOf3 rfl) (Lg (p_load rfl Tryz.isAgg3 (.head _) rfl) (Lg (p_move rfl) (Lg (p_len (hv) rfl rfl Tryz.runUnderlying25) (Lg (p_fieldAddr rfl Tryz.runUnderlying105 rfl Tryz.sizeOf3 rfl) (Lg (p_load rfl Tryz.isAgg3 (.head _) rfl) (Lg (p_sub rfl rfl (wr64 (by omega) (by omega))) (Lg (p_leq rfl rfl) (Lp (p_pickT rfl rfl) (La rfl ?_)))))))))
            refine nr (E_ret1 [] rfl (.refl _) rfl (K1 .nil) (fun g' hl => ?_))
            refine ⟨_, rfl, ?_, rfl⟩
            simp only [decide_eq_true_eq, Bool.false_eq_true]
            unfold GStep
            (simp [*]; done)
          ·
            refine Ls (Ls (Ls (Ls (Ls (Ls (Ls (Ls (Lp (p_pickF rfl rfl) (La rfl ?_)))))))))
            refine nr (E_ret1 [] rfl (.refl _) rfl (K1 .nil) (fun g' hl => ?_))
            refine ⟨_, rfl, ?_, rfl⟩
            simp only [decide_eq_true_eq, Bool.false_eq_true]
            unfold GStep
            (simp [*]; done)
        ·
          refine Ls (Ls (Ls (Ls (Ls (Lp (p_pickF rfl rfl) (Lm rfl (Ls (Ls (Ls ?_)))))))))
          refine Ls (Ls (Ls (Ls (Ls (Lp (p_pickF rfl rfl) (La rfl (nr (E_ret1 [] rfl (.refl _) rfl (K1 .nil) (fun g' hl => ?_)))))))))
          refine ⟨_, rfl, ?_, rfl⟩
          simp only [decide_eq_true_eq, Bool.false_eq_true]
          unfold GStep
          (simp [*]; done)
      ·
        refine Ls (Ls (Ls (Lp (p_pickF rfl rfl) (Lm rfl (Ls (Ls (Ls (Ls (Ls ?_)))))))))
        refine Lp (p_pickF rfl rfl) (Lm rfl (Ls (Ls (Ls (Ls (Ls (Ls (Ls (Ls ?_)))))))))
        refine Lp (p_pickF rfl rfl) (La rfl (nr (E_ret1 [] rfl (.refl _) rfl (K1 .nil) (fun g' hl => ?_))))
        refine ⟨_, rfl, ?_, rfl⟩
        simp only [decide_eq_true_eq, Bool.false_eq_true]
        unfold GStep
        (simp [*]; done)
    ·
      refine Ls (Ls (Ls (Lp (p_pickF rfl rfl) (Lm rfl (Ls (Ls (Ls (Lp (p_pickF rfl rfl) (Lm rfl ?_)))))))))
      refine Ls (Ls (Ls (Ls (Ls (Lp (p_pickF rfl rfl) (Lm rfl (Ls (Ls (Ls ?_)))))))))
      refine Ls (Ls (Ls (Ls (Ls (Lp (p_pickF rfl rfl) (La rfl (nr (E_ret1 [] rfl (.refl _) rfl (K1 .nil) (fun g' hl => ?_)))))))))
      refine ⟨_, rfl, ?_, rfl⟩
      simp only [decide_eq_true_eq, Bool.false_eq_true]
      unfold GStep
      (simp [*]; done)
theorem ct_GoodSteps (g : GW) (v u : Value) (l : List SV) (n : Nat) (hv : Steps g v l) (hl : fitS l) (hu : Shp u n) (hn : n ≤ 4611686018427387904) :
    Ct Tryz.prog g 34 [v, u] [] (fun r g' H' => ∃ b, r = .bool b ∧ (b = true ↔ GSteps l n) ∧ H' = []) := by
  have hll := hl.1
  refine CI Tryz.func34 Tryz.ntmps34 rfl fun F g0 hg0 => ?_
  replace hv := hv.mono hg0
  refine SR (La rfl (nS (T_seq (SR (Lm rfl (Lp (p_len (hv.1.1) rfl rfl Tryz.runUnderlying37) (Lm rfl (nS (T_block (T_loop (ι := Nat) (fun k _ => k ≤ l.length ∧ ∀ (i : Nat) d, l[i]? = some d → i < k → GStep d n) (fun k => [(0, v), (1, u), (7, v), (8, .int .i64 l.length), (9, .int .i64 k)]) (fun _ => [F]) (fun k => l.length - k) (0) (fun g' hl => ⟨Nat.zero_le _, fun _ _ _ h => absurd h (Nat.not_lt_zero _)⟩) (by repeat (first | exact SubL.nil | refine SubL.cons rfl ?_)) (K0 .nil) ?_))))))))))
  rintro k gA hlgA ⟨hk, hno⟩
  replace hv := hv.mono hlgA
  refine SR (Lp (p_lss rfl rfl) (nS (T_seq (T_condD rfl (fun hc2 => ?_) (fun hc2 => ?_)))))
  ·
    have hkl : k < l.length := by omega
    obtain ⟨d, hid⟩ := get_some hkl
    refine kS (T_seq (T_block (SR (Lp (p_ix (hv.1.1) (j := k) rfl rfl Tryz.runUnderlying37 Tryz.sizeOf105 (by omega) (by omega) rfl) (Lp (p_ldRdN (vs := stC d) hv.1.2 rfl Tryz.isAgg105 Tryz.sizeOf105 rfl (by decide) (flat_all stC_len hid)) (Lk (e_alloc Tryz.zeroValue105 rfl) ?_))))))
    rintro _ _ _ - ⟨db, rfl, rfl⟩
    refine TL_k0 (e_storeW rfl rfl Tryz.sizeOf105 rfl rfl (fun u hu => stC_one d u hu) (K0 .nil) rfl) ?_
    rintro _ _ _ - ⟨rfl, rfl⟩
    refine nSR (Lp (p_loadW rfl Tryz.isAgg105 Tryz.sizeOf105 (.head _) rfl) (Lm rfl (Lk (e_call rfl (ct_GoodStep gA d u n (hv.2 d (List.mem_of_getElem? hid)) hu hn (hl.2 d (List.mem_of_getElem? hid))) .nil) ?_)))
    rintro _ _ _ - ⟨_, rfl, ⟨b, rfl, hb, rfl⟩⟩
    refine Lp (p_not rfl) (nS (T_condNB rfl (fun hc6 => ?_) (fun hc6 => ?_)))
    ·
      refine SR (La rfl (nr (E_block_ret (E_seq_ret (E_loop_ret (E_block_ret (E_seq_ret (E_ret1 [] rfl hlgA rfl (K1 .nil) (fun g' hl => ?_)))))))))
      refine ⟨_, rfl, ?_, rfl⟩
      have hbf : b = false := by simpa using (by assumption)
      constructor
      · intro h; cases h
      · intro h; have := hb.2 (h.1 d (List.mem_of_getElem? hid)); rw [hbf] at this; cases this
    ·
      refine T_skip (E_block (E_seq (T_region (Lp (p_add rfl rfl (wr64 (by omega) (by omega))) (Lm rfl (TL_nil (EL (.refl _) (k + 1) ?hm ?hI ((K1 .nil)))))))))
      case hm => exact (by omega)
      case hI => exact (fun g' hl => ⟨by omega, fun i d' h1 h2 => by by_cases hik : i = k; (subst hik; rw [hid] at h1; cases h1; exact hb.1 (by simpa using (by assumption))); exact hno i d' h1 (by omega)⟩)
  ·
    obtain rfl : k = l.length := by omega
    refine T_exit (E_seq_exit (E_loop_exit (E_block_hit (E_seq (SR (Lm rfl (Lp (p_len (hv.1.1) rfl rfl Tryz.runUnderlying37) (Lp (p_gtr rfl rfl) (Lm rfl (TL_splitD 21 rfl (fun hg7 => ?_) (fun hg7 => ?_)))))))))))
    ·
      refine Lg (p_move rfl) (Lg (p_len (hv.1.1) rfl rfl Tryz.runUnderlying37) (Lg (p_leq rfl rfl) (Lp (p_pickT rfl rfl) (Lm rfl (TL_splitD 26 rfl (fun hg8 => ?_) (fun hg8 => ?_))))))
      ·
        refine Lg (p_move rfl) (Lg (p_len (hu) rfl rfl Tryz.runUnderlying25) (Lg (p_leq rfl rfl) (Lp (p_pickT rfl rfl) (La rfl (nr (E_ret1 [] rfl hlgA rfl (K0 .nil) (fun g' hl => ?_)))))))
        refine ⟨_, rfl, ?_, rfl⟩
        have hall : ∀ s ∈ l, GStep s n := fun s hs => by obtain ⟨i, h⟩ := List.mem_iff_getElem?.1 hs; exact hno i s h (lt_of_get h)
        unfold GSteps
        simp only [decide_eq_true_eq, Bool.false_eq_true]
        exact ⟨fun h => ⟨hall, (by omega), (by omega), (by omega)⟩, fun h => (by have := h.2; omega)⟩
      ·
        refine Ls (Ls (Ls (Lp (p_pickF rfl rfl) (La rfl (nr (E_ret1 [] rfl hlgA rfl (K0 .nil) (fun g' hl => ?_)))))))
        refine ⟨_, rfl, ?_, rfl⟩
        have hall : ∀ s ∈ l, GStep s n := fun s hs => by obtain ⟨i, h⟩ := List.mem_iff_getElem?.1 hs; exact hno i s h (lt_of_get h)
        unfold GSteps
        simp only [decide_eq_true_eq, Bool.false_eq_true]
        exact ⟨fun h => (by cases h), fun h => (by have := h.2; omega)⟩
    ·
      refine Ls (Ls (Ls (Lp (p_pickF rfl rfl) (Lm rfl (Ls (Ls (Ls (Lp (p_pickF rfl rfl) (La rfl ?_)))))))))
      refine nr (E_ret1 [] rfl hlgA rfl (K0 .nil) (fun g' hl => ?_))
      refine ⟨_, rfl, ?_, rfl⟩
      have hall : ∀ s ∈ l, GStep s n := fun s hs => by obtain ⟨i, h⟩ := List.mem_iff_getElem?.1 hs; exact hno i s h (lt_of_get h)
      unfold GSteps
      simp only [decide_eq_true_eq, Bool.false_eq_true]
      exact ⟨fun h => (by cases h), fun h => (by have := h.2; omega)⟩
theorem ct_Made (g : GW) (v u : Value) (c : List UInt8) (l : List SV) (hv : Bytes g v c) (hu : Steps g u l) (hg : GSteps l c.length) :
    Ct Tryz.prog g 35 [v, u] [] (fun r g' H' => ∃ m, Shp r m.length ∧ m.length = madeLen l ∧ H' = [own r 1 5 (bvs m)]) := by
  have hll := hg.2.2.1; have hcl := hg.2.2.2
  refine CI Tryz.func35 Tryz.ntmps35 rfl fun F g0 hg0 => ?_
  replace hu := hu.mono hg0
  replace hv := hv.mono hg0
  refine T_nil 1 5 (SR (La rfl (nSR (La rfl (nS (T_seq (SR (Lm rfl (Lp (p_len (hu.1.1) rfl rfl Tryz.runUnderlying37) ?_)))))))))
  refine Lm rfl (nS (T_block (T_loop (ι := Nat × Value × List UInt8) (fun x _ => x.1 ≤ l.length ∧ x.2.2.length = madeLen (l.take x.1)) (fun x => [(0, v), (1, u), (5, x.2.1), (8, u), (9, .int .i64 l.length), (10, .int .i64 x.1)]) (fun x => [own x.2.1 1 5 (bvs x.2.2), F]) (fun x => l.length - x.1) ((0, _, [])) (fun g' hl => ⟨Nat.zero_le _, rfl⟩) (by repeat (first | exact SubL.nil | refine SubL.cons rfl ?_)) (K0 (K0 .nil)) ?_)))
  rintro ⟨k, o, m⟩ gA hlgA ⟨hk, hm⟩
  try dsimp only
  try dsimp only at hk hm
  replace hu := hu.mono hlgA
  replace hv := hv.mono hlgA
  refine SR (Lp (p_lss rfl rfl) (nS (T_seq (T_condD rfl (fun hc2 => ?_) (fun hc2 => ?_)))))
  ·
    have hkl : k < l.length := by omega
    obtain ⟨d, hid⟩ := get_some hkl
    have hgs := hg.1 d (List.mem_of_getElem? hid)
    have hml := madeLen_take_le hg k
    have hms := madeLen_snoc hid
    have hsl := stepLen_le hgs hcl
    refine kS (T_seq (T_block (SR (Lp (p_ix (hu.1.1) (j := k) rfl rfl Tryz.runUnderlying37 Tryz.sizeOf105 (by omega) (by omega) rfl) (Lp (p_ldRdN (vs := stC d) hu.1.2 rfl Tryz.isAgg105 Tryz.sizeOf105 rfl (by decide) (flat_all stC_len hid)) (Lk (e_alloc Tryz.zeroValue105 rfl) ?_))))))
    rintro _ _ _ - ⟨db, rfl, rfl⟩
    refine TL_k0 (e_storeW rfl rfl Tryz.sizeOf105 rfl rfl (fun u hu => stC_one d u hu) (K0 .nil) rfl) ?_
    rintro _ _ _ - ⟨rfl, rfl⟩
    refine nSR (Lf rfl Tryz.runUnderlying105 rfl Tryz.sizeOf4 rfl (Lp (p_load rfl Tryz.isAgg4 (.head _) rfl) (nS (T_cond rfl (fun hc5 => ?_) (fun hc5 => ?_)))))
    ·
      unfold GStep at hgs
      rw [if_pos hc5] at hgs
      have hsl2 : stepLen d = d.size.toNat := by simp [stepLen, hc5]
      refine T_region (Lm rfl (Lm rfl (Lf rfl Tryz.runUnderlying105 rfl Tryz.sizeOf3 rfl (Lp (p_load rfl Tryz.isAgg3 (.head _) rfl) (Lf rfl Tryz.runUnderlying105 rfl Tryz.sizeOf3 rfl (Lp (p_load rfl Tryz.isAgg3 (.head _) rfl) (Lf rfl Tryz.runUnderlying105 rfl Tryz.sizeOf3 rfl (Lp (p_load rfl Tryz.isAgg3 (.head _) rfl) (Lp (p_add rfl rfl (wr64 (by omega) (by omega))) ?_)))))))))
      refine Lp (p_slLH (a := d.frm.toNat) (b := (d.frm + d.size).toNat) hv.1 rfl Tryz.runUnderlying25 Tryz.sizeOf5 rfl rfl (by omega) (by omega) (by omega) (by omega) rfl) ?_
      refine Lk (e_append (by_ := 1) rfl rfl rfl rfl Tryz.runUnderlying25 Tryz.runUnderlying25 (.inr ⟨_, rfl⟩) Tryz.sizeOf5 Tryz.zeroValue5 rfl Tryz.typeInfo5 rfl (by decide) (by decide) (src_bytes (hv.sl (a := d.frm.toNat) (b := (d.frm + d.size).toNat) (by omega) (by omega))) (by rw [bvs_length, bvs_length, List.length_take, List.length_drop]; omega) (K1 .nil) (bvs_one _)) ?_
      rintro v6 _ _ - ⟨n_v6, hs_v6, hn_v6, rfl⟩
      refine La rfl (TL_nil (E_block (E_seq (T_region (Lp (p_add rfl rfl (wr64 (by omega) (by omega))) (Lm rfl (TL_nil ?_)))))))
      rw [← bvs_append]
      refine EL (.refl _) ((k + 1, _, _)) ?hm ?hI ((K0 (K1 .nil)))
      case hm => exact (by omega)
      case hI => exact (fun g' hl => ⟨by omega, by rw [List.length_append, hms, hm, List.length_take, List.length_drop]; omega⟩)
    ·
      unfold GStep at hgs
      rw [if_neg (by simp [hc5])] at hgs
      have hsl2 : stepLen d = d.text.length := by simp [stepLen, hc5]
      refine T_region (Lm rfl (Lf rfl Tryz.runUnderlying105 rfl Tryz.sizeOf25 rfl (Lp (p_load rfl Tryz.isAgg25 (.head _) rfl) ?_)))
      refine Lk (e_append (by_ := 1) rfl rfl rfl rfl Tryz.runUnderlying25 Tryz.runUnderlying25 (.inr ⟨_, rfl⟩) Tryz.sizeOf5 Tryz.zeroValue5 rfl Tryz.typeInfo5 rfl (by decide) (by decide) (src_bytes (hu.2 d (List.mem_of_getElem? hid)).text) (by rw [bvs_length, bvs_length]; omega) (K1 .nil) (bvs_one _)) ?_
      rintro v7 _ _ - ⟨n_v7, hs_v7, hn_v7, rfl⟩
      refine La rfl (TL_nil (E_block (E_seq (T_region (Lp (p_add rfl rfl (wr64 (by omega) (by omega))) (Lm rfl (TL_nil ?_)))))))
      rw [← bvs_append]
      refine EL (.refl _) ((k + 1, _, _)) ?hm ?hI ((K0 (K1 .nil)))
      case hm => exact (by omega)
      case hI => exact (fun g' hl => ⟨by omega, by rw [List.length_append, hms, hm]; omega⟩)
  ·
    obtain rfl : k = l.length := by omega
    refine T_exit (E_seq_exit (E_loop_exit (E_block_hit (E_seq (SR (TL_shp (.head _) (fun mo hmo hml => ?_)))))))
    rw [bvs_length, Nat.mul_one] at hml
    subst hml
    refine Lm rfl (La rfl (nr (E_ret1 [_] rfl hlgA rfl (K0 (K0 .nil)) (fun g' hl => ?_))))
    refine ⟨_, hmo, ?_, rfl⟩
    rw [hm, List.take_length]
end Go.Proofs.YtolddodhmeaceaaGreatDoor
namespace Go.Hl
variable {P : Program}
section
variable {d : Option Nat} {ty : TypeId} {ps : String} {af : Array Edge} {gd : Option (Nat × Bool)} {g : GW} {L : List (Nat × Value)} {H : List Atom}
theorem p_notI {t x n} (ex : ev L x = some (.int .i64 n)) : OpP P ⟨d, .unOp .xor t x, ty, ps, af, gd⟩ g L H (.int .i64 (bitsOf .xor .i64 (-1) n)) :=
  fun a nn D hk g' hl hs => by
    simp only [execOp, hk.eval ex, Op.unary]
    refine run_v ?_
    simp [Op.intBits, bitsOf, IntKind.signed]
end
theorem T_condDT {n c x y g L D H Q} {p : Prop} [Decidable p] (e : ev L c = some (.bool (decide p))) (hp : p) (hx : T P n x g L D H Q) : T P n (.cond c x y) g L D H Q :=
  T_cond e (fun _ => hx) (fun h => absurd hp (of_decide_eq_false h))
theorem T_condDF {n c x y g L D H Q} {p : Prop} [Decidable p] (e : ev L c = some (.bool (decide p))) (hp : ¬ p) (hy : T P n y g L D H Q) : T P n (.cond c x y) g L D H Q :=
  T_cond e (fun h => absurd (of_decide_eq_true h) hp) (fun _ => hy)
theorem T_condBT {n c x y g L D H Q} {t : Bool} (e : ev L c = some (.bool t)) (ht : t = true) (hx : T P n x g L D H Q) : T P n (.cond c x y) g L D H Q :=
  T_cond e (fun _ => hx) (fun h => by rw [ht] at h; cases h)
theorem T_condBF {n c x y g L D H Q} {t : Bool} (e : ev L c = some (.bool t)) (ht : t = false) (hy : T P n y g L D H Q) : T P n (.cond c x y) g L D H Q :=
  T_cond e (fun h => by rw [ht] at h; cases h) (fun _ => hy)
theorem notI {n : Nat} (h : n < 4611686018427387904) : bitsOf .xor .i64 (-1) (n : Int) = -(n : Int) - 1 := by
  show IntKind.i64.wrap (((BitVec.ofInt 64 (-1) ^^^ BitVec.ofInt 64 (n : Int)).toNat : Nat) : Int) = _
  have e : BitVec.ofInt 64 (-1) = BitVec.allOnes 64 := by decide
  have e2 : (BitVec.ofInt 64 (n : Int)).toNat = n := by
    rw [BitVec.ofInt_natCast, BitVec.toNat_ofNat]; omega
  have e3 : (BitVec.ofInt 64 (-1) ^^^ BitVec.ofInt 64 (n : Int)).toNat = 18446744073709551615 - n := by
    rw [e, BitVec.allOnes_xor, BitVec.toNat_not, e2]
  have e4 : ((18446744073709551615 - n : Nat) : Int) = 18446744073709551615 - (n : Int) := by omega
  rw [e3]
  generalize ((18446744073709551615 - n : Nat) : Int) = z at e4 ⊢
  subst e4
  clear e3 e2 e
  simp [IntKind.wrap, IntKind.bits, IntKind.signed]
  split <;> omega
theorem u8_of (z : Int) : ∃ c : UInt8, IntKind.u8.wrap z = (c.toNat : Int) := by
  refine ⟨UInt8.ofNat (z % 256).toNat, ?_⟩
  simp only [IntKind.wrap, IntKind.bits, IntKind.signed, Bool.false_and, Bool.false_eq_true, if_false]
  simp; omega
theorem flat_u8 (c : UInt8) {z : Int} (h : z = (c.toNat : Int)) : flatC [.int .u8 z] = bvs [c] := by
  subst h; simp [flatC, Value.cells, bvs, bv]
theorem u8n {n : Nat} (h : n < 256) : ((UInt8.ofNat n).toNat : Int) = n := by simp; omega
theorem wrU8n (n : Nat) : IntKind.u8.wrap (n : Int) = ((UInt8.ofNat n).toNat : Int) := by
  simp only [IntKind.wrap, IntKind.bits, IntKind.signed, Bool.false_and, Bool.false_eq_true, if_false]
  simp
end Go.Hl
namespace Go.Proofs.YtolddodhmeaceaaGreatDoor
open Go.Hl Go.Pk
theorem size7_pow : ∀ (k n : Nat), n < 128 ^ (k + 1) → (size7 n).length ≤ k + 1
  | k, n, h => by
    unfold size7
    split
    · simp
    · cases k with
      | zero => simp at h; omega
      | succ k =>
        have := size7_pow k (n / 128) (by rw [Nat.pow_succ] at h; omega)
        simp; omega
theorem ct_Size7 (g : GW) (n : Nat) (hn : n < 128 ^ 8) : Ct Tryz.prog g 39 [.int .i64 n] [] (fun r g' H' => Shp r (size7 n).length ∧ H' = [own r 1 5 (bvs (size7 n))]) := by
  have hl7 := size7_pow 7 n hn
  have hp : (128 : Nat) ^ 8 = 72057594037927936 := by decide
  refine CI Tryz.func39 Tryz.ntmps39 rfl fun F g0 hg0 => ?_
  refine T_nil 1 5 (SR (La rfl (nSR (La rfl (nS (T_seq (T_block (T_loop (ι := Nat × Value × List UInt8) (fun x _ => x.1 ≤ n ∧ x.2.2 ++ size7 x.1 = size7 n) (fun x => [(0, .int .i64 x.1), (3, x.2.1)]) (fun x => [own x.2.1 1 5 (bvs x.2.2), F]) (fun x => x.1) ((n, _, [])) (fun g' hl => ⟨Nat.le_refl _, rfl⟩) (by repeat (first | exact SubL.nil | refine SubL.cons rfl ?_)) (K0 (K0 .nil)) ?_))))))))
  rintro ⟨k, o, m⟩ gA hlgA ⟨hk, hm⟩
  try dsimp only
  try dsimp only at hk hm
  have hml : m.length ≤ 8 := by have := congrArg List.length hm; rw [List.length_append] at this; omega
  refine T_seq (SR (Lm rfl (Lp (p_geq rfl rfl) (nS (T_condD rfl (fun hc2 => ?_) (fun hc2 => ?_))))))
  ·
    replace hc2 : ¬ k < 128 := by omega
    refine kS (T_block (SR (Lm rfl (Lm rfl (Lp (p_rem rfl rfl (by decide) (remN k 128)) (Lp (p_add rfl rfl (wr64 (by omega) (by omega))) (Lp (p_conv rfl Tryz.runUnderlying3 Tryz.runUnderlying5 (wrU8 (by omega) (by omega))) (Lk (e_buildSlice rfl rfl rfl Tryz.runUnderlying25 Tryz.sizeOf5 Tryz.zeroValue5 rfl (by simp [Value.cells])) ?_))))))))
    rintro _ _ _ - ⟨q, rfl, rfl⟩
    refine Lk (e_append (by_ := 1) rfl rfl rfl rfl Tryz.runUnderlying25 Tryz.runUnderlying25 (.inr ⟨_, rfl⟩) Tryz.sizeOf5 Tryz.zeroValue5 rfl Tryz.typeInfo5 rfl (by decide) (by decide) (src_ownS rfl (.head _)) (by simp [bvs_length, flatC, Value.cells]; omega) (K1 .nil) (by simp [flatC, Value.cells, Value.oneCell'])) ?_
    rintro v4 _ _ - ⟨n_v4, hs_v4, hn_v4, rfl⟩
    refine La rfl (nR (Lm rfl (Lp (p_quo rfl rfl (by decide) (quoN k 128 (by omega))) (La rfl (TL_nil (E_block ?_))))))
    rw [flat_u8 (UInt8.ofNat (k % 128 + 128)) (by rw [u8n (by omega)]; omega), ← bvs_append]
    refine EL (.refl _) ((k / 128, _, _)) ?hm ?hI ((K0 (K1 .nil)))
    case hm => exact (by omega)
    case hI => exact (fun g' hl => ⟨by omega, by rw [List.append_assoc, List.singleton_append, ← size7_ge (by omega)]; exact hm⟩)
  ·
    replace hc2 : k < 128 := by omega
    refine T_exit (E_seq_exit (E_loop_exit (E_block_hit (E_seq (SR (Lm rfl (Lm rfl (Lp (p_conv rfl Tryz.runUnderlying3 Tryz.runUnderlying5 (wrU8 (by omega) (by omega))) (Lk (e_buildSlice rfl rfl rfl Tryz.runUnderlying25 Tryz.sizeOf5 Tryz.zeroValue5 rfl (by simp [Value.cells])) ?_)))))))))
    rintro _ _ _ - ⟨q, rfl, rfl⟩
    refine Lk (e_append (by_ := 1) rfl rfl rfl rfl Tryz.runUnderlying25 Tryz.runUnderlying25 (.inr ⟨_, rfl⟩) Tryz.sizeOf5 Tryz.zeroValue5 rfl Tryz.typeInfo5 rfl (by decide) (by decide) (src_ownS rfl (.head _)) (by simp [bvs_length, flatC, Value.cells]; omega) (K1 .nil) (by simp [flatC, Value.cells, Value.oneCell'])) ?_
    rintro v6 _ _ - ⟨n_v6, hs_v6, hn_v6, rfl⟩
    have hfin : bvs m ++ flatC [.int .u8 (k : Int)] = bvs (size7 n) := by rw [flat_u8 (UInt8.ofNat k) (by rw [u8n (by omega)]), ← bvs_append, ← hm, size7_lt (by omega)]
    rw [hfin]
    refine TL_shp (.head _) (fun mo hmo hml => ?_)
    rw [bvs_length, Nat.mul_one] at hml
    subst hml
    refine La rfl (nr (E_ret1 [_] rfl hlgA rfl (K0 (K1 .nil)) (fun g' hl => ?_)))
    exact ⟨hmo, rfl⟩
theorem ct_StepBytes (g : GW) (s : SV) (hs : SOk g s) (ht : s.copy = false → s.text.length ≤ 127) :
    Ct Tryz.prog g 40 [.agg (stC s).toArray] [] (fun r g' H' => ∃ m, Shp r m.length ∧ m.length ≤ 128 ∧ H' = [own r 1 5 (bvs m)]) := by
  have hs1 := hs.size; have hs2 := hs.frm; have hs3 := hs.wide
  refine CI Tryz.func40 Tryz.ntmps40 rfl fun F g0 hg0 => ?_
  replace hs := hs.mono hg0
  refine SR (Lk (e_box rfl rfl) ?_)
  rintro _ _ _ - ⟨sb, rfl, rfl⟩
  refine La rfl (nS (T_seq (SR (Lf rfl Tryz.runUnderlying105 rfl Tryz.sizeOf4 rfl (Lp (p_load rfl Tryz.isAgg4 (.head _) rfl) (Lp (p_not rfl) (nS (T_condNB rfl (fun hc2 => ?_) (fun hc2 => ?_)))))))))
  ·
    refine SR ?_
    replace ht := ht (by assumption)
    refine Lf rfl Tryz.runUnderlying105 rfl Tryz.sizeOf25 rfl (Lp (p_load rfl Tryz.isAgg25 (.head _) rfl) (Lp (p_len (hs.text.1) rfl rfl Tryz.runUnderlying25) (Lp (p_conv rfl Tryz.runUnderlying3 Tryz.runUnderlying5 (wrU8 (by omega) (by omega))) (Lk (e_buildSlice rfl rfl rfl Tryz.runUnderlying25 Tryz.sizeOf5 Tryz.zeroValue5 rfl (by simp [Value.cells])) ?_))))
    rintro _ _ _ - ⟨q, rfl, rfl⟩
    refine Lf rfl Tryz.runUnderlying105 rfl Tryz.sizeOf25 rfl (Lp (p_load rfl Tryz.isAgg25 (.tail _ (.head _)) rfl) ?_)
    refine Lk (e_append (by_ := 1) rfl rfl rfl rfl Tryz.runUnderlying25 Tryz.runUnderlying25 (.inr ⟨_, rfl⟩) Tryz.sizeOf5 Tryz.zeroValue5 rfl Tryz.typeInfo5 rfl (by decide) (by decide) (src_bytes hs.text) (by simp [bvs_length, flatC, Value.cells]; omega) (K0 .nil) (bvs_one _)) ?_
    rintro v4 _ _ - ⟨n_v4, hs_v4, hn_v4, rfl⟩
    have hfin : flatC [.int .u8 (s.text.length : Int)] ++ bvs s.text = bvs (UInt8.ofNat s.text.length :: s.text) := by rw [flat_u8 (UInt8.ofNat s.text.length) (by rw [u8n (by omega)]), ← bvs_append]; rfl
    rw [hfin]
    refine TL_shp (.head _) (fun mo hmo hml => ?_)
    rw [bvs_length, Nat.mul_one] at hml
    subst hml
    refine La rfl (nr (E_seq_ret (E_ret1 [_] rfl (.refl _) rfl (K0 (K1 .nil)) (fun g' hl => ?_))))
    exact ⟨_, hmo, by (simp; omega), rfl⟩
  ·
    refine kS (SR (Lf rfl Tryz.runUnderlying105 rfl Tryz.sizeOf3 rfl (Lp (p_load rfl Tryz.isAgg3 (.head _) rfl) (La rfl (nS (T_seq (SR (Lm rfl (Lp (p_eql rfl rfl) ?_)))))))))
    refine nS (T_condD rfl (fun hc5 => ?_) (fun hc5 => ?_))
    ·
      refine T_region (La rfl (nSR (Lk (e_buildSlice rfl rfl rfl Tryz.runUnderlying25 Tryz.sizeOf5 Tryz.zeroValue5 rfl (by simp [Value.cells])) ?_)))
      rintro _ _ _ - ⟨o, rfl, rfl⟩
      refine La rfl (La rfl (nS (T_seq (SR (Lm rfl (nS (T_block (T_loop (ι := Nat × Int × Int × Value × List Value) (fun x _ => x.1 ≤ 7 ∧ (∃ m, x.2.2.2.2 = bvs m ∧ m.length ≤ x.1) ∧ ∃ c : UInt8, x.2.2.1 = (c.toNat : Int)) (fun x => [(1, .pointer (some ⟨sb, 0, none⟩)), (3, .int .i64 x.2.1), (4, .int .u8 x.2.2.1), (5, x.2.2.2.1), (24, .int .i64 x.1)]) (fun x => [blk sb (.cells (stC s).toArray 105), own x.2.2.2.1 1 5 x.2.2.2.2, F]) (fun x => 7 - x.1) ((0, _, 128, _, [])) (fun g' hl => ⟨by omega, ⟨[], rfl, Nat.le_refl _⟩, ⟨128, rfl⟩⟩) (by repeat (first | exact SubL.nil | refine SubL.cons rfl ?_)) (K1 (K0 (K0 .nil))) ?_))))))))
      rintro ⟨i, z, c, o, xs⟩ gA hlgA ⟨hi, ⟨m, rfl, hm⟩, ⟨cc, rfl⟩⟩
      try dsimp only
      try dsimp only at hi m hm cc
      refine SR (Lp (p_lss rfl rfl) (nS (T_seq (T_condD rfl (fun hc8 => ?_) (fun hc8 => ?_)))))
      ·
        replace hc8 : i < 7 := by omega
        refine kS (T_seq (T_block (SR (Lm rfl (La rfl (nSR (Lf rfl Tryz.runUnderlying105 rfl Tryz.sizeOf3 rfl (Lp (p_load rfl Tryz.isAgg3 (.head _) rfl) (Lm rfl ?_)))))))))
        refine Lp (p_mul rfl rfl (wr64 (by omega) (by omega))) (Lp (p_shr rfl rfl (by omega) rfl rfl) (Lp (p_conv rfl Tryz.runUnderlying3 Tryz.runUnderlying5 (rfl)) (La rfl (nS (T_seq (SR (Lm rfl (Lp (p_geq rfl rfl) (nS (T_condD rfl (fun hc9 => ?_) (fun hc9 => ?_)))))))))))
        ·
          refine T_region (Lm rfl (Lm rfl (Lp (p_sub rfl rfl (wr64 (by omega) (by omega))) (Lp (p_mul rfl rfl (wr64 (by omega) (by omega))) (Lp (p_shr rfl rfl (by omega) rfl rfl) (Lp (p_conv rfl Tryz.runUnderlying3 Tryz.runUnderlying5 (rfl)) (La rfl (nSR (Lm rfl ?_)))))))))
          refine Lp (p_neq rfl rfl) (Lm rfl (TL_splitD 43 rfl (fun hg10 => ?_) (fun hg10 => ?_)))
          ·
            refine Ls (Ls (Ls (Ls (Ls (Ls (Lp (p_pickT rfl rfl) (nS (T_condT rfl (SR ?_)))))))))
            refine Lm rfl (Lm rfl (Lp (p_shl rfl rfl (by omega) rfl rfl) (Lp (p_or rfl rfl rfl) (La rfl (nR (Lm rfl (Lm rfl (Lk (e_buildSlice rfl rfl rfl Tryz.runUnderlying25 Tryz.sizeOf5 Tryz.zeroValue5 rfl (by simp [Value.cells])) ?_))))))))
            rintro _ _ _ - ⟨q2, rfl, rfl⟩
            refine Lk (e_append (by_ := 1) rfl rfl rfl rfl Tryz.runUnderlying25 Tryz.runUnderlying25 (.inr ⟨_, rfl⟩) Tryz.sizeOf5 Tryz.zeroValue5 rfl Tryz.typeInfo5 rfl (by decide) (by decide) (src_ownS rfl (.head _)) (by simp [bvs_length, flatC, Value.cells]; omega) (K2 .nil) (by simp [flatC, Value.cells, Value.oneCell'])) ?_
            rintro v12 _ _ - ⟨n_v12, hs_v12, hn_v12, rfl⟩
            refine La rfl (TL_nil (E_block (E_seq (T_region (Lp (p_add rfl rfl (wr64 (by omega) (by omega))) (Lm rfl (TL_nil (EL (.refl _) ((i + 1, z, _, _, _)) ?hm ?hI ((K2 (K0 (K1 .nil))))))))))))
            case hm => exact (by omega)
            case hI => exact (fun g' hl => ⟨by omega, by (obtain ⟨c1, hc1⟩ := u8_of (z.fdiv (2 ^ (min (8 * ((i : Int) - 4)).toNat 64))); exact ⟨m ++ [c1], by rw [bvs_append]; exact congrArg (bvs m ++ ·) (flat_u8 c1 hc1), by simp; omega⟩), by exact u8_of _⟩)
          ·
            refine Lg (p_fieldAddr rfl Tryz.runUnderlying105 rfl Tryz.sizeOf3 rfl) (Lg (p_load rfl Tryz.isAgg3 (.head _) rfl) (Lg (p_move rfl) (Lg (p_shr rfl rfl (by omega) rfl rfl) (Lg (p_and rfl rfl rfl) (Lg (p_eql rfl rfl) (Lp (p_pickF rfl rfl) (nS (T_condD rfl (fun hc13 => ?_) (fun hc13 => ?_)))))))))
            ·
              refine SR (Lm rfl (Lm rfl (Lp (p_shl rfl rfl (by omega) rfl rfl) (Lp (p_or rfl rfl rfl) (La rfl (nR (Lm rfl (Lm rfl (Lk (e_buildSlice rfl rfl rfl Tryz.runUnderlying25 Tryz.sizeOf5 Tryz.zeroValue5 rfl (by simp [Value.cells])) ?_)))))))))
              rintro _ _ _ - ⟨q2, rfl, rfl⟩
              refine Lk (e_append (by_ := 1) rfl rfl rfl rfl Tryz.runUnderlying25 Tryz.runUnderlying25 (.inr ⟨_, rfl⟩) Tryz.sizeOf5 Tryz.zeroValue5 rfl Tryz.typeInfo5 rfl (by decide) (by decide) (src_ownS rfl (.head _)) (by simp [bvs_length, flatC, Value.cells]; omega) (K2 .nil) (by simp [flatC, Value.cells, Value.oneCell'])) ?_
              rintro v15 _ _ - ⟨n_v15, hs_v15, hn_v15, rfl⟩
              refine La rfl (TL_nil (E_block (E_seq (T_region (Lp (p_add rfl rfl (wr64 (by omega) (by omega))) (Lm rfl (TL_nil (EL (.refl _) ((i + 1, z, _, _, _)) ?hm ?hI ((K2 (K0 (K1 .nil))))))))))))
              case hm => exact (by omega)
              case hI => exact (fun g' hl => ⟨by omega, by (obtain ⟨c1, hc1⟩ := u8_of (z.fdiv (2 ^ (min (8 * ((i : Int) - 4)).toNat 64))); exact ⟨m ++ [c1], by rw [bvs_append]; exact congrArg (bvs m ++ ·) (flat_u8 c1 hc1), by simp; omega⟩), by exact u8_of _⟩)
            ·
              refine T_skip (E_block (E_seq (T_region (Lp (p_add rfl rfl (wr64 (by omega) (by omega))) (Lm rfl (TL_nil (EL (.refl _) ((i + 1, z, _, _, _)) ?hm ?hI ((K0 (K0 (K0 .nil)))))))))))
              case hm => exact (by omega)
              case hI => exact (fun g' hl => ⟨by omega, by exact ⟨m, rfl, by omega⟩, by exact ⟨_, rfl⟩⟩)
        ·
          refine kS (SR (Lm rfl (Lp (p_neq rfl rfl) (Lm rfl (TL_splitD 43 rfl (fun hg16 => ?_) (fun hg16 => ?_))))))
          ·
            refine Ls (Ls (Ls (Ls (Ls (Ls (Lp (p_pickT rfl rfl) (nS (T_condT rfl (SR ?_)))))))))
            refine Lm rfl (Lm rfl (Lp (p_shl rfl rfl (by omega) rfl rfl) (Lp (p_or rfl rfl rfl) (La rfl (nR (Lm rfl (Lm rfl (Lk (e_buildSlice rfl rfl rfl Tryz.runUnderlying25 Tryz.sizeOf5 Tryz.zeroValue5 rfl (by simp [Value.cells])) ?_))))))))
            rintro _ _ _ - ⟨q2, rfl, rfl⟩
            refine Lk (e_append (by_ := 1) rfl rfl rfl rfl Tryz.runUnderlying25 Tryz.runUnderlying25 (.inr ⟨_, rfl⟩) Tryz.sizeOf5 Tryz.zeroValue5 rfl Tryz.typeInfo5 rfl (by decide) (by decide) (src_ownS rfl (.head _)) (by simp [bvs_length, flatC, Value.cells]; omega) (K2 .nil) (by simp [flatC, Value.cells, Value.oneCell'])) ?_
            rintro v18 _ _ - ⟨n_v18, hs_v18, hn_v18, rfl⟩
            refine La rfl (TL_nil (E_block (E_seq (T_region (Lp (p_add rfl rfl (wr64 (by omega) (by omega))) (Lm rfl (TL_nil (EL (.refl _) ((i + 1, z, _, _, _)) ?hm ?hI ((K2 (K0 (K1 .nil))))))))))))
            case hm => exact (by omega)
            case hI => exact (fun g' hl => ⟨by omega, by (obtain ⟨c1, hc1⟩ := u8_of (s.frm.fdiv (2 ^ (min (8 * (i : Int)).toNat 64))); exact ⟨m ++ [c1], by rw [bvs_append]; exact congrArg (bvs m ++ ·) (flat_u8 c1 hc1), by simp; omega⟩), by exact u8_of _⟩)
          ·
            refine Lg (p_fieldAddr rfl Tryz.runUnderlying105 rfl Tryz.sizeOf3 rfl) (Lg (p_load rfl Tryz.isAgg3 (.head _) rfl) (Lg (p_move rfl) (Lg (p_shr rfl rfl (by omega) rfl rfl) (Lg (p_and rfl rfl rfl) (Lg (p_eql rfl rfl) (Lp (p_pickF rfl rfl) (nS (T_condD rfl (fun hc19 => ?_) (fun hc19 => ?_)))))))))
            ·
              refine SR (Lm rfl (Lm rfl (Lp (p_shl rfl rfl (by omega) rfl rfl) (Lp (p_or rfl rfl rfl) (La rfl (nR (Lm rfl (Lm rfl (Lk (e_buildSlice rfl rfl rfl Tryz.runUnderlying25 Tryz.sizeOf5 Tryz.zeroValue5 rfl (by simp [Value.cells])) ?_)))))))))
              rintro _ _ _ - ⟨q2, rfl, rfl⟩
              refine Lk (e_append (by_ := 1) rfl rfl rfl rfl Tryz.runUnderlying25 Tryz.runUnderlying25 (.inr ⟨_, rfl⟩) Tryz.sizeOf5 Tryz.zeroValue5 rfl Tryz.typeInfo5 rfl (by decide) (by decide) (src_ownS rfl (.head _)) (by simp [bvs_length, flatC, Value.cells]; omega) (K2 .nil) (by simp [flatC, Value.cells, Value.oneCell'])) ?_
              rintro v21 _ _ - ⟨n_v21, hs_v21, hn_v21, rfl⟩
              refine La rfl (TL_nil (E_block (E_seq (T_region (Lp (p_add rfl rfl (wr64 (by omega) (by omega))) (Lm rfl (TL_nil (EL (.refl _) ((i + 1, z, _, _, _)) ?hm ?hI ((K2 (K0 (K1 .nil))))))))))))
              case hm => exact (by omega)
              case hI => exact (fun g' hl => ⟨by omega, by (obtain ⟨c1, hc1⟩ := u8_of (s.frm.fdiv (2 ^ (min (8 * (i : Int)).toNat 64))); exact ⟨m ++ [c1], by rw [bvs_append]; exact congrArg (bvs m ++ ·) (flat_u8 c1 hc1), by simp; omega⟩), by exact u8_of _⟩)
            ·
              refine T_skip (E_block (E_seq (T_region (Lp (p_add rfl rfl (wr64 (by omega) (by omega))) (Lm rfl (TL_nil (EL (.refl _) ((i + 1, z, _, _, _)) ?hm ?hI ((K0 (K0 (K0 .nil)))))))))))
              case hm => exact (by omega)
              case hI => exact (fun g' hl => ⟨by omega, by exact ⟨m, rfl, by omega⟩, by exact ⟨_, rfl⟩⟩)
      ·
        obtain rfl : i = 7 := by omega
        refine T_exit (E_seq_exit (E_loop_exit (E_block_hit (E_seq (SR (TL_shp (.tail _ (.head _)) (fun mo hmo hml => ?_)))))))
        rw [bvs_length] at hml
        refine Lm rfl (Lk (e_buildSlice rfl rfl rfl Tryz.runUnderlying25 Tryz.sizeOf5 Tryz.zeroValue5 rfl (by simp [Value.cells])) ?_)
        rintro _ _ _ - ⟨q, rfl, rfl⟩
        refine Lm rfl ?_
        refine Lk (e_append (by_ := 1) rfl rfl rfl rfl Tryz.runUnderlying25 Tryz.runUnderlying25 (.inr ⟨_, rfl⟩) Tryz.sizeOf5 Tryz.zeroValue5 rfl Tryz.typeInfo5 rfl (by decide) (by decide) (src_own hmo (by rw [bvs_length, hml]) (.tail _ (.tail _ (.head _)))) (by simp [bvs_length, flatC, Value.cells]; omega) (K0 .nil) (bvs_one _)) ?_
        rintro v23 _ _ - ⟨n_v23, hs_v23, hn_v23, rfl⟩
        have hfin : flatC [.int .u8 ((cc.toNat : Nat) : Int)] ++ bvs m = bvs (cc :: m) := by rw [flat_u8 cc rfl, ← bvs_append]; rfl
        rw [hfin]
        refine TL_shp (.head _) (fun mq hmo hmq => ?_)
        rw [bvs_length, Nat.mul_one] at hmq
        subst hmq
        refine La rfl (nr (E_ret1 [_] rfl hlgA rfl (K0 (K2 .nil)) (fun g' hl => ?_)))
        exact ⟨_, hmo, by (simp; omega), rfl⟩
    ·
      refine kS (SR (Lk (e_buildSlice rfl rfl rfl Tryz.runUnderlying25 Tryz.sizeOf5 Tryz.zeroValue5 rfl (by simp [Value.cells])) ?_))
      rintro _ _ _ - ⟨o, rfl, rfl⟩
      refine La rfl (La rfl (nS (T_seq (SR (Lm rfl (nS (T_block (T_loop (ι := Nat × Int × Int × Value × List Value) (fun x _ => x.1 ≤ 7 ∧ (∃ m, x.2.2.2.2 = bvs m ∧ m.length ≤ x.1) ∧ ∃ c : UInt8, x.2.2.1 = (c.toNat : Int)) (fun x => [(1, .pointer (some ⟨sb, 0, none⟩)), (3, .int .i64 x.2.1), (4, .int .u8 x.2.2.1), (5, x.2.2.2.1), (24, .int .i64 x.1)]) (fun x => [blk sb (.cells (stC s).toArray 105), own x.2.2.2.1 1 5 x.2.2.2.2, F]) (fun x => 7 - x.1) ((0, _, 128, _, [])) (fun g' hl => ⟨by omega, ⟨[], rfl, Nat.le_refl _⟩, ⟨128, rfl⟩⟩) (by repeat (first | exact SubL.nil | refine SubL.cons rfl ?_)) (K1 (K0 (K0 .nil))) ?_))))))))
      rintro ⟨i, z, c, o, xs⟩ gA hlgA ⟨hi, ⟨m, rfl, hm⟩, ⟨cc, rfl⟩⟩
      try dsimp only
      try dsimp only at hi m hm cc
      refine SR (Lp (p_lss rfl rfl) (nS (T_seq (T_condD rfl (fun hc26 => ?_) (fun hc26 => ?_)))))
      ·
        replace hc26 : i < 7 := by omega
        refine kS (T_seq (T_block (SR (Lm rfl (La rfl (nSR (Lf rfl Tryz.runUnderlying105 rfl Tryz.sizeOf3 rfl (Lp (p_load rfl Tryz.isAgg3 (.head _) rfl) (Lm rfl ?_)))))))))
        refine Lp (p_mul rfl rfl (wr64 (by omega) (by omega))) (Lp (p_shr rfl rfl (by omega) rfl rfl) (Lp (p_conv rfl Tryz.runUnderlying3 Tryz.runUnderlying5 (rfl)) (La rfl (nS (T_seq (SR (Lm rfl (Lp (p_geq rfl rfl) (nS (T_condD rfl (fun hc27 => ?_) (fun hc27 => ?_)))))))))))
        ·
          refine T_region (Lm rfl (Lm rfl (Lp (p_sub rfl rfl (wr64 (by omega) (by omega))) (Lp (p_mul rfl rfl (wr64 (by omega) (by omega))) (Lp (p_shr rfl rfl (by omega) rfl rfl) (Lp (p_conv rfl Tryz.runUnderlying3 Tryz.runUnderlying5 (rfl)) (La rfl (nSR (Lm rfl ?_)))))))))
          refine Lp (p_neq rfl rfl) (Lm rfl (TL_splitD 43 rfl (fun hg28 => ?_) (fun hg28 => ?_)))
          ·
            refine Ls (Ls (Ls (Ls (Ls (Ls (Lp (p_pickT rfl rfl) (nS (T_condT rfl (SR ?_)))))))))
            refine Lm rfl (Lm rfl (Lp (p_shl rfl rfl (by omega) rfl rfl) (Lp (p_or rfl rfl rfl) (La rfl (nR (Lm rfl (Lm rfl (Lk (e_buildSlice rfl rfl rfl Tryz.runUnderlying25 Tryz.sizeOf5 Tryz.zeroValue5 rfl (by simp [Value.cells])) ?_))))))))
            rintro _ _ _ - ⟨q2, rfl, rfl⟩
            refine Lk (e_append (by_ := 1) rfl rfl rfl rfl Tryz.runUnderlying25 Tryz.runUnderlying25 (.inr ⟨_, rfl⟩) Tryz.sizeOf5 Tryz.zeroValue5 rfl Tryz.typeInfo5 rfl (by decide) (by decide) (src_ownS rfl (.head _)) (by simp [bvs_length, flatC, Value.cells]; omega) (K2 .nil) (by simp [flatC, Value.cells, Value.oneCell'])) ?_
            rintro v30 _ _ - ⟨n_v30, hs_v30, hn_v30, rfl⟩
            refine La rfl (TL_nil (E_block (E_seq (T_region (Lp (p_add rfl rfl (wr64 (by omega) (by omega))) (Lm rfl (TL_nil (EL (.refl _) ((i + 1, z, _, _, _)) ?hm ?hI ((K2 (K0 (K1 .nil))))))))))))
            case hm => exact (by omega)
            case hI => exact (fun g' hl => ⟨by omega, by (obtain ⟨c1, hc1⟩ := u8_of (z.fdiv (2 ^ (min (8 * ((i : Int) - 4)).toNat 64))); exact ⟨m ++ [c1], by rw [bvs_append]; exact congrArg (bvs m ++ ·) (flat_u8 c1 hc1), by simp; omega⟩), by exact u8_of _⟩)
          ·
            refine Lg (p_fieldAddr rfl Tryz.runUnderlying105 rfl Tryz.sizeOf3 rfl) (Lg (p_load rfl Tryz.isAgg3 (.head _) rfl) (Lg (p_move rfl) (Lg (p_shr rfl rfl (by omega) rfl rfl) (Lg (p_and rfl rfl rfl) (Lg (p_eql rfl rfl) (Lp (p_pickF rfl rfl) (nS (T_condD rfl (fun hc31 => ?_) (fun hc31 => ?_)))))))))
            ·
              refine SR (Lm rfl (Lm rfl (Lp (p_shl rfl rfl (by omega) rfl rfl) (Lp (p_or rfl rfl rfl) (La rfl (nR (Lm rfl (Lm rfl (Lk (e_buildSlice rfl rfl rfl Tryz.runUnderlying25 Tryz.sizeOf5 Tryz.zeroValue5 rfl (by simp [Value.cells])) ?_)))))))))
              rintro _ _ _ - ⟨q2, rfl, rfl⟩
              refine Lk (e_append (by_ := 1) rfl rfl rfl rfl Tryz.runUnderlying25 Tryz.runUnderlying25 (.inr ⟨_, rfl⟩) Tryz.sizeOf5 Tryz.zeroValue5 rfl Tryz.typeInfo5 rfl (by decide) (by decide) (src_ownS rfl (.head _)) (by simp [bvs_length, flatC, Value.cells]; omega) (K2 .nil) (by simp [flatC, Value.cells, Value.oneCell'])) ?_
              rintro v33 _ _ - ⟨n_v33, hs_v33, hn_v33, rfl⟩
              refine La rfl (TL_nil (E_block (E_seq (T_region (Lp (p_add rfl rfl (wr64 (by omega) (by omega))) (Lm rfl (TL_nil (EL (.refl _) ((i + 1, z, _, _, _)) ?hm ?hI ((K2 (K0 (K1 .nil))))))))))))
              case hm => exact (by omega)
              case hI => exact (fun g' hl => ⟨by omega, by (obtain ⟨c1, hc1⟩ := u8_of (z.fdiv (2 ^ (min (8 * ((i : Int) - 4)).toNat 64))); exact ⟨m ++ [c1], by rw [bvs_append]; exact congrArg (bvs m ++ ·) (flat_u8 c1 hc1), by simp; omega⟩), by exact u8_of _⟩)
            ·
              refine T_skip (E_block (E_seq (T_region (Lp (p_add rfl rfl (wr64 (by omega) (by omega))) (Lm rfl (TL_nil (EL (.refl _) ((i + 1, z, _, _, _)) ?hm ?hI ((K0 (K0 (K0 .nil)))))))))))
              case hm => exact (by omega)
              case hI => exact (fun g' hl => ⟨by omega, by exact ⟨m, rfl, by omega⟩, by exact ⟨_, rfl⟩⟩)
        ·
          refine kS (SR (Lm rfl (Lp (p_neq rfl rfl) (Lm rfl (TL_splitD 43 rfl (fun hg34 => ?_) (fun hg34 => ?_))))))
          ·
            refine Ls (Ls (Ls (Ls (Ls (Ls (Lp (p_pickT rfl rfl) (nS (T_condT rfl (SR ?_)))))))))
            refine Lm rfl (Lm rfl (Lp (p_shl rfl rfl (by omega) rfl rfl) (Lp (p_or rfl rfl rfl) (La rfl (nR (Lm rfl (Lm rfl (Lk (e_buildSlice rfl rfl rfl Tryz.runUnderlying25 Tryz.sizeOf5 Tryz.zeroValue5 rfl (by simp [Value.cells])) ?_))))))))
            rintro _ _ _ - ⟨q2, rfl, rfl⟩
            refine Lk (e_append (by_ := 1) rfl rfl rfl rfl Tryz.runUnderlying25 Tryz.runUnderlying25 (.inr ⟨_, rfl⟩) Tryz.sizeOf5 Tryz.zeroValue5 rfl Tryz.typeInfo5 rfl (by decide) (by decide) (src_ownS rfl (.head _)) (by simp [bvs_length, flatC, Value.cells]; omega) (K2 .nil) (by simp [flatC, Value.cells, Value.oneCell'])) ?_
            rintro v36 _ _ - ⟨n_v36, hs_v36, hn_v36, rfl⟩
            refine La rfl (TL_nil (E_block (E_seq (T_region (Lp (p_add rfl rfl (wr64 (by omega) (by omega))) (Lm rfl (TL_nil (EL (.refl _) ((i + 1, z, _, _, _)) ?hm ?hI ((K2 (K0 (K1 .nil))))))))))))
            case hm => exact (by omega)
            case hI => exact (fun g' hl => ⟨by omega, by (obtain ⟨c1, hc1⟩ := u8_of (s.frm.fdiv (2 ^ (min (8 * (i : Int)).toNat 64))); exact ⟨m ++ [c1], by rw [bvs_append]; exact congrArg (bvs m ++ ·) (flat_u8 c1 hc1), by simp; omega⟩), by exact u8_of _⟩)
          ·
            refine Lg (p_fieldAddr rfl Tryz.runUnderlying105 rfl Tryz.sizeOf3 rfl) (Lg (p_load rfl Tryz.isAgg3 (.head _) rfl) (Lg (p_move rfl) (Lg (p_shr rfl rfl (by omega) rfl rfl) (Lg (p_and rfl rfl rfl) (Lg (p_eql rfl rfl) (Lp (p_pickF rfl rfl) (nS (T_condD rfl (fun hc37 => ?_) (fun hc37 => ?_)))))))))
            ·
              refine SR (Lm rfl (Lm rfl (Lp (p_shl rfl rfl (by omega) rfl rfl) (Lp (p_or rfl rfl rfl) (La rfl (nR (Lm rfl (Lm rfl (Lk (e_buildSlice rfl rfl rfl Tryz.runUnderlying25 Tryz.sizeOf5 Tryz.zeroValue5 rfl (by simp [Value.cells])) ?_)))))))))
              rintro _ _ _ - ⟨q2, rfl, rfl⟩
              refine Lk (e_append (by_ := 1) rfl rfl rfl rfl Tryz.runUnderlying25 Tryz.runUnderlying25 (.inr ⟨_, rfl⟩) Tryz.sizeOf5 Tryz.zeroValue5 rfl Tryz.typeInfo5 rfl (by decide) (by decide) (src_ownS rfl (.head _)) (by simp [bvs_length, flatC, Value.cells]; omega) (K2 .nil) (by simp [flatC, Value.cells, Value.oneCell'])) ?_
              rintro v39 _ _ - ⟨n_v39, hs_v39, hn_v39, rfl⟩
              refine La rfl (TL_nil (E_block (E_seq (T_region (Lp (p_add rfl rfl (wr64 (by omega) (by omega))) (Lm rfl (TL_nil (EL (.refl _) ((i + 1, z, _, _, _)) ?hm ?hI ((K2 (K0 (K1 .nil))))))))))))
              case hm => exact (by omega)
              case hI => exact (fun g' hl => ⟨by omega, by (obtain ⟨c1, hc1⟩ := u8_of (s.frm.fdiv (2 ^ (min (8 * (i : Int)).toNat 64))); exact ⟨m ++ [c1], by rw [bvs_append]; exact congrArg (bvs m ++ ·) (flat_u8 c1 hc1), by simp; omega⟩), by exact u8_of _⟩)
            ·
              refine T_skip (E_block (E_seq (T_region (Lp (p_add rfl rfl (wr64 (by omega) (by omega))) (Lm rfl (TL_nil (EL (.refl _) ((i + 1, z, _, _, _)) ?hm ?hI ((K0 (K0 (K0 .nil)))))))))))
              case hm => exact (by omega)
              case hI => exact (fun g' hl => ⟨by omega, by exact ⟨m, rfl, by omega⟩, by exact ⟨_, rfl⟩⟩)
      ·
        obtain rfl : i = 7 := by omega
        refine T_exit (E_seq_exit (E_loop_exit (E_block_hit (E_seq (SR (TL_shp (.tail _ (.head _)) (fun mo hmo hml => ?_)))))))
        rw [bvs_length] at hml
        refine Lm rfl (Lk (e_buildSlice rfl rfl rfl Tryz.runUnderlying25 Tryz.sizeOf5 Tryz.zeroValue5 rfl (by simp [Value.cells])) ?_)
        rintro _ _ _ - ⟨q, rfl, rfl⟩
        refine Lm rfl ?_
        refine Lk (e_append (by_ := 1) rfl rfl rfl rfl Tryz.runUnderlying25 Tryz.runUnderlying25 (.inr ⟨_, rfl⟩) Tryz.sizeOf5 Tryz.zeroValue5 rfl Tryz.typeInfo5 rfl (by decide) (by decide) (src_own hmo (by rw [bvs_length, hml]) (.tail _ (.tail _ (.head _)))) (by simp [bvs_length, flatC, Value.cells]; omega) (K0 .nil) (bvs_one _)) ?_
        rintro v41 _ _ - ⟨n_v41, hs_v41, hn_v41, rfl⟩
        have hfin : flatC [.int .u8 ((cc.toNat : Nat) : Int)] ++ bvs m = bvs (cc :: m) := by rw [flat_u8 cc rfl, ← bvs_append]; rfl
        rw [hfin]
        refine TL_shp (.head _) (fun mq hmo hmq => ?_)
        rw [bvs_length, Nat.mul_one] at hmq
        subst hmq
        refine La rfl (nr (E_ret1 [_] rfl hlgA rfl (K0 (K2 .nil)) (fun g' hl => ?_)))
        exact ⟨_, hmo, by (simp; omega), rfl⟩
end Go.Proofs.YtolddodhmeaceaaGreatDoor
namespace Go.Proofs.YtolddodhmeaceaaGreatDoor
open Go.Hl Go.Pk
theorem GStep.text {s : SV} {n : Nat} (h : GStep s n) (hc : s.copy = false) : s.text.length ≤ 127 := by
  unfold GStep at h; rw [hc] at h; exact h.2
theorem ct_Delta (g : GW) (v u : Value) (c : List UInt8) (l : List SV) (hv : Bytes g v c) (hu : Steps g u l) (hg : GSteps l c.length) :
    Ct Tryz.prog g 15 [v, u] [] (fun r g' H' => ∃ m, Shp r m.length ∧ m.length ≤ 100000 ∧ H' = [own r 1 5 (bvs m)]) := by
  have hll := hg.2.2.1; have hcl := hg.2.2.2
  have hml := madeLen_le hg
  have ht : ∀ s ∈ l, s.copy = false → s.text.length ≤ 127 := fun s hs hc => (hg.1 s hs).text hc
  have hp : (128 : Nat) ^ 8 = 72057594037927936 := by decide
  have hs1 := size7_pow 7 c.length (by omega)
  have hs2 := size7_pow 7 (madeLen l) (by omega)
  refine CI Tryz.func15 Tryz.ntmps15 rfl fun F g0 hg0 => ?_
  replace hu := hu.mono hg0
  replace hv := hv.mono hg0
  refine SR (La rfl (nSR (Lm rfl (Lp (p_len (hv.1) rfl rfl Tryz.runUnderlying25) (Lk (e_call rfl (ct_Size7 g0 c.length (by omega)) .nil) ?_)))))
  rintro _ _ _ - ⟨_, rfl, ⟨hs7, rfl⟩⟩
  refine Lm rfl (Lm rfl (Lk (e_call rfl (ct_Made g0 v u c l hv hu hg) .nil) ?_))
  rintro _ _ _ - ⟨_, rfl, ⟨md, hmd, hmdl, rfl⟩⟩
  refine Lp (p_len hmd rfl rfl Tryz.runUnderlying25) (Lk (e_call rfl (ct_Size7 g0 md.length (by omega)) .nil) ?_)
  rintro _ _ _ - ⟨_, rfl, ⟨hs8, rfl⟩⟩
  refine Lk (e_append (by_ := 1) rfl rfl rfl rfl Tryz.runUnderlying25 Tryz.runUnderlying25 (.inr ⟨_, rfl⟩) Tryz.sizeOf5 Tryz.zeroValue5 rfl Tryz.typeInfo5 rfl (by decide) (by decide) (src_own hs8 (by rw [bvs_length]; omega) (.head _)) (by rw [bvs_length, bvs_length, hmdl]; omega) (K2 .nil) (bvs_one _)) ?_
  rintro v4 _ _ - ⟨n_v4, hs_v4, hn_v4, rfl⟩
  refine La rfl (nS (T_seq (SR (Lm rfl (Lp (p_len (hu.1.1) rfl rfl Tryz.runUnderlying37) (Lm rfl (nS (T_block ?_))))))))
  rw [← bvs_append]
  refine T_loop (ι := Nat × Value × List UInt8) (fun x _ => x.1 ≤ l.length ∧ x.2.2.length ≤ 20 + 128 * x.1) (fun x => [(5, x.2.1), (17, u), (18, .int .i64 l.length), (19, .int .i64 x.1)]) (fun x => [own x.2.1 1 5 (bvs x.2.2), F]) (fun x => l.length - x.1) ((0, _, size7 c.length ++ size7 md.length)) (fun g' hl => ⟨Nat.zero_le _, by rw [List.length_append, hmdl]; omega⟩) (by repeat (first | exact SubL.nil | refine SubL.cons rfl ?_)) (K0 (K2 .nil)) ?_
  rintro ⟨k, o, m⟩ gA hlgA ⟨hk, hm⟩
  try dsimp only
  try dsimp only at hk hm
  replace hu := hu.mono hlgA
  refine SR (Lp (p_lss rfl rfl) (nS (T_seq (T_condD rfl (fun hc6 => ?_) (fun hc6 => ?_)))))
  ·
    have hkl : k < l.length := by omega
    obtain ⟨d, hid⟩ := get_some hkl
    have hdt := ht d (List.mem_of_getElem? hid)
    refine kS (T_seq (T_block (SR (Lp (p_ix (hu.1.1) (j := k) rfl rfl Tryz.runUnderlying37 Tryz.sizeOf105 (by omega) (by omega) rfl) (Lp (p_ldRdN (vs := stC d) hu.1.2 rfl Tryz.isAgg105 Tryz.sizeOf105 rfl (by decide) (flat_all stC_len hid)) (Lk (e_alloc Tryz.zeroValue105 rfl) ?_))))))
    rintro _ _ _ - ⟨db, rfl, rfl⟩
    refine TL_k0 (e_storeW rfl rfl Tryz.sizeOf105 rfl rfl (fun u hu => stC_one d u hu) (K0 .nil) rfl) ?_
    rintro _ _ _ - ⟨rfl, rfl⟩
    refine nR (Lm rfl (Lp (p_loadW rfl Tryz.isAgg105 Tryz.sizeOf105 (.head _) rfl) (Lk (e_call rfl (ct_StepBytes gA d (hu.2 d (List.mem_of_getElem? hid)) hdt) .nil) ?_)))
    rintro _ _ _ - ⟨_, rfl, ⟨sb, hsb, hsbl, rfl⟩⟩
    refine Lk (e_append (by_ := 1) rfl rfl rfl rfl Tryz.runUnderlying25 Tryz.runUnderlying25 (.inr ⟨_, rfl⟩) Tryz.sizeOf5 Tryz.zeroValue5 rfl Tryz.typeInfo5 rfl (by decide) (by decide) (src_own hsb (by rw [bvs_length]; omega) (.head _)) (by rw [bvs_length, bvs_length]; omega) (K2 .nil) (bvs_one _)) ?_
    rintro v10 _ _ - ⟨n_v10, hs_v10, hn_v10, rfl⟩
    refine La rfl (TL_nil (E_block (E_seq (T_region (Lp (p_add rfl rfl (wr64 (by omega) (by omega))) (Lm rfl (TL_nil ?_)))))))
    rw [← bvs_append]
    refine EL (.refl _) ((k + 1, _, _)) ?hm ?hI ((K0 (K2 .nil)))
    case hm => exact (by omega)
    case hI => exact (fun g' hl => ⟨by omega, by rw [List.length_append]; omega⟩)
  ·
    obtain rfl : k = l.length := by omega
    refine T_exit (E_seq_exit (E_loop_exit (E_block_hit (E_seq (SR (TL_shp (.head _) (fun mo hmo hml => ?_)))))))
    rw [bvs_length, Nat.mul_one] at hml
    subst hml
    refine Lm rfl (La rfl (nr (E_ret1 [_] rfl hlgA rfl (K0 (K0 .nil)) (fun g' hl => ?_))))
    exact ⟨_, hmo, by omega, rfl⟩
def eh (b n : Nat) : List UInt8 := if n = 0 then [UInt8.ofNat b] else UInt8.ofNat (b + 128) :: size7 n
theorem eh_0 (b : Nat) : eh b 0 = [UInt8.ofNat b] := rfl
theorem eh_pos {b n : Nat} (h : 0 < n) : eh b n = UInt8.ofNat (b + 128) :: eh (n % 128) (n / 128) := by
  rw [eh, if_neg (by omega)]
  congr 1
  unfold eh
  split
  · rw [size7_lt (by omega)]; congr 2; omega
  · rw [size7_ge (by omega)]
theorem eh_head (k n : Nat) : eh (k * 16 + n % 16) (n / 16) = entryHead k n := by
  unfold eh entryHead
  by_cases h : n < 16
  · rw [if_pos (by omega), if_pos h]; congr 2; omega
  · rw [if_neg (by omega), if_neg h]
theorem or16i : ∀ k : Nat, k < 8 → ∀ m : Nat, m < 16 → bitsOf .or .i64 (IntKind.i64.wrap ((k : Int) * 2 ^ 4)) (m : Int) = ((k * 16 + m : Nat) : Int) := by decide
theorem or128 : ∀ b : Nat, b < 128 → bitsOf .or .u8 (b : Int) 128 = ((b + 128 : Nat) : Int) := by decide
theorem entryHead_len (k n : Nat) (h : n < 128 ^ 7) : (entryHead k n).length ≤ 8 := by
  unfold entryHead
  split
  · simp
  · have := size7_pow 6 (n / 16) (by omega)
    simp; omega
theorem ct_EntryHead (g : GW) (k n : Nat) (hk : k < 8) (hn : n < 128 ^ 7) : Ct Tryz.prog g 16 [.int .i64 k, .int .i64 n] [] (fun r g' H' => Shp r (entryHead k n).length ∧ H' = [own r 1 5 (bvs (entryHead k n))]) := by
  have hl7 := entryHead_len k n hn
  have hp : (128 : Nat) ^ 7 = 562949953421312 := by decide
  refine CI Tryz.func16 Tryz.ntmps16 rfl fun F g0 hg0 => ?_
  refine T_nil 1 5 (SR (La rfl (nSR (Lm rfl (Lp (p_shl (n := 4) rfl rfl (by decide) rfl rfl) (Lm rfl (Lp (p_rem rfl rfl (by decide) (remN n 16)) (Lp (p_or rfl rfl (or16i k hk (n % 16) (by omega))) (Lp (p_conv rfl Tryz.runUnderlying3 Tryz.runUnderlying5 (wrU8 (by omega) (by omega))) ?_)))))))))
  refine La rfl (nSR (Lm rfl (Lp (p_quo rfl rfl (by decide) (quoN n 16 (by omega))) (La rfl (nSR (La rfl (nS (T_seq (T_block ?_)))))))))
  refine T_loop (ι := Nat × Nat × Value × List UInt8) (fun x _ => x.1 < 128 ∧ x.2.1 ≤ n ∧ x.2.2.2 ++ eh x.1 x.2.1 = entryHead k n) (fun x => [(1, .int .i64 x.2.1), (5, .int .u8 x.1), (6, x.2.2.1)]) (fun x => [own x.2.2.1 1 5 (bvs x.2.2.2), F]) (fun x => x.2.1) ((k * 16 + n % 16, n / 16, _, [])) (fun g' hl => ⟨by dsimp only; omega, by dsimp only; omega, eh_head k n⟩) (by repeat (first | exact SubL.nil | refine SubL.cons rfl ?_)) (K0 (K0 .nil)) ?_
  rintro ⟨b, j, o, m⟩ gA hlgA ⟨hb, hj, hm⟩
  try dsimp only
  try dsimp only at hb hj hm
  have hml : m.length ≤ 8 := by have := congrArg List.length hm; rw [List.length_append] at this; omega
  refine T_seq (SR (Lm rfl (Lp (p_gtr rfl rfl) (nS (T_condD rfl (fun hc2 => ?_) (fun hc2 => ?_))))))
  ·
    replace hc2 : 0 < j := by omega
    refine kS (T_block (SR (Lm rfl (Lm rfl (Lp (p_or rfl rfl (or128 b hb)) (Lk (e_buildSlice rfl rfl rfl Tryz.runUnderlying25 Tryz.sizeOf5 Tryz.zeroValue5 rfl (by simp [Value.cells])) ?_))))))
    rintro _ _ _ - ⟨q, rfl, rfl⟩
    refine Lk (e_append (by_ := 1) rfl rfl rfl rfl Tryz.runUnderlying25 Tryz.runUnderlying25 (.inr ⟨_, rfl⟩) Tryz.sizeOf5 Tryz.zeroValue5 rfl Tryz.typeInfo5 rfl (by decide) (by decide) (src_ownS rfl (.head _)) (by simp [bvs_length, flatC, Value.cells]; omega) (K1 .nil) (by simp [flatC, Value.cells, Value.oneCell'])) ?_
    rintro v4 _ _ - ⟨n_v4, hs_v4, hn_v4, rfl⟩
    refine La rfl (nSR (Lm rfl (Lp (p_rem rfl rfl (by decide) (remN j 128)) (Lp (p_conv rfl Tryz.runUnderlying3 Tryz.runUnderlying5 (wrU8 (by omega) (by omega))) (La rfl (nR (Lm rfl (Lp (p_quo rfl rfl (by decide) (quoN j 128 (by omega))) (La rfl ?_)))))))))
    refine TL_nil (E_block ?_)
    rw [flat_u8 (UInt8.ofNat (b + 128)) (by rw [u8n (by omega)]), ← bvs_append]
    refine EL (.refl _) ((j % 128, j / 128, _, _)) ?hm ?hI ((K0 (K1 .nil)))
    case hm => exact (by dsimp only; omega)
    case hI => exact (fun g' hl => ⟨by dsimp only; omega, by dsimp only; omega, by rw [List.append_assoc, List.singleton_append, ← eh_pos (by omega)]; exact hm⟩)
  ·
    obtain rfl : j = 0 := by omega
    refine T_exit (E_seq_exit (E_loop_exit (E_block_hit (E_seq (SR (Lm rfl (Lm rfl (Lk (e_buildSlice rfl rfl rfl Tryz.runUnderlying25 Tryz.sizeOf5 Tryz.zeroValue5 rfl (by simp [Value.cells])) ?_))))))))
    rintro _ _ _ - ⟨q, rfl, rfl⟩
    refine Lk (e_append (by_ := 1) rfl rfl rfl rfl Tryz.runUnderlying25 Tryz.runUnderlying25 (.inr ⟨_, rfl⟩) Tryz.sizeOf5 Tryz.zeroValue5 rfl Tryz.typeInfo5 rfl (by decide) (by decide) (src_ownS rfl (.head _)) (by simp [bvs_length, flatC, Value.cells]; omega) (K1 .nil) (by simp [flatC, Value.cells, Value.oneCell'])) ?_
    rintro v6 _ _ - ⟨n_v6, hs_v6, hn_v6, rfl⟩
    have hfin : bvs m ++ flatC [.int .u8 (b : Int)] = bvs (entryHead k n) := by rw [flat_u8 (UInt8.ofNat b) (by rw [u8n (by omega)]), ← bvs_append, ← hm, eh_0]
    rw [hfin]
    refine TL_shp (.head _) (fun mo hmo hml => ?_)
    rw [bvs_length, Nat.mul_one] at hml
    subst hml
    refine La rfl (nr (E_ret1 [_] rfl hlgA rfl (K0 (K1 .nil)) (fun g' hl => ?_)))
    exact ⟨hmo, rfl⟩
theorem backOk_cons {c : UInt8} {l : List UInt8} (h : BackOk l) (hc : 128 ≤ c.toNat) : BackOk (c :: l) := by
  obtain ⟨i, d, rfl, hd, hi⟩ := h
  exact ⟨c :: i, d, rfl, hd, fun x hx => by rcases List.mem_cons.1 hx with rfl | hx; exact hc; exact hi x hx⟩
theorem backOk_one {c : UInt8} (h : c.toNat < 128) : BackOk [c] := ⟨[], c, rfl, h, by simp⟩
theorem pow128 : ∀ k : Nat, k ≤ 9 → 1 ≤ (128 : Nat) ^ (9 - k) ∧ ((128 : Nat) ^ (9 - k) = 1 → k = 9) ∧ (k < 9 → 128 ^ (9 - k) = 128 * 128 ^ (9 - (k + 1))) := by decide
theorem back9 {j l : Nat} (hj : j < 128 ^ (9 - l)) (h0 : 0 < j) (hl : l ≤ 9) : l < 9 := by
  rcases Nat.lt_or_ge l 9 with h | h
  · exact h
  · have h' : l = 9 := by omega
    rw [h'] at hj; simp at hj; omega
theorem ct_Back (g : GW) (n : Nat) (hn : n < 128 ^ 9) (hn2 : n ≤ 9223372036854775807) : Ct Tryz.prog g 17 [.int .i64 n] [] (fun r g' H' => ∃ l, BackOk l ∧ l.length ≤ 9 ∧ Shp r l.length ∧ H' = [own r 1 5 (bvs l)]) := by
  have hp8 : (128 : Nat) ^ 9 = 128 * 128 ^ 8 := by decide
  refine CI Tryz.func17 Tryz.ntmps17 rfl fun F g0 hg0 => ?_
  refine SR (La rfl (nSR (Lm rfl (Lp (p_rem rfl rfl (by decide) (remN n 128)) (Lp (p_conv rfl Tryz.runUnderlying3 Tryz.runUnderlying5 (wrU8 (by omega) (by omega))) (Lk (e_buildSlice rfl rfl rfl Tryz.runUnderlying25 Tryz.sizeOf5 Tryz.zeroValue5 rfl (by simp [Value.cells])) ?_))))))
  rintro _ _ _ - ⟨o, rfl, rfl⟩
  refine La rfl (nS (T_seq (SR (Lm rfl (Lp (p_quo rfl rfl (by decide) (quoN n 128 (by omega))) (La rfl (nS (T_block ?_))))))))
  rw [flat_u8 (UInt8.ofNat (n % 128)) (by rw [u8n (by omega)])]
  refine T_loop (ι := Nat × Value × List UInt8) (fun x _ => BackOk x.2.2 ∧ x.2.2.length ≤ 9 ∧ 1 ≤ x.2.2.length ∧ x.1 < 128 ^ (9 - x.2.2.length) ∧ x.1 ≤ n) (fun x => [(0, .int .i64 x.1), (3, x.2.1)]) (fun x => [own x.2.1 1 5 (bvs x.2.2), F]) (fun x => x.1) ((n / 128, _, [UInt8.ofNat (n % 128)])) (fun g' hl => ⟨backOk_one (by simp; omega), by simp, by simp, by show n / 128 < 128 ^ 8; omega, by omega⟩) (by repeat (first | exact SubL.nil | refine SubL.cons rfl ?_)) (K0 (K0 .nil)) ?_
  rintro ⟨j, o, m⟩ gA hlgA ⟨hb, hl1, hl2, hj, hjn⟩
  try dsimp only
  try dsimp only at hb hl1 hl2 hj hjn
  have hpw := pow128 m.length hl1
  refine T_seq (SR (Lm rfl (Lp (p_gtr rfl rfl) (nS (T_condD rfl (fun hc3 => ?_) (fun hc3 => ?_))))))
  ·
    replace hc3 : 0 < j := by omega
    have h9 := back9 hj (by omega) hl1
    have hpp := hpw.2.2 h9
    refine kS (T_seq (T_block (SR (Lm rfl (Lp (p_sub rfl rfl (wr64 (by omega) (by omega))) (La rfl (nR (TL_shp (.head _) (fun mo hmo hml => ?_)))))))))
    rw [bvs_length] at hml
    refine Lm rfl ?_
    refine Lp (p_rem rfl rfl (by decide) (show Int.tmod ((j : Int) - 1) 128 = (((j - 1) % 128 : Nat) : Int) from by rw [show ((j : Int) - 1) = ((j - 1 : Nat) : Int) from by omega]; exact remN (j - 1) 128)) ?_
    refine Lp (p_add rfl rfl (wr64 (by omega) (by omega))) (Lp (p_conv rfl Tryz.runUnderlying3 Tryz.runUnderlying5 (wrU8 (by omega) (by omega))) (Lk (e_buildSlice rfl rfl rfl Tryz.runUnderlying25 Tryz.sizeOf5 Tryz.zeroValue5 rfl (by simp [Value.cells])) ?_))
    rintro _ _ _ - ⟨q, rfl, rfl⟩
    refine Lm rfl ?_
    refine Lk (e_append (by_ := 1) rfl rfl rfl rfl Tryz.runUnderlying25 Tryz.runUnderlying25 (.inr ⟨_, rfl⟩) Tryz.sizeOf5 Tryz.zeroValue5 rfl Tryz.typeInfo5 rfl (by decide) (by decide) (src_own hmo (by rw [bvs_length, hml]) (.tail _ (.head _))) (by simp [bvs_length, flatC, Value.cells]; omega) (K0 .nil) (bvs_one _)) ?_
    rintro v5 _ _ - ⟨n_v5, hs_v5, hn_v5, rfl⟩
    refine La rfl (TL_nil (E_block (E_seq (T_region (Lm rfl ?_)))))
    refine Lp (p_quo rfl rfl (by decide) (show IntKind.i64.wrap (Int.tdiv ((j : Int) - 1) 128) = (((j - 1) / 128 : Nat) : Int) from by rw [show ((j : Int) - 1) = ((j - 1 : Nat) : Int) from by omega]; exact quoN (j - 1) 128 (by omega))) ?_
    refine La rfl (TL_nil ?_)
    rw [flat_u8 (UInt8.ofNat ((j - 1) % 128 + 128)) (by rw [u8n (by omega)]; omega), ← bvs_append]
    refine EL (.refl _) (((j - 1) / 128, _, UInt8.ofNat ((j - 1) % 128 + 128) :: m)) ?hm ?hI ((K0 (K1 .nil)))
    case hm => exact (by dsimp only; omega)
    case hI => exact (fun g' hl => ⟨backOk_cons hb (by simp; omega), by simp; omega, by simp, by simp only [List.length_cons]; omega, by dsimp only; omega⟩)
  ·
    obtain rfl : j = 0 := by omega
    refine T_exit (E_seq_exit (E_loop_exit (E_block_hit (E_seq (SR (TL_shp (.head _) (fun mo hmo hml => ?_)))))))
    rw [bvs_length, Nat.mul_one] at hml
    subst hml
    refine Lm rfl (La rfl (nr (E_ret1 [_] rfl hlgA rfl (K0 (K0 .nil)) (fun g' hl => ?_))))
    exact ⟨_, hb, hl1, hmo, rfl⟩
end Go.Proofs.YtolddodhmeaceaaGreatDoor
namespace Go.Proofs.YtolddodhmeaceaaGreatDoor
open Go.Hl Go.Pk
theorem adFold_snoc {s : Nat × Nat} {l : List UInt8} {k : Nat} {c : UInt8} (h : l[k]? = some c) : adFold s (l.take (k + 1)) = adStep (adFold s (l.take k)) c := by
  rw [take_snoc h, adFold_app]; rfl
theorem ad_or {a b : Nat} (ha : a < 65521) (hb : b < 65521) : bitsOf .or .u32 (IntKind.u32.wrap ((b : Int) * 2 ^ 16)) (a : Int) = ((b * 65536 + a : Nat) : Int) := by
  have e : IntKind.u32.wrap ((b : Int) * 2 ^ 16) = ((b * 65536 : Nat) : Int) := by rw [wrU32 (by omega) (by omega)]; omega
  rw [e, bitsOf_orN rfl (b * 65536) a (by show _ < 4294967296; omega) (by show _ < 4294967296; omega)]
  have := Nat.two_pow_add_eq_or_of_lt (i := 16) (b := a) (by omega) b
  rw [Nat.mul_comm, ← this]
theorem ct_Adler32 (g : GW) (v : Value) (l : List UInt8) (hv : Bytes g v l) (hl : l.length ≤ 1000000000000) : Ct Tryz.prog g 42 [v] [] (fun r g' H' => r = .int .u32 (adN l) ∧ H' = []) := by
  refine CI Tryz.func42 Tryz.ntmps42 rfl fun F g0 hg0 => ?_
  replace hv := hv.mono hg0
  refine SR (La rfl (nSR (La rfl (La rfl (nS (T_seq (SR (Lm rfl (Lp (p_len (hv.1) rfl rfl Tryz.runUnderlying25) ?_)))))))))
  refine Lm rfl (nS (T_block (T_loop (ι := Nat) (fun k _ => k ≤ l.length) (fun k => [(3, .int .u32 (adFold (1, 0) (l.take k)).1), (4, .int .u32 (adFold (1, 0) (l.take k)).2), (7, v), (8, .int .i64 l.length), (9, .int .i64 k)]) (fun _ => [F]) (fun k => l.length - k) (0) (fun g' hl => by simp) (by repeat (first | exact SubL.nil | refine SubL.cons rfl ?_)) (K0 .nil) ?_)))
  rintro k gA hlgA hk
  replace hv := hv.mono hlgA
  have hal := adFold_lt (s := (1, 0)) (by decide) (l.take k)
  refine SR (Lp (p_lss rfl rfl) (nS (T_seq (T_condD rfl (fun hc2 => ?_) (fun hc2 => ?_)))))
  ·
    replace hc2 : k < l.length := by omega
    obtain ⟨c, hc⟩ := get_some hc2
    have hc256 := u8lt c
    have hsn := adFold_snoc (s := (1, 0)) hc
    refine kS (T_seq (T_block (SR (Lp (p_ix (hv.1) (j := k) rfl rfl Tryz.runUnderlying25 Tryz.sizeOf5 (by omega) (by omega) rfl) (Lp (p_ldB hv rfl Tryz.isAgg5 hc) (La rfl (nSR ?_)))))))
    have hal2 := adFold_lt (s := (1, 0)) (by decide) (l.take (k + 1))
    refine Lm rfl (Lm rfl (Lp (p_conv rfl Tryz.runUnderlying5 Tryz.runUnderlying29 (wrU32 (by omega) (by omega))) (Lp (p_add rfl rfl (wrU32 (by omega) (by omega))) ?_)))
    refine Lp (p_rem rfl rfl (by decide) (show Int.tmod (((adFold (1, 0) (l.take k)).1 : Int) + (c.toNat : Int)) 65521 = ((adFold (1, 0) (l.take (k + 1))).1 : Int) from by rw [hsn]; rfl)) ?_
    refine La rfl (nR (Lm rfl (Lm rfl (Lp (p_add rfl rfl (wrU32 (by omega) (by omega))) ?_))))
    refine Lp (p_rem rfl rfl (by decide) (show Int.tmod (((adFold (1, 0) (l.take k)).2 : Int) + ((adFold (1, 0) (l.take (k + 1))).1 : Int)) 65521 = ((adFold (1, 0) (l.take (k + 1))).2 : Int) from by rw [hsn]; rfl)) ?_
    refine La rfl (TL_nil (E_block (E_seq (T_region (Lp (p_add rfl rfl (wr64 (by omega) (by omega))) (Lm rfl (TL_nil (EL (.refl _) (k + 1) ?hm ?hI ((K0 .nil))))))))))
    case hm => exact (by omega)
    case hI => exact (fun g' hl => by omega)
  ·
    obtain rfl : k = l.length := by omega
    refine T_exit (E_seq_exit (E_loop_exit (E_block_hit (E_seq (SR (Lm rfl (Lp (p_shl (n := 16) rfl rfl (by decide) rfl rfl) (Lm rfl ?_))))))))
    refine Lp (p_or rfl rfl (show _ = ((adN l : Nat) : Int) from by have := ad_or hal.1 hal.2; rw [List.take_length] at this; rw [List.take_length]; exact this)) ?_
    refine La rfl (nr (E_ret1 [] rfl hlgA rfl (K0 .nil) (fun g' hl => ?_)))
    exact ⟨rfl, rfl⟩
theorem ct_Crc32 (g : GW) (v : Value) (n : Nat) (xs : List UInt8) (hv : Bytes g v xs) (hl : xs.length ≤ 1000000000000) : Ct Tryz.prog g 21 [v] [] (fun r g' H' => ∃ s, r = .int .u32 s ∧ H' = []) := by
  refine CI Tryz.func21 Tryz.ntmps21 rfl fun F g0 hg0 => ?_
  replace hv := hv.mono hg0
  refine SR (La rfl (nSR (La rfl (nS (T_seq (SR (Lm rfl (Lp (p_len (hv.1) rfl rfl Tryz.runUnderlying25) (Lm rfl ?_)))))))))
  refine nS (T_block (T_loop (ι := Nat × Int) (fun x _ => x.1 ≤ xs.length) (fun x => [(3, .int .u32 x.2), (7, v), (8, .int .i64 xs.length), (9, .int .i64 x.1)]) (fun _ => [F]) (fun x => xs.length - x.1) ((0, _)) (fun g' hl => by simp) (by repeat (first | exact SubL.nil | refine SubL.cons rfl ?_)) (K0 .nil) ?_))
  rintro ⟨k, s⟩ gA hlgA hk
  try dsimp only
  try dsimp only at hk
  replace hv := hv.mono hlgA
  refine SR (Lp (p_lss rfl rfl) (nS (T_seq (T_condD rfl (fun hc2 => ?_) (fun hc2 => ?_)))))
  ·
    replace hc2 : k < xs.length := by omega
    obtain ⟨c, hc⟩ := get_some hc2
    have hc256 := u8lt c
    refine kS (T_seq (T_block (SR (Lp (p_ix (hv.1) (j := k) rfl rfl Tryz.runUnderlying25 Tryz.sizeOf5 (by omega) (by omega) rfl) (Lp (p_ldB hv rfl Tryz.isAgg5 hc) (La rfl (nSR (Lm rfl (Lm rfl ?_)))))))))
    refine Lp (p_conv rfl Tryz.runUnderlying5 Tryz.runUnderlying29 (wrU32 (by omega) (by omega))) (Lp (p_xor rfl rfl rfl) (La rfl (nSR (Lm rfl (nS (T_block (T_loop (ι := Nat × Int) (fun x _ => x.1 ≤ 8) (fun x => [(3, .int .u32 x.2), (7, v), (8, .int .i64 xs.length), (9, .int .i64 k), (17, .int .i64 x.1)]) (fun _ => [F]) (fun x => 8 - x.1) ((0, _)) (fun g' hl => by simp) (by repeat (first | exact SubL.nil | refine SubL.cons rfl ?_)) (K0 .nil) ?_)))))))
    rintro ⟨j, s⟩ gB hlgB hj
    try dsimp only
    try dsimp only at hj
    refine SR (Lp (p_lss rfl rfl) (nS (T_seq (T_condD rfl (fun hc4 => ?_) (fun hc4 => ?_)))))
    ·
      replace hc4 : j < 8 := by omega
      refine kS (T_seq (T_block (SR (Lm rfl (Lp (p_and rfl rfl rfl) (La rfl (nSR (Lm rfl (Lp (p_shr (n := 1) rfl rfl (by decide) rfl rfl) ?_)))))))))
      refine La rfl (nSR (Lm rfl (Lp (p_eql rfl rfl) (nS (T_condD rfl (fun hc5 => ?_) (fun hc5 => ?_))))))
      ·
        refine T_region (Lm rfl (Lp (p_xor rfl rfl rfl) (La rfl (TL_nil (E_block (E_seq (T_region (Lp (p_add rfl rfl (wr64 (by omega) (by omega))) (Lm rfl ?_)))))))))
        refine TL_nil (EL (.refl _) ((j + 1, _)) ?hm ?hI ((K0 .nil)))
        case hm => exact (by omega)
        case hI => exact (fun g' hl => by dsimp only; omega)
      ·
        refine T_skip (E_block (E_seq (T_region (Lp (p_add rfl rfl (wr64 (by omega) (by omega))) (Lm rfl (TL_nil (EL (.refl _) ((j + 1, _)) ?hm ?hI ((K0 .nil)))))))))
        case hm => exact (by omega)
        case hI => exact (fun g' hl => by dsimp only; omega)
    ·
      obtain rfl : j = 8 := by omega
      refine T_exit (E_seq_exit (E_loop_exit (E_block_hit (E_block (E_seq (T_region (Lp (p_add rfl rfl (wr64 (by omega) (by omega))) (Lm rfl (TL_nil (EL hlgB ((k + 1, _)) ?hm ?hI ((K0 .nil))))))))))))
      case hm => exact (by omega)
      case hI => exact (fun g' hl => by dsimp only; omega)
  ·
    obtain rfl : k = xs.length := by omega
    refine T_exit (E_seq_exit (E_loop_exit (E_block_hit (E_seq (SR (Lm rfl (Lp (p_notU rfl) (La rfl (nr (E_ret1 [] rfl hlgA rfl (K0 .nil) (fun g' hl => ?_)))))))))))
    exact ⟨_, rfl, rfl⟩
theorem flatC_cons (a : Value) (l : List Value) : flatC (a :: l) = flatC [a] ++ flatC l := by simp [flatC]
theorem blockHead_eq (last : Bool) (b : Int) (n : Nat) (hb : b = if last then 1 else 0) (hn : n ≤ 65535) :
    flatC [.int .u8 b, .int .u8 (IntKind.u8.wrap (n : Int)), .int .u8 (IntKind.u8.wrap ((n : Int).fdiv (2 ^ 8))), .int .u8 (IntKind.u8.wrap (bitsOf .xor .i64 (-1) (n : Int))), .int .u8 (IntKind.u8.wrap ((bitsOf .xor .i64 (-1) (n : Int)).fdiv (2 ^ 8)))] = bvs (blockHead last n) := by
  have h1 : b = ((if last then (1 : UInt8) else 0).toNat : Int) := by rw [hb]; cases last <;> rfl
  have h3 : IntKind.u8.wrap ((n : Int).fdiv (2 ^ 8)) = ((UInt8.ofNat (n / 256)).toNat : Int) := by
    rw [show (n : Int).fdiv (2 ^ 8) = ((n / 256 : Nat) : Int) from fdivN n 256]; exact wrU8n _
  have h4 : IntKind.u8.wrap (bitsOf .xor .i64 (-1) (n : Int)) = ((UInt8.ofNat (255 - n % 256)).toNat : Int) := by
    rw [notI (by omega), u8n (by omega)]
    simp only [IntKind.wrap, IntKind.bits, IntKind.signed, Bool.false_and, Bool.false_eq_true, if_false]
    omega
  have h5 : IntKind.u8.wrap ((bitsOf .xor .i64 (-1) (n : Int)).fdiv (2 ^ 8)) = ((UInt8.ofNat (255 - n / 256)).toNat : Int) := by
    rw [notI (by omega), u8n (by omega)]
    have : (-(n : Int) - 1).fdiv (2 ^ 8) = -((n / 256 : Nat) : Int) - 1 := by
      rw [Int.fdiv_eq_ediv_of_nonneg _ (by decide)]; omega
    rw [this]
    simp only [IntKind.wrap, IntKind.bits, IntKind.signed, Bool.false_and, Bool.false_eq_true, if_false]
    omega
  rw [flatC_cons, flatC_cons (.int .u8 (IntKind.u8.wrap (n : Int))), flatC_cons (.int .u8 (IntKind.u8.wrap ((n : Int).fdiv (2 ^ 8)))), flatC_cons (.int .u8 (IntKind.u8.wrap (bitsOf .xor .i64 (-1) (n : Int))))]
  rw [flat_u8 _ h1, flat_u8 _ (wrU8n n), flat_u8 _ h3, flat_u8 _ h4, flat_u8 _ h5]
  rfl
theorem put32_eq (n : Nat) : put32 (n : Int) = bvs (put32N n) := by
  have f1 : IntKind.u8.wrap ((n : Int).fdiv (2 ^ 24)) = ((UInt8.ofNat (n / 16777216)).toNat : Int) := by
    rw [show (n : Int).fdiv (2 ^ 24) = ((n / 16777216 : Nat) : Int) from fdivN n 16777216]; exact wrU8n _
  have f2 : IntKind.u8.wrap ((n : Int).fdiv (2 ^ 16)) = ((UInt8.ofNat (n / 65536)).toNat : Int) := by
    rw [show (n : Int).fdiv (2 ^ 16) = ((n / 65536 : Nat) : Int) from fdivN n 65536]; exact wrU8n _
  have f3 : IntKind.u8.wrap ((n : Int).fdiv (2 ^ 8)) = ((UInt8.ofNat (n / 256)).toNat : Int) := by
    rw [show (n : Int).fdiv (2 ^ 8) = ((n / 256 : Nat) : Int) from fdivN n 256]; exact wrU8n _
  rw [put32, f1, f2, f3, wrU8n]; rfl
theorem blocks_len : ∀ (k : Nat) (t : List UInt8), t.length ≤ k → (blocks t).length ≤ 6 * t.length + 5
  | k, t, h => by
    by_cases ht : t.length ≤ 65535
    · rw [blocks_le ht]; simp [blockHead]; omega
    · rw [blocks_gt ht]
      cases k with
      | zero => omega
      | succ k =>
        have := blocks_len k (t.drop 65535) (by rw [List.length_drop]; omega)
        rw [List.length_drop] at this
        simp only [List.length_append, List.length_take, blockHead, List.length_cons, List.length_nil]
        omega
theorem stored_len (t : List UInt8) : (Pk.stored t).length ≤ 6 * t.length + 11 := by
  have := blocks_len _ t (Nat.le_refl _)
  simp [Pk.stored, put32N]; omega
theorem ct_Stored (g : GW) (v : Value) (l : List UInt8) (hv : Bytes g v l) (hl : l.length ≤ 100000000) : Ct Tryz.prog g 20 [v] [] (fun r g' H' => Shp r (Pk.stored l).length ∧ H' = [own r 1 5 (bvs (Pk.stored l))]) := by
  have hsl := stored_len l
  refine CI Tryz.func20 Tryz.ntmps20 rfl fun F g0 hg0 => ?_
  replace hv := hv.mono hg0
  refine SR (La rfl (nSR (Lk (e_buildSlice rfl rfl rfl Tryz.runUnderlying25 Tryz.sizeOf5 Tryz.zeroValue5 rfl (by simp [Value.cells])) ?_)))
  rintro _ _ _ - ⟨o, rfl, rfl⟩
  refine La rfl (nSR (Lm rfl (La rfl (nS (T_block (T_loop (ι := Nat × Value × Value × List UInt8) (fun x g' => x.1 ≤ l.length ∧ Bytes g' x.2.1 (l.drop x.1) ∧ x.2.2.2 ++ blocks (l.drop x.1) = [120, 1] ++ blocks l) (fun x => [(0, v), (3, x.2.2.1), (4, x.2.1)]) (fun x => [own x.2.2.1 1 5 (bvs x.2.2.2), F]) (fun x => l.length - x.1) ((0, v, _, [120, 1])) (fun g' hl => ⟨by omega, by exact hv.mono hl, rfl⟩) (by repeat (first | exact SubL.nil | refine SubL.cons rfl ?_)) (K0 (K0 .nil)) ?_))))))
  rintro ⟨k, u, o, m⟩ gA hlgA ⟨hk, hu, hm⟩
  try dsimp only
  try dsimp only at hk hu hm
  replace hv := hv.mono hlgA
  have hlu : (l.drop k).length = l.length - k := List.length_drop
  have hbl := blocks_len _ l (Nat.le_refl _)
  have hml : m.length ≤ 6 * l.length + 7 := by have := congrArg List.length hm; simp only [List.length_append, List.length_cons, List.length_nil] at this; omega
  obtain ⟨n, hn⟩ : ∃ n, n = min (l.drop k).length 65535 := ⟨_, rfl⟩
  refine T_block (SR (Lm rfl (Lp (p_len hu.1 rfl rfl Tryz.runUnderlying25) ?_)))
  refine Lp (p_min rfl rfl (show _ = ((n : Nat) : Int) from by split <;> omega)) ?_
  refine La rfl (nSR (La rfl (nS (T_seq (SR (Lm rfl (Lm rfl (Lp (p_len hu.1 rfl rfl Tryz.runUnderlying25) (Lp (p_eql rfl rfl) ?_)))))))))
  refine nS (T_condD rfl (fun hc3 => ?_) (fun hc3 => ?_))
  ·
    replace hc3 : l.length - k ≤ 65535 ∧ n = l.length - k := by omega
    obtain ⟨hle, hnn⟩ := hc3
    refine T_region (La rfl (nSR (Lm rfl (Lm rfl (Lm rfl (Lp (p_conv rfl Tryz.runUnderlying3 Tryz.runUnderlying5 (rfl)) (Lm rfl (Lp (p_shr (n := 8) rfl rfl (by decide) rfl rfl) (Lp (p_conv rfl Tryz.runUnderlying3 Tryz.runUnderlying5 (rfl)) ?_)))))))))
    refine Lm rfl (Lp (p_notI rfl) (Lp (p_conv rfl Tryz.runUnderlying3 Tryz.runUnderlying5 (rfl)) (Lm rfl (Lp (p_notI rfl) (Lp (p_shr (n := 8) rfl rfl (by decide) rfl rfl) (Lp (p_conv rfl Tryz.runUnderlying3 Tryz.runUnderlying5 (rfl)) (Lk (e_buildSlice rfl rfl rfl Tryz.runUnderlying25 Tryz.sizeOf5 Tryz.zeroValue5 rfl (by simp [Value.cells])) ?_)))))))
    rintro _ _ _ - ⟨q, rfl, rfl⟩
    refine Lk (e_append (by_ := 1) rfl rfl rfl rfl Tryz.runUnderlying25 Tryz.runUnderlying25 (.inr ⟨_, rfl⟩) Tryz.sizeOf5 Tryz.zeroValue5 rfl Tryz.typeInfo5 rfl (by decide) (by decide) (src_ownS rfl (.head _)) (by simp [bvs_length, flatC, Value.cells]; omega) (K1 .nil) (by simp [flatC, Value.cells, Value.oneCell'])) ?_
    rintro v5 _ _ - ⟨n_v5, hs_v5, hn_v5, rfl⟩
    refine La rfl (nSR (Lm rfl (Lm rfl (Lm rfl (Lp (p_slH (b := n) hu.1 rfl Tryz.runUnderlying25 Tryz.sizeOf5 rfl rfl (by omega) rfl) ?_)))))
    refine Lk (e_append (by_ := 1) rfl rfl rfl rfl Tryz.runUnderlying25 Tryz.runUnderlying25 (.inr ⟨_, rfl⟩) Tryz.sizeOf5 Tryz.zeroValue5 rfl Tryz.typeInfo5 rfl (by decide) (by decide) (src_bytes (hu.slTo (b := n) (by omega))) (by simp [bvs_length, flatC, Value.cells]; omega) (K0 .nil) (bvs_one _)) ?_
    rintro v6 _ _ - ⟨n_v6, hs_v6, hn_v6, rfl⟩
    refine La rfl (nSR (Lm rfl (Lm rfl (Lp (p_slL (a := n) hu.1 rfl Tryz.runUnderlying25 Tryz.sizeOf5 rfl rfl (by omega) rfl) (La rfl (nSR (Lm rfl (Lp (p_eql rfl rfl) (nS ?_)))))))))
    refine T_condT rfl (SR (Lm rfl (Lm rfl (Lk (e_call rfl (ct_Adler32 gA v l hv (by omega)) .nil) ?_))))
    rintro _ _ _ - ⟨_, rfl, ⟨rfl, rfl⟩⟩
    refine Lk (e_call rfl (ct_Put32 gA (adN l : Nat)) .nil) ?_
    rintro _ _ _ - ⟨_, rfl, ⟨pb, rfl, rfl⟩⟩
    refine Lk (e_append (by_ := 1) rfl rfl rfl rfl Tryz.runUnderlying25 Tryz.runUnderlying25 (.inr ⟨_, rfl⟩) Tryz.sizeOf5 Tryz.zeroValue5 rfl Tryz.typeInfo5 rfl (by decide) (by decide) (src_ownS rfl (.head _)) (by simp [bvs_length, flatC, Value.cells, put32]; omega) (K1 .nil) (by simp [put32, flatC, Value.cells, Value.oneCell'])) ?_
    rintro v9 _ _ - ⟨n_v9, hs_v9, hn_v9, rfl⟩
    have hfin : bvs m ++ flatC [.int .u8 1, .int .u8 (IntKind.u8.wrap (n : Int)), .int .u8 (IntKind.u8.wrap ((n : Int).fdiv (2 ^ 8))), .int .u8 (IntKind.u8.wrap (bitsOf .xor .i64 (-1) (n : Int))), .int .u8 (IntKind.u8.wrap ((bitsOf .xor .i64 (-1) (n : Int)).fdiv (2 ^ 8)))] ++ bvs ((l.drop k).take n) ++ put32 (adN l : Nat) = bvs (Pk.stored l) := by rw [blockHead_eq true 1 n rfl (by omega), put32_eq, ← bvs_append, ← bvs_append, ← bvs_append]; congr 1; rw [Pk.stored, ← hm, blocks_le (t := l.drop k) (by omega), List.take_of_length_le (by omega), hnn, hlu]; simp
    rw [hfin]
    refine TL_shp (.head _) (fun mo hmo hml => ?_)
    rw [bvs_length, Nat.mul_one] at hml
    subst hml
    refine La rfl (nr (E_block_ret (E_loop_ret (E_block_ret (E_ret1 [_] rfl hlgA rfl (K0 (K2 .nil)) (fun g' hl => ?_))))))
    exact ⟨hmo, rfl⟩
  ·
    replace hc3 : ¬ l.length - k ≤ 65535 ∧ n = 65535 := by omega
    obtain ⟨hle, hnn⟩ := hc3
    refine kS (SR (Lm rfl (Lm rfl (Lm rfl (Lp (p_conv rfl Tryz.runUnderlying3 Tryz.runUnderlying5 (rfl)) (Lm rfl (Lp (p_shr (n := 8) rfl rfl (by decide) rfl rfl) (Lp (p_conv rfl Tryz.runUnderlying3 Tryz.runUnderlying5 (rfl)) (Lm rfl ?_)))))))))
    refine Lp (p_notI rfl) (Lp (p_conv rfl Tryz.runUnderlying3 Tryz.runUnderlying5 (rfl)) (Lm rfl (Lp (p_notI rfl) (Lp (p_shr (n := 8) rfl rfl (by decide) rfl rfl) (Lp (p_conv rfl Tryz.runUnderlying3 Tryz.runUnderlying5 (rfl)) (Lk (e_buildSlice rfl rfl rfl Tryz.runUnderlying25 Tryz.sizeOf5 Tryz.zeroValue5 rfl (by simp [Value.cells])) ?_))))))
    rintro _ _ _ - ⟨q, rfl, rfl⟩
    refine Lk (e_append (by_ := 1) rfl rfl rfl rfl Tryz.runUnderlying25 Tryz.runUnderlying25 (.inr ⟨_, rfl⟩) Tryz.sizeOf5 Tryz.zeroValue5 rfl Tryz.typeInfo5 rfl (by decide) (by decide) (src_ownS rfl (.head _)) (by simp [bvs_length, flatC, Value.cells]; omega) (K1 .nil) (by simp [flatC, Value.cells, Value.oneCell'])) ?_
    rintro v11 _ _ - ⟨n_v11, hs_v11, hn_v11, rfl⟩
    refine La rfl (nSR (Lm rfl (Lm rfl (Lm rfl (Lp (p_slH (b := n) hu.1 rfl Tryz.runUnderlying25 Tryz.sizeOf5 rfl rfl (by omega) rfl) ?_)))))
    refine Lk (e_append (by_ := 1) rfl rfl rfl rfl Tryz.runUnderlying25 Tryz.runUnderlying25 (.inr ⟨_, rfl⟩) Tryz.sizeOf5 Tryz.zeroValue5 rfl Tryz.typeInfo5 rfl (by decide) (by decide) (src_bytes (hu.slTo (b := n) (by omega))) (by simp [bvs_length, flatC, Value.cells]; omega) (K0 .nil) (bvs_one _)) ?_
    rintro v12 _ _ - ⟨n_v12, hs_v12, hn_v12, rfl⟩
    refine La rfl (nSR (Lm rfl (Lm rfl (Lp (p_slL (a := n) hu.1 rfl Tryz.runUnderlying25 Tryz.sizeOf5 rfl rfl (by omega) rfl) (La rfl (nSR (Lm rfl (Lp (p_eql rfl rfl) (nS ?_)))))))))
    refine T_condF rfl (T_skip (E_block ?_))
    rw [blockHead_eq false 0 n rfl (by omega), ← bvs_append, ← bvs_append]
    refine EL (.refl _) ((k + n, _, _, _)) ?hm ?hI ((K0 (K1 .nil)))
    case hm => exact (by dsimp only; omega)
    case hI => exact (fun g' hl => ⟨by dsimp only; omega, by dsimp only; rw [← List.drop_drop]; exact (hu.slFrom (n := (l.drop k).length) rfl (by omega)).mono hl, by dsimp only; rw [← hm, blocks_gt (t := l.drop k) (by omega), List.drop_drop, hnn]; simp⟩)
end Go.Proofs.YtolddodhmeaceaaGreatDoor
