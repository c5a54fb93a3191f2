/- Part 5 of the walk of laws.FnPackCut. -/
import Derived.Test.YtolddodhmeaceaaGreatDoorW04
set_option linter.unusedVariables false
set_option linter.unusedSimpArgs false
set_option maxRecDepth 100000
namespace Go.Proofs.YtolddodhmeaceaaGreatDoor
open Go.Hl Go.Pk
/-- No error and Q, or an error. -/
def Er (g : GW) (er : Value) (Q : Prop) : Prop := (er = .nilIface ∧ Q) ∨ IsE g er
theorem IsE.ifn {g : GW} {er : Value} (h : IsE g er) : IfN er := let ⟨p, h1, _⟩ := h; .inr ⟨_, _, h1⟩
theorem Er.ifn {g : GW} {er : Value} {Q : Prop} (h : Er g er Q) : IfN er := by
  rcases h with ⟨h, _⟩ | h
  · exact .inl h
  · exact h.ifn
theorem Er.ok {g : GW} {er : Value} {Q : Prop} (h : Er g er Q) (he : er = .nilIface) : Q := by
  rcases h with ⟨_, h⟩ | h
  · exact h
  · exact absurd he h.ne
theorem Er.bad {g : GW} {er : Value} {Q : Prop} (h : Er g er Q) (he : er ≠ .nilIface) : IsE g er := by
  rcases h with ⟨h, _⟩ | h
  · exact absurd h he
  · exact h
theorem Er.mono {g g' : GW} {er : Value} {Q Q' : Prop} (h : Er g er Q) (hl : Le g g') (hq : Q → Q') : Er g' er Q' := by
  rcases h with ⟨h, q⟩ | h
  · exact .inl ⟨h, hq q⟩
  · exact .inr (h.mono hl)
theorem Er.errN {g : GW} {er : Value} {Q : Prop} (h : Er g er Q) : ErrN ES g er := by
  rcases h with ⟨h, _⟩ | ⟨p, h1, h2⟩
  · exact .inl h
  · exact .inr ⟨p, h1, h2⟩
theorem and15d : ∀ c : Nat, c < 256 → bitsOf .and .u8 (c : Int) 15 = ((c % 16 : Nat) : Int) := by decide
theorem size7_pre {C X : List UInt8} {N p m : Nat} (h : Pre C N p (size7 m ++ X)) (hl : p < C.length) : ∃ c, C[p]? = some c ∧ c.toNat % 128 = m % 128 ∧
    ((c.toNat < 128 ∧ m < 128 ∧ Pre C N (p + 1) X) ∨ (128 ≤ c.toNat ∧ 128 ≤ m ∧ Pre C N (p + 1) (size7 (m / 128) ++ X))) := by
  by_cases hm : m < 128
  · rw [size7_lt hm] at h
    obtain ⟨h1, h2⟩ := pre_cons h hl
    refine ⟨_, h1, ?_, .inl ⟨?_, hm, h2⟩⟩ <;> simp <;> omega
  · rw [size7_ge hm] at h
    obtain ⟨h1, h2⟩ := pre_cons h hl
    refine ⟨_, h1, ?_, .inr ⟨?_, by omega, h2⟩⟩ <;> simp <;> omega
theorem len_step {l0 m sh n : Nat} (h : l0 + m * 2 ^ sh = n) (hm : 1 ≤ m) (hn : n ≤ 2000000) : sh ≤ 20 ∧ m * 2 ^ sh ≤ 2000000 ∧ m % 128 * 2 ^ sh ≤ 2000000 ∧ (l0 + m % 128 * 2 ^ sh) + m / 128 * 2 ^ (sh + 7) = n := by
  have h1 : sh ≤ 20 := by
    rcases Nat.lt_or_ge 20 sh with h2 | h2
    · exfalso
      have h3 : 2 ^ 21 ≤ 2 ^ sh := Nat.pow_le_pow_right (by decide) h2
      have h4 : 1 * 2 ^ sh ≤ m * 2 ^ sh := Nat.mul_le_mul_right _ hm
      omega
    · exact h2
  have h5 : m * 2 ^ sh = m % 128 * 2 ^ sh + m / 128 * 2 ^ (sh + 7) := by
    rw [show 2 ^ (sh + 7) = 128 * 2 ^ sh from by rw [Nat.pow_add]; omega, ← Nat.mul_assoc, ← Nat.add_mul]
    congr 1; omega
  refine ⟨h1, by omega, by omega, by omega⟩
theorem shl64 {a sh : Nat} (h : a * 2 ^ sh ≤ 4000000000) : IntKind.i64.wrap ((a : Int) * 2 ^ sh) = ((a * 2 ^ sh : Nat) : Int) := by
  rw [show ((a : Int) * 2 ^ sh) = ((a * 2 ^ sh : Nat) : Int) from by push_cast; rfl]
  exact wr64 (by omega) (by omega)
noncomputable def Env.p {g : GW} {eE uE : Nat × Nat} (h : Env g eE uE) (n : Nat) (hn : n ∈ [1, 2, 3, 4, 9, 11, 29]) : Nat × Nat := (h.oth n hn).choose
theorem Env.var {g : GW} {eE uE : Nat × Nat} (h : Env g eE uE) (n : Nat) (hn : n ∈ [1, 2, 3, 4, 9, 11, 29]) : Cell g n 0 (EVal ES (h.p n hn)) ∧ EP g (h.p n hn).1 := (h.oth n hn).choose_spec
theorem back_first {C mid X : List UInt8} {N p : Nat} {u : UInt8} (hm : BackOk mid) (hP : Pre C N p (mid ++ X)) (hl : p + 1 ≤ C.length) (hu : C[p]? = some u) :
    ((u.toNat < 128 ∧ mid.tail = []) ∨ (128 ≤ u.toNat ∧ BackOk mid.tail)) ∧ Pre C N (p + 1) (mid.tail ++ X) := by
  cases mid with
  | nil => exact absurd rfl hm.ne
  | cons c l =>
    obtain ⟨h1, h2⟩ := pre_cons hP hl
    rw [hu] at h1; injection h1 with e; subst e
    exact ⟨hm.cons, h2⟩
theorem ct_readLength (g : GW) (x : Fx) (hx : FxOk g x) (s0 : St) (pos : Nat) (hs : StOk x s0 pos) (sn : Nat) (crc hv pend : Value) (ver obj : Int) (sk : Bool) (c0 : UInt8) (n N : Nat) (X : List UInt8) (hn : n ≤ 2000000)
    (hc : (c0.toNat < 128 ∧ c0.toNat % 16 = n ∧ Pre x.C N pos X) ∨ (128 ≤ c0.toNat ∧ 16 ≤ n ∧ c0.toNat % 16 = n % 16 ∧ Pre x.C N pos (size7 (n / 16) ++ X))) :
    Ct Tryz.prog g 130 [.pointer (some ⟨sn, 0, none⟩), Hl.bv c0] (blk sn (.cells (scnC x.sr crc hv pend ver obj sk) 131) :: stA x s0 pos)
      (fun v g' H' => ∃ (s' : St) (p' : Nat) (l : Int) (er : Value), v = .tuple #[.int .i64 l, er] ∧ Er g' er (l = n ∧ Pre x.C N p' X) ∧ StOk x s' p' ∧ H' = blk sn (.cells (scnC x.sr crc hv pend ver obj sk) 131) :: stA x s' p') := by
  have hc256 := u8lt c0
  refine CI Tryz.func130 Tryz.ntmps130 rfl fun F g0 hg0 => ?_
  replace hx := hx.mono hg0
  refine SR (La rfl (La rfl (nSR (Lm rfl (Lp (p_and rfl rfl (and15d c0.toNat hc256)) (Lp (p_conv rfl Tryz.runUnderlying5 Tryz.runUnderlying2 (wr64 (by omega) (by omega))) (La rfl (nSR (Lm rfl ?_)))))))))
  refine La rfl (nSR (La rfl (nSR (La rfl (nS (T_seq (T_block ?_)))))))
  refine T_loop (ι := Nat × UInt8 × Nat × Nat × St × Nat) (fun y _ => StOk x y.2.2.2.2.1 y.2.2.2.2.2 ∧ ((y.2.1.toNat < 128 ∧ y.1 = n ∧ Pre x.C N y.2.2.2.2.2 X) ∨ (128 ≤ y.2.1.toNat ∧ 1 ≤ y.2.2.2.1 ∧ y.1 + y.2.2.2.1 * 2 ^ y.2.2.1 = n ∧ Pre x.C N y.2.2.2.2.2 (size7 y.2.2.2.1 ++ X)))) (fun y => [(0, .pointer (some ⟨sn, 0, none⟩)), (6, .int .i64 y.1), (7, .int .u8 y.2.1.toNat), (8, .int .u8 y.2.2.1)]) (fun y => [blk sn (.cells (scnC x.sr crc hv pend ver obj sk) 131), blk x.sr (.cells (srC (brV x.br) x.wv x.rb x.wb y.2.2.2.2.2) 170), blk x.br (.cells (brC x.cv y.2.2.2.2.1.rb.i y.2.2.2.2.1.rb.pr) 133), blk x.rb (.cells (rbC x.bv (brV x.br) y.2.2.2.2.1.rb.r y.2.2.2.2.1.rb.w .nilIface y.2.2.2.2.1.rb.lb y.2.2.2.2.1.rb.lr) 263), own x.bv 1 5 (bvs y.2.2.2.2.1.rb.bl), blk x.wb (.cells (bwC .nilIface x.bv2 y.2.2.2.2.1.bw.n x.wv) 258), own x.bv2 1 5 (bvs y.2.2.2.2.1.bw.bl), y.2.2.2.2.1.bw.S, F]) (fun y => x.C.length - y.2.2.2.2.2) ((c0.toNat % 16, c0, 4, n / 16, s0, pos)) (fun g' hl => ⟨hs, hc.elim (fun h => .inl ⟨h.1, h.2.1, h.2.2⟩) (fun h => .inr ⟨h.1, by dsimp only; omega, by dsimp only; omega, h.2.2.2⟩)⟩) (by repeat (first | exact SubL.nil | refine SubL.cons rfl ?_)) (K0 (K0 (K0 (K0 (K0 (K0 (K0 (K0 (K0 .nil))))))))) ?_
  rintro ⟨l, c, sh, m, s1, p1⟩ gA hlgA ⟨hs, hI⟩
  try dsimp only
  try dsimp only at hs hI
  replace hx := hx.mono hlgA
  have hc256 := u8lt c
  have hpl := hs.le
  refine T_seq (SR (Lm rfl (Lp (p_and rfl rfl (and128d c.toNat hc256)) (Lp (p_gtr rfl rfl) (nS (T_condD rfl (fun hc2 => ?_) (fun hc2 => ?_)))))))
  ·
    obtain ⟨hI1, hI2, hI3, hI4⟩ := hI.resolve_left (by omega)
    obtain ⟨hL1, hL2, hL3, hL4⟩ := len_step hI3 hI2 hn
    refine kS (T_block (T_seq (SR (Lm rfl (Lp (p_gtr rfl rfl) (nS (T_condD rfl (fun hc3 => ?_) (fun hc3 => ?_))))))))
    ·
      omega
    ·
      skip
      refine kS (T_seq (SR (Lm rfl (Ln rfl (Lf rfl Tryz.runUnderlying131 rfl Tryz.sizeOf123 rfl (Lp (p_load rfl Tryz.isAgg123 (.head _) rfl) (Lk (e_call rfl (ct_srReadByte gA x hx s1 p1 hs) (K1 (K1 (K1 (K1 (K1 (K1 (K1 .nil)))))))) ?_)))))))
      rintro _ _ _ - ⟨_, rfl, ⟨s2, p2, u, er, rfl, h1, h2, h4, rfl⟩⟩
      refine Lm rfl (Lx rfl rfl (Lx rfl rfl (La rfl (La rfl (nSR ?_)))))
      obtain ⟨hec1, hec2, hin⟩ := er_eof hpl (fun h => (h2 h).1) (fun h => (h1 h).1)
      have hu256 := u8lt u
      refine Lm rfl (Lp (p_neqE0 hin rfl Tryz.underlying64) (nS (T_condNB rfl (fun hc5 => ?_) (fun hc5 => ?_))))
      ·
        have hee := hec2 (isB_f hc5)
        refine SR (Lm rfl (La rfl (La rfl (nr (E_seq_ret (E_block_ret (E_loop_ret (E_block_ret (E_seq_ret (E_ret2 [_, _, _, _, _, _, _, _] rfl hlgA rfl rfl (K7 (K0 (K0 (K0 (K0 (K0 (K0 (K0 (K0 .nil))))))))) (fun g' hl => ?_)))))))))))
        exact ⟨s2, p2, 0, er, rfl, .inr (by rw [(h2 hee).1]; exact hx.eofE.mono hl), h4, rfl⟩
      ·
        have hee := hec1 (isB_t hc5)
        obtain ⟨-, h12, rfl⟩ := h1 hee
        obtain ⟨u', hu1, hu2, hu3⟩ := size7_pre hI4 hee
        obtain rfl : u' = u := by { rw [h12] at hu1; injection hu1 with e; exact e.symm }
        refine kS (SR (Lm rfl (Lm rfl (Lp (p_and rfl rfl (and127d u'.toNat hu256)) (Lp (p_conv rfl Tryz.runUnderlying5 Tryz.runUnderlying2 (wr64 (by omega) (by omega))) (Lm rfl ?_))))))
        refine Lp (p_shl rfl rfl (by omega) (show min ((sh : Int)).toNat 64 = sh from by omega) (shl64 (by rw [hu2]; omega))) ?_
        refine Lp (p_add rfl rfl ((show IntKind.i64.wrap ((l : Int) + ((u'.toNat % 128 * 2 ^ sh : Nat) : Int)) = ((l + m % 128 * 2 ^ sh : Nat) : Int) from by rw [hu2, wr64 (by omega) (by omega)]; omega))) ?_
        refine La rfl (nR (Lm rfl ?_))
        refine Lp (p_add rfl rfl ((show IntKind.u8.wrap ((sh : Int) + 7) = ((sh + 7 : Nat) : Int) from by rw [wrU8 (by omega) (by omega)]; omega))) ?_
        refine La rfl (TL_nil (E_block (EL (.refl _) ((l + m % 128 * 2 ^ sh, u', sh + 7, m / 128, s2, p1 + 1)) ?hm ?hI ((K7 (K0 (K0 (K0 (K0 (K0 (K0 (K0 (K0 .nil)))))))))))))
        case hm => exact (by dsimp only; omega)
        case hI => exact (fun g' hl => ⟨h4, by dsimp only; rcases hu3 with ⟨h5, h6, h7⟩ | ⟨h5, h6, h7⟩; exact .inl ⟨h5, by rw [show m / 128 = 0 from by omega] at hL4; omega, h7⟩; exact .inr ⟨h5, by omega, hL4, h7⟩⟩)
  ·
    obtain ⟨hI1, rfl, hI3⟩ := hI.resolve_right (by omega)
    refine T_exit (E_seq_exit (E_loop_exit (E_block_hit (E_seq (SR (Lm rfl (La rfl (La rfl (nr (E_ret2 [_, _, _, _, _, _, _, _] rfl hlgA rfl rfl (K0 (K0 (K0 (K0 (K0 (K0 (K0 (K0 (K0 .nil))))))))) (fun g' hl => ?_)))))))))))
    exact ⟨s1, p1, _, _, rfl, .inl ⟨rfl, rfl, hI3⟩, hs, rfl⟩
theorem ct_readOTL (g : GW) (x : Fx) (hx : FxOk g x) (s0 : St) (pos : Nat) (hs : StOk x s0 pos) (sn : Nat) (crc hv pend : Value) (ver obj : Int) (sk : Bool) (k n N : Nat) (X : List UInt8) (hk : k < 8) (hn : n ≤ 2000000)
    (hP : Pre x.C N pos (entryHead k n ++ X)) :
    Ct Tryz.prog g 80 [.pointer (some ⟨sn, 0, none⟩)] (blk sn (.cells (scnC x.sr crc hv pend ver obj sk) 131) :: stA x s0 pos)
      (fun v g' H' => ∃ (s' : St) (p' : Nat) (t l : Int) (er : Value), v = .tuple #[.int .i8 t, .int .i64 l, er] ∧ Er g' er (t = k ∧ l = n ∧ Pre x.C N p' X) ∧ StOk x s' p' ∧ H' = blk sn (.cells (scnC x.sr crc hv pend ver obj sk) 131) :: stA x s' p') := by
  have hpl := hs.le
  refine CI Tryz.func80 Tryz.ntmps80 rfl fun F g0 hg0 => ?_
  replace hx := hx.mono hg0
  refine SR (La rfl (La rfl (La rfl (nSR (Lm rfl (Lk (e_call rfl (ct_readType g0 x hx s0 pos hs sn crc hv pend ver obj sk) (K0 (K0 (K0 (K0 (K0 (K0 (K0 (K0 .nil))))))))) ?_))))))
  rintro _ _ _ - ⟨_, rfl, ⟨s2, p2, u, er, rfl, h1, h2, h4, rfl⟩⟩
  refine Lm rfl (Lx rfl rfl (Lx rfl rfl (Lx rfl rfl (La rfl (La rfl (La rfl (nS (T_seq (SR ?_)))))))))
  obtain ⟨hec1, hec2, hin⟩ := er_eof hpl h2 (fun h => (h1 h).1)
  have hu256 := u8lt u
  refine Lm rfl (Lp (p_neqE0 hin rfl Tryz.underlying64) (nS (T_condNB rfl (fun hc2 => ?_) (fun hc2 => ?_))))
  ·
    have hee := hec2 (isB_f hc2)
    refine SR (Lm rfl (Lm rfl (La rfl (La rfl (La rfl (nr (E_seq_ret (E_ret3 [_, _, _, _, _, _, _, _] rfl (.refl _) rfl rfl rfl (K0 (K0 (K0 (K0 (K0 (K0 (K0 (K0 (K0 .nil))))))))) (fun g' hl => ?_)))))))))
    exact ⟨s2, p2, _, 0, er, rfl, .inr (by rw [h2 hee]; exact hx.eofE.mono hl), h4, rfl⟩
  ·
    have hee := hec1 (isB_t hc2)
    obtain ⟨hen, h12, rfl⟩ := h1 hee
    have hH : u.toNat / 16 % 8 = k ∧ ((u.toNat < 128 ∧ u.toNat % 16 = n ∧ Pre x.C N (pos + 1) X) ∨ (128 ≤ u.toNat ∧ 16 ≤ n ∧ u.toNat % 16 = n % 16 ∧ Pre x.C N (pos + 1) (size7 (n / 16) ++ X))) := by { unfold entryHead at hP; by_cases hn16 : n < 16; (rw [if_pos hn16] at hP; obtain ⟨e1, e2⟩ := pre_cons hP hee; rw [h12] at e1; injection e1 with e1; subst e1; rw [UInt8.toNat_ofNat']; exact ⟨by omega, .inl ⟨by omega, by omega, e2⟩⟩); (rw [if_neg hn16] at hP; obtain ⟨e1, e2⟩ := pre_cons hP hee; rw [h12] at e1; injection e1 with e1; subst e1; rw [UInt8.toNat_ofNat']; exact ⟨by omega, .inr ⟨by omega, by omega, by omega, e2⟩⟩) }
    refine kS (SR (Lm rfl (Lm rfl (LE (e_call rfl (ct_readLength g0 x hx s2 (pos + 1) h4 sn crc hv pend ver obj sk u n N X hn hH.2) (K0 (K0 (K0 (K0 (K0 (K0 (K0 (K0 .nil))))))))) ?_))))
    rintro _ gB _ hlgB ⟨_, rfl, ⟨s3, p3, l, er3, rfl, h5, h6, rfl⟩⟩
    refine Lm rfl (Lx rfl rfl (Lx rfl rfl (La rfl (La rfl (nSR (Lm rfl (Lm rfl (Lm rfl (La rfl ?_)))))))))
    refine La rfl (La rfl (nr (E_ret3 [_, _, _, _, _, _, _, _] rfl hlgB rfl rfl rfl (K0 (K0 (K0 (K0 (K0 (K0 (K0 (K0 (K0 .nil))))))))) (fun g' hl => ?_))))
    exact ⟨s3, p3, _, l, er3, rfl, h5.mono hl fun h => ⟨by rw [hH.1], h.1, h.2⟩, h6, rfl⟩
theorem ct_readVWI (g : GW) (x : Fx) (hx : FxOk g x) (s0 : St) (pos : Nat) (hs : StOk x s0 pos) (N : Nat) (mid X : List UInt8) (hm : BackOk mid) (hP : Pre x.C N pos (mid ++ X)) :
    Ct Tryz.prog g 81 [srV x] (stA x s0 pos)
      (fun v g' H' => ∃ (s' : St) (p' : Nat) (l : Int) (er : Value), v = .tuple #[.int .i64 l, er] ∧ Er g' er (Pre x.C N p' X) ∧ StOk x s' p' ∧ H' = stA x s' p') := by
  refine CI Tryz.func81 Tryz.ntmps81 rfl fun F g0 hg0 => ?_
  replace hx := hx.mono hg0
  refine SR (La rfl (La rfl (nSR (Lk (e_alloc Tryz.zeroValue5 (show _ = #[Value.int .u8 (((0 : UInt8).toNat : Nat) : Int)] from rfl)) ?_))))
  rintro _ _ _ - ⟨e, rfl, rfl⟩
  refine nS (T_seq (SR (Lm rfl (Lp (p_mkIface rfl Tryz.runUnderlying269 (fun _ h => by cases h)) (Lk (e_buildSlice rfl rfl rfl Tryz.runUnderlying317 Tryz.sizeOf20 Tryz.zeroValue20 rfl (by simp [Value.cells])) ?_)))))
  rintro _ _ _ - ⟨d, rfl, rfl⟩
  refine Lk (e_call rfl (ct_binRead g0 x hx s0 pos hs e 0 _ _ (.inr ⟨_, 0, 1, Nat.le_refl _, rfl⟩) _) (K0 (K0 (K0 (K0 (K0 (K0 (K0 (K0 (K0 .nil)))))))))) ?_
  rintro _ _ _ - ⟨_, rfl, ⟨s2, p2, u, h1, h2, h4, rfl⟩⟩
  refine La rfl (nSR ?_)
  obtain ⟨hec1, hec2, hin⟩ := rf_er (x := x) (n := pos + 1) h1 h2
  have hu256 := u8lt u
  refine Lm rfl (Lp (p_neqE0 hin rfl Tryz.underlying64) (nS (T_condNB rfl (fun hc4 => ?_) (fun hc4 => ?_))))
  ·
    have hee := hec2 (isB_f hc4)
    refine SR (Lm rfl (La rfl (La rfl (nr (E_seq_ret (E_ret2 [_, _, _, _, _, _, _] rfl (.refl _) rfl rfl (K1 (K1 (K1 (K1 (K1 (K1 (K1 (K1 .nil)))))))) (fun g' hl => ?_)))))))
    exact ⟨s2, p2, 0, _, rfl, .inr ((hx.ofE hee.2).mono hl), h4, rfl⟩
  ·
    have hee := hec1 (isB_t hc4)
    obtain ⟨hlt, rfl, hu⟩ := hee
    refine kS (SR (Lp (p_load rfl Tryz.isAgg5 (.head _) rfl) (Lp (p_and rfl rfl (and127d u.toNat hu256)) (Lp (p_conv rfl Tryz.runUnderlying5 Tryz.runUnderlying2 (wr64 (by omega) (by omega))) ?_))))
    obtain ⟨z0, hz0⟩ : ∃ z : Int, z = ((u.toNat % 128 : Nat) : Int) := ⟨_, rfl⟩
    rw [← hz0]
    refine La rfl (nS (T_seq (T_block (T_loop (ι := UInt8 × Int × St × Nat × List UInt8) (fun y _ => StOk x y.2.2.1 y.2.2.2.1 ∧ ((y.1.toNat < 128 ∧ y.2.2.2.2 = []) ∨ (128 ≤ y.1.toNat ∧ BackOk y.2.2.2.2)) ∧ Pre x.C N y.2.2.2.1 (y.2.2.2.2 ++ X)) (fun y => [(0, srV x), (4, .pointer (some ⟨e, 0, none⟩)), (6, .int .i64 y.2.1)]) (fun y => [blk e (.cells #[.int .u8 y.1.toNat] 5), blk x.sr (.cells (srC (brV x.br) x.wv x.rb x.wb y.2.2.2.1) 170), blk x.br (.cells (brC x.cv y.2.2.1.rb.i y.2.2.1.rb.pr) 133), blk x.rb (.cells (rbC x.bv (brV x.br) y.2.2.1.rb.r y.2.2.1.rb.w .nilIface y.2.2.1.rb.lb y.2.2.1.rb.lr) 263), own x.bv 1 5 (bvs y.2.2.1.rb.bl), blk x.wb (.cells (bwC .nilIface x.bv2 y.2.2.1.bw.n x.wv) 258), own x.bv2 1 5 (bvs y.2.2.1.bw.bl), y.2.2.1.bw.S, F]) (fun y => x.C.length - y.2.2.2.1) ((u, z0, s2, pos + 1, mid.tail)) (fun g' hl => ⟨h4, back_first hm hP hlt hu⟩) (by repeat (first | exact SubL.nil | refine SubL.cons rfl ?_)) (K0 (K0 (K0 (K0 (K0 (K0 (K0 (K0 (K0 .nil))))))))) ?_))))
    rintro ⟨c1, z, s1, p1, md⟩ gA hlgA ⟨hs, hI, hP1⟩
    try dsimp only
    try dsimp only at hs hI hP1
    replace hx := hx.mono hlgA
    have hc256 := u8lt c1
    have hpl := hs.le
    refine T_seq (SR (Lp (p_load rfl Tryz.isAgg5 (.head _) rfl) (Lp (p_and rfl rfl (and128d c1.toNat hc256)) (Lp (p_gtr rfl rfl) (nS (T_condD rfl (fun hc6 => ?_) (fun hc6 => ?_)))))))
    ·
      obtain ⟨hI1, hI2⟩ := hI.resolve_left (by omega)
      refine kS (T_block (T_seq (SR (Lm rfl (Lp (p_geq rfl rfl) (nS (T_condD rfl (fun hc7 => ?_) (fun hc7 => ?_))))))))
      ·
        refine T_seq (T_regionD 3 Tryz.mixed rfl Part.all (Dp 0 rfl (p_loadF rfl Tryz.isAgg64 (hx.env.var 11 (by decide)).1) (Dp 1 rfl (p_assign rfl) (Dp 2 rfl (p_assign rfl) (DD (E_seq (T_ret (E_seq_ret (E_block_ret ?_)))))))))
        refine E_loop_ret (E_block_ret (E_seq_ret (E_ret2 [_, _, _, _, _, _, _] rfl hlgA rfl rfl (K1 (K1 (K1 (K1 (K1 (K1 (K1 (K1 .nil)))))))) (fun g' hl => ?_))))
        exact ⟨s1, p1, 0, _, rfl, .inr ⟨_, rfl, (hx.env.var 11 (by decide)).2.mono hl⟩, hs, rfl⟩
      ·
        refine kS (SR (Lm rfl (Lp (p_add rfl rfl (rfl)) (La rfl (nS (T_seq (SR (Lm rfl (Lp (p_mkIface rfl Tryz.runUnderlying269 (fun _ h => by cases h)) ?_)))))))))
        refine Lk (e_buildSlice rfl rfl rfl Tryz.runUnderlying317 Tryz.sizeOf20 Tryz.zeroValue20 rfl (by simp [Value.cells])) ?_
        rintro _ _ _ - ⟨d, rfl, rfl⟩
        refine Lk (e_call rfl (ct_binRead gA x hx s1 p1 hs e c1 _ _ (.inr ⟨_, 0, 1, Nat.le_refl _, rfl⟩) _) (K0 (K0 (K0 (K0 (K0 (K0 (K0 (K0 (K0 .nil)))))))))) ?_
        rintro _ _ _ - ⟨_, rfl, ⟨s3, p3, v, h1, h2, h5, rfl⟩⟩
        refine La rfl (nSR ?_)
        obtain ⟨hec1, hec2, hin⟩ := rf_er (x := x) (n := p1 + 1) h1 h2
        have hv256 := u8lt v
        refine Lm rfl (Lp (p_neqE0 hin rfl Tryz.underlying64) (nS (T_condNB rfl (fun hc10 => ?_) (fun hc10 => ?_))))
        ·
          have hee := hec2 (isB_f hc10)
          refine SR (Lm rfl (La rfl (La rfl (nr (E_seq_ret (E_block_ret (E_loop_ret (E_block_ret (E_seq_ret (E_ret2 [_, _, _, _, _, _, _] rfl hlgA rfl rfl (K1 (K1 (K1 (K1 (K1 (K1 (K1 (K1 .nil)))))))) (fun g' hl => ?_)))))))))))
          exact ⟨s3, p3, 0, _, rfl, .inr ((hx.ofE hee.2).mono hl), h5, rfl⟩
        ·
          have hee := hec1 (isB_t hc10)
          obtain ⟨hlt2, rfl, hv⟩ := hee
          refine kS (T_region (Lm rfl (Lp (p_shl rfl rfl (by decide) rfl rfl) (Lp (p_load rfl Tryz.isAgg5 (.head _) rfl) (Lp (p_and rfl rfl (and127d v.toNat hv256)) (Lp (p_conv rfl Tryz.runUnderlying5 Tryz.runUnderlying2 (wr64 (by omega) (by omega))) (Lp (p_add rfl rfl (rfl)) (La rfl (TL_nil ?_)))))))))
          refine E_block (EL (.refl _) ((v, _, s3, p1 + 1, md.tail)) ?hm ?hI ((K0 (K0 (K0 (K0 (K0 (K0 (K0 (K0 (K0 .nil)))))))))))
          case hm => exact (by dsimp only; omega)
          case hI => exact (fun g' hl => ⟨h5, back_first hI2 hP1 hlt2 hv⟩)
    ·
      obtain ⟨hI1, rfl⟩ := hI.resolve_right (by omega)
      refine T_exit (E_seq_exit (E_loop_exit (E_block_hit (E_seq (SR (Lm rfl (La rfl (La rfl (nr (E_ret2 [_, _, _, _, _, _, _] rfl hlgA rfl rfl (K1 (K1 (K1 (K1 (K1 (K1 (K1 (K1 .nil)))))))) (fun g' hl => ?_)))))))))))
      exact ⟨s1, p1, z, _, rfl, .inl ⟨rfl, hP1⟩, hs, rfl⟩
end Go.Proofs.YtolddodhmeaceaaGreatDoor
namespace Go.Proofs.YtolddodhmeaceaaGreatDoor
open Go.Hl Go.Pk
theorem rep_bvs (n : Nat) : List.replicate n (Value.int .u8 0) = bvs (List.replicate n 0) := by
  simp [bvs, bv]
def scA (x : Fx) (s : St) (pos sn : Nat) (crc hv pend : Value) (ver obj : Int) (sk : Bool) : List Atom := blk sn (.cells (scnC x.sr crc hv pend ver obj sk) 131) :: stA x s pos
theorem Er.of {g : GW} {x : Fx} (hx : FxOk g x) {n : Nat} {er : Value} {Q : Prop} (h1 : n ≤ x.C.length → er = .nilIface ∧ Q) (h2 : x.C.length < n → ErE x er) : Er g er (n ≤ x.C.length ∧ Q) := by
  rcases Nat.lt_or_ge x.C.length n with h | h
  · exact .inr (hx.ofE (h2 h))
  · exact .inl ⟨(h1 h).1, h, (h1 h).2⟩
theorem Er.sub {g : GW} {er : Value} {Q Q' : Prop} (h : Er g er Q) (hq : Q → Q') : Er g er Q' := h.mono (.refl _) hq
theorem one_bvs (ys : List UInt8) : ∀ u ∈ (bvs ys).toArray.toList, u.oneCell' = true := by
  intro u hu
  simp [bvs] at hu
  obtain ⟨c, _, rfl⟩ := hu
  rfl
theorem size_bvs (ys : List UInt8) : (bvs ys).toArray.size = ys.length := by simp [bvs_length]
theorem ct_readHash (g : GW) (x : Fx) (hx : FxOk g x) (s0 : St) (pos : Nat) (hs : StOk x s0 pos) (N : Nat) (mid X : List UInt8) (hm : mid.length = 20) (hP : Pre x.C N pos (mid ++ X)) :
    Ct Tryz.prog g 60 [srV x] (stA x s0 pos)
      (fun v g' H' => ∃ (s' : St) (p' : Nat) (ys : List UInt8) (er : Value), v = .tuple #[.agg (bvs ys).toArray, er] ∧ ys.length = 20 ∧ Er g' er (Pre x.C N p' X) ∧ StOk x s' p' ∧ H' = stA x s' p') := by
  have hal : ∀ (v : Value), v = v := fun _ => rfl
  refine CI Tryz.func60 Tryz.ntmps60 rfl fun F g0 hg0 => ?_
  replace hx := hx.mono hg0
  refine SR (Lk (e_alloc Tryz.zeroValue79 (show _ = (bvs (List.replicate 20 0)).toArray from rfl)) ?_)
  rintro _ _ _ - ⟨rb, rfl, rfl⟩
  refine La rfl (nSR (Lk (e_alloc Tryz.zeroValue79 (show _ = (bvs (List.replicate 20 0)).toArray from rfl)) ?_))
  rintro _ _ _ - ⟨e, rfl, rfl⟩
  refine nS (T_seq (SR (Lm rfl (Lp (p_slA0 rfl Tryz.runUnderlying79 Tryz.sizeOf5 (show sl (.slice (some ⟨e, 0, none⟩) 20 20) 0 20 1 = .slice (some ⟨e, 0, none⟩) 20 20 from rfl)) (Lp (p_mkIface rfl Tryz.runUnderlying25 (fun _ h => by cases h)) (Lk (e_call rfl (ct_zzReadB g0 x hx s0 pos hs _ 20 _ (List.replicate 20 0) Bf.whole (by simp) (by omega)) (K0 (K1 (K1 (K1 (K1 (K1 (K1 (K1 .nil))))))))) ?_))))))
  rintro _ _ _ - ⟨_, rfl, ⟨s2, p2, ys, hyl, h1, h2, h4, rfl⟩⟩
  refine La rfl (nSR ?_)
  obtain hEr := Er.of hx h1 h2
  refine Lm rfl (Lp (p_neqE0 hEr.ifn rfl Tryz.underlying64) (nS (T_condNB rfl (fun hc4 => ?_) (fun hc4 => ?_))))
  ·
    have hee := hEr.bad (isB_f hc4)
    refine SR (Lp (p_build (cells := (bvs (List.replicate 20 0)).toArray) rfl (by kernel_rfl)) (Lm rfl (TL_k0 (e_storeW rfl rfl Tryz.sizeOf79 rfl (size_bvs _) (one_bvs _) (K8 .nil) (size_bvs _)) ?_)))
    rintro _ _ _ - ⟨rfl, rfl⟩
    refine La rfl (nr (E_seq_ret (E_retV [_, _, _, _, _, _, _] rfl (.refl _) (.cons (.whole (cs := (bvs (List.replicate 20 0)).toArray) rfl Tryz.isAgg79 Tryz.sizeOf79 (.head _) (size_bvs _)) (.cons (.tmp rfl) .nil)) (K2 (K2 (K2 (K2 (K2 (K2 (K2 (K2 .nil)))))))) (fun g' hl => ?_))))
    exact ⟨s2, p2, List.replicate 20 0, _, rfl, by simp, .inr (hee.mono hl), h4, rfl⟩
  ·
    obtain ⟨hlen, rfl⟩ := hEr.ok (isB_t hc4)
    obtain rfl := isB_t hc4
    obtain ⟨-, hP2⟩ := hP.app (by rw [hm]; exact hlen)
    rw [hm] at hP2
    refine kS (SR (Lp (p_loadW (cs := (bvs ys).toArray) rfl Tryz.isAgg79 Tryz.sizeOf79 (.head _) (by simp [bvs_length, hyl])) (TL_k0 (e_storeW rfl rfl Tryz.sizeOf79 rfl ((size_bvs _).trans hyl) (one_bvs _) (K8 .nil) (size_bvs _)) ?_)))
    rintro _ _ _ - ⟨rfl, rfl⟩
    refine La rfl (nr (E_retV [_, _, _, _, _, _, _] rfl (.refl _) (.cons (.whole (cs := (bvs ys).toArray) rfl Tryz.isAgg79 Tryz.sizeOf79 (.head _) ((size_bvs _).trans hyl)) (.cons (.tmp rfl) .nil)) (K2 (K2 (K2 (K2 (K2 (K2 (K2 (K2 .nil)))))))) (fun g' hl => ?_)))
    exact ⟨s2, _, ys, _, rfl, hyl, .inl ⟨rfl, hP2⟩, h4, rfl⟩
theorem ct_bytesEqual (g : GW) (v u : Value) (xs ys : List UInt8) (hv : Shp v xs.length) (hu : Shp u ys.length) (e1 e2 : TypeId) :
    Ct Tryz.prog g 76 [v, u] [own v 1 e1 (bvs xs), own u 1 e2 (bvs ys)] (fun r _ H' => r = .bool (decide (xs = ys)) ∧ H' = [own v 1 e1 (bvs xs), own u 1 e2 (bvs ys)]) := by
  refine CI Tryz.func76 Tryz.ntmps76 rfl fun F g0 hg0 => ?_
  refine SR (La rfl (nSR (Lm rfl (Lp (p_bytesStrS hv (src_own hv (by rw [bvs_length, Nat.mul_one]) (.head _)) rfl Tryz.runUnderlying25 Tryz.runUnderlying9 Tryz.runUnderlying5) (Lm rfl (Lp (p_bytesStrS hu (src_own hu (by rw [bvs_length, Nat.mul_one]) (.tail _ (.head _))) rfl Tryz.runUnderlying25 Tryz.runUnderlying9 Tryz.runUnderlying5) (Lp (p_str_eql rfl rfl) (La rfl (nr (E_ret1 [_, _] rfl (.refl _) rfl (K0 (K0 (K0 .nil))) (fun g' hl => ?_)))))))))))
  exact ⟨rfl, rfl⟩
theorem ct_signature (g : GW) : Ct Tryz.prog g 77 [] [] (fun r _ H' => Shp r 4 ∧ H' = [own r 1 5 (bvs [80, 65, 67, 75])]) := by
  refine CI Tryz.func77 Tryz.ntmps77 rfl fun F g0 hg0 => ?_
  refine SR (La rfl (nSR (Lk (e_buildSlice rfl rfl rfl Tryz.runUnderlying25 Tryz.sizeOf5 Tryz.zeroValue5 rfl (by simp [Value.cells])) ?_)))
  rintro _ _ _ - ⟨b, rfl, rfl⟩
  refine La rfl (nr (E_ret1 [_] rfl (.refl _) rfl (K0 (K0 .nil)) (fun g' hl => ?_)))
  exact ⟨.inr ⟨b, 0, 4, Nat.le_refl _, rfl⟩, rfl⟩
theorem ct_readSignature (g : GW) (x : Fx) (hx : FxOk g x) (s0 : St) (pos : Nat) (hs : StOk x s0 pos) (sn : Nat) (crc hv pend : Value) (ver obj : Int) (sk : Bool) :
    Ct Tryz.prog g 48 [.pointer (some ⟨sn, 0, none⟩)] (scA x s0 pos sn crc hv pend ver obj sk)
      (fun v g' H' => ∃ (s' : St) (p' : Nat) (ys : List UInt8) (sv er : Value) (et : TypeId), v = .tuple #[sv, er] ∧ Shp sv ys.length ∧ Er g' er (pos + 4 ≤ x.C.length ∧ p' = pos + 4 ∧ ys = (x.C.drop pos).take 4) ∧ StOk x s' p' ∧ H' = own sv 1 et (bvs ys) :: scA x s' p' sn crc hv pend ver obj sk) := by
  refine CI Tryz.func48 Tryz.ntmps48 rfl fun F g0 hg0 => ?_
  replace hx := hx.mono hg0
  refine SR (La rfl (La rfl (nSR ?_)))
  refine Lk (e_make (l := 4) (c := 4) rfl rfl Tryz.runUnderlying25 Tryz.typeInfo5 rfl rfl rfl (by omega) (by show 1 * _ ≤ _; omega) (by omega)) ?_
  rintro _ _ _ - ⟨d, rfl, rfl⟩
  refine La rfl (nS (T_seq (SR (Lm rfl (Ln rfl (Lf rfl Tryz.runUnderlying131 rfl Tryz.sizeOf123 rfl (Lp (p_load rfl Tryz.isAgg123 (.tail _ (.head _)) rfl) (Lp (p_mkIface rfl Tryz.runUnderlying123 (fun _ h => by cases h)) (Lm rfl ?_)))))))))
  refine Lk (e_call rfl (ct_readFull g0 x hx s0 pos hs _ 4 _ (List.replicate 4 0) (Bf.own 5 (.inr ⟨d, 0, 4, Nat.le_refl _, rfl⟩)) (by simp) (by omega)) (K0 (K1 (K1 (K1 (K1 (K1 (K1 (K1 .nil))))))))) ?_
  rintro _ _ _ - ⟨_, rfl, ⟨s2, k, er, ys, rfl, hyl, h2, h3, h4, rfl⟩⟩
  refine Lm rfl (Lx rfl rfl (Lx rfl rfl (La rfl (La rfl (nSR ?_)))))
  obtain hEr := Er.of hx (Q := k = 4 ∧ ys = (x.C.drop pos).take 4) (fun h => ⟨(h2 h).2.1, (h2 h).1, (h2 h).2.2⟩) h3
  refine Lm rfl (Lp (p_neqE0 hEr.ifn rfl Tryz.underlying64) (nS (T_condNB rfl (fun hc3 => ?_) (fun hc3 => ?_))))
  ·
    have hee := hEr.bad (isB_f hc3)
    refine SR (Lk (e_buildSlice rfl rfl rfl Tryz.runUnderlying25 Tryz.sizeOf5 Tryz.zeroValue5 rfl (by simp [Value.cells])) ?_)
    rintro _ _ _ - ⟨d2, rfl, rfl⟩
    refine Lm rfl (La rfl (La rfl (nr (E_seq_ret (E_ret2 [_, _, _, _, _, _, _, _, _] rfl (.refl _) rfl rfl (K0 (K8 (K1 (K1 (K1 (K1 (K1 (K1 (K1 (K1 .nil)))))))))) (fun g' hl => ?_))))))
    exact ⟨s2, _, [], _, er, _, rfl, .inr ⟨_, 0, 0, Nat.le_refl _, rfl⟩, .inr (hee.mono hl), h4, rfl⟩
  ·
    obtain ⟨hlen, rfl, rfl⟩ := hEr.ok (isB_t hc3)
    obtain rfl := isB_t hc3
    refine kS (SR (Lm rfl (La rfl (La rfl (nr (E_ret2 [_, _, _, _, _, _, _, _, _] rfl (.refl _) rfl rfl (K0 (K7 (K0 (K0 (K0 (K0 (K0 (K0 (K0 (K0 .nil)))))))))) (fun g' hl => ?_)))))))
    exact ⟨s2, _, _, _, _, _, rfl, by rw [hyl]; exact .inr ⟨d, 0, 4, Nat.le_refl _, rfl⟩, .inl ⟨rfl, hlen, rfl, rfl⟩, h4, rfl⟩
theorem ct_isValidSig (g : GW) (rv v : Value) (xs : List UInt8) (hv : Shp v xs.length) (e1 : TypeId) :
    Ct Tryz.prog g 49 [rv, v] [own v 1 e1 (bvs xs)] (fun r _ H' => r = .bool (decide (xs = [80, 65, 67, 75])) ∧ H' = []) := by
  refine CI Tryz.func49 Tryz.ntmps49 rfl fun F g0 hg0 => ?_
  refine SR (La rfl (nSR (Lm rfl (Lk (e_call rfl (ct_signature g0) .nil) ?_))))
  rintro _ _ _ - ⟨_, rfl, ⟨hS, rfl⟩⟩
  refine Lk (e_call rfl (ct_bytesEqual g0 v _ xs [80, 65, 67, 75] hv hS e1 _) (K1 (K0 .nil))) ?_
  rintro _ _ _ - ⟨_, rfl, ⟨rfl, rfl⟩⟩
  refine La rfl (nr (E_ret1 [] rfl (.refl _) rfl (K2 .nil) (fun g' hl => ?_)))
  exact ⟨rfl, rfl⟩
theorem ct_readVersion (g : GW) (x : Fx) (hx : FxOk g x) (s0 : St) (pos : Nat) (hs : StOk x s0 pos) (sn : Nat) (crc hv pend : Value) (ver obj : Int) (sk : Bool) :
    Ct Tryz.prog g 50 [.pointer (some ⟨sn, 0, none⟩)] (scA x s0 pos sn crc hv pend ver obj sk)
      (fun v _ H' => ∃ (s' : St) (p' : Nat) (z : Int) (er : Value), v = .tuple #[.int .u32 z, er] ∧ (pos + 4 ≤ x.C.length → er = .nilIface ∧ p' = pos + 4 ∧ z = (beN ((x.C.drop pos).take 4) : Nat)) ∧ (x.C.length < pos + 4 → ErE x er) ∧ StOk x s' p' ∧ H' = scA x s' p' sn crc hv pend ver obj sk) := by
  refine CI Tryz.func50 Tryz.ntmps50 rfl fun F g0 hg0 => ?_
  replace hx := hx.mono hg0
  refine SR (La rfl (La rfl (nSR (Lm rfl (Ln rfl (Lf rfl Tryz.runUnderlying131 rfl Tryz.sizeOf123 rfl (Lp (p_load rfl Tryz.isAgg123 (.head _) rfl) (Lp (p_mkIface rfl Tryz.runUnderlying123 (fun _ h => by cases h)) (Lk (e_call rfl (ct_readUint32 g0 x hx s0 pos hs) (K1 (K1 (K1 (K1 (K1 (K1 (K1 .nil)))))))) ?_)))))))))
  rintro _ _ _ - ⟨_, rfl, ⟨s2, p2, z, er, rfl, h1, h2, h4, rfl⟩⟩
  refine Lx rfl rfl (Lx rfl rfl (La rfl (La rfl (nr (E_ret2 [_, _, _, _, _, _, _, _] rfl (.refl _) rfl rfl (K7 (K0 (K0 (K0 (K0 (K0 (K0 (K0 (K0 .nil))))))))) (fun g' hl => ?_))))))
  exact ⟨s2, p2, z, er, rfl, h1, h2, h4, rfl⟩
theorem ct_readCount (g : GW) (x : Fx) (hx : FxOk g x) (s0 : St) (pos : Nat) (hs : StOk x s0 pos) (sn : Nat) (crc hv pend : Value) (ver obj : Int) (sk : Bool) :
    Ct Tryz.prog g 52 [.pointer (some ⟨sn, 0, none⟩)] (scA x s0 pos sn crc hv pend ver obj sk)
      (fun v _ H' => ∃ (s' : St) (p' : Nat) (z : Int) (er : Value), v = .tuple #[.int .u32 z, er] ∧ (pos + 4 ≤ x.C.length → er = .nilIface ∧ p' = pos + 4 ∧ z = (beN ((x.C.drop pos).take 4) : Nat)) ∧ (x.C.length < pos + 4 → ErE x er) ∧ StOk x s' p' ∧ H' = scA x s' p' sn crc hv pend ver obj sk) := by
  refine CI Tryz.func52 Tryz.ntmps52 rfl fun F g0 hg0 => ?_
  replace hx := hx.mono hg0
  refine SR (La rfl (La rfl (nSR (Lm rfl (Ln rfl (Lf rfl Tryz.runUnderlying131 rfl Tryz.sizeOf123 rfl (Lp (p_load rfl Tryz.isAgg123 (.head _) rfl) (Lp (p_mkIface rfl Tryz.runUnderlying123 (fun _ h => by cases h)) (Lk (e_call rfl (ct_readUint32 g0 x hx s0 pos hs) (K1 (K1 (K1 (K1 (K1 (K1 (K1 .nil)))))))) ?_)))))))))
  rintro _ _ _ - ⟨_, rfl, ⟨s2, p2, z, er, rfl, h1, h2, h4, rfl⟩⟩
  refine Lx rfl rfl (Lx rfl rfl (La rfl (La rfl (nr (E_ret2 [_, _, _, _, _, _, _, _] rfl (.refl _) rfl rfl (K7 (K0 (K0 (K0 (K0 (K0 (K0 (K0 (K0 .nil))))))))) (fun g' hl => ?_))))))
  exact ⟨s2, p2, z, er, rfl, h1, h2, h4, rfl⟩
theorem ct_isSupported (g : GW) (rv : Value) (z : Int) :
    Ct Tryz.prog g 51 [rv, .int .u32 z] [] (fun r _ H' => r = .bool (decide (z = 2)) ∧ H' = []) := by
  refine CI Tryz.func51 Tryz.ntmps51 rfl fun F g0 hg0 => ?_
  refine SR (La rfl (nSR (Lm rfl (Lp (p_eql rfl rfl) (La rfl (nr (E_ret1 [] rfl (.refl _) rfl (K0 .nil) (fun g' hl => ?_))))))))
  exact ⟨rfl, rfl⟩
end Go.Proofs.YtolddodhmeaceaaGreatDoor
namespace Go.Proofs.YtolddodhmeaceaaGreatDoor
open Go.Hl Go.Pk
theorem beN_put {n : Nat} (h : n < 4294967296) : beN (put32N n) = n := by
  simp [beN, put32N]; omega
theorem ct_header (g : GW) (x : Fx) (hx : FxOk g x) (s0 : St) (pos : Nat) (hs : StOk x s0 pos) (sn : Nat) (crc hv pend : Value) (obj0 : Int) (sk : Bool) (N n : Nat) (X : List UInt8) (hn : n < 4294967296) (hP : Pre x.C N pos (head12 n ++ X)) :
    Ct Tryz.prog g 25 [.pointer (some ⟨sn, 0, none⟩)] (scA x s0 pos sn crc hv pend 0 obj0 sk)
      (fun v g' H' => ∃ (s' : St) (p' : Nat) (a b ver obj : Int) (er : Value), v = .tuple #[.int .u32 a, .int .u32 b, er] ∧ Er g' er (b = n ∧ obj = n ∧ ver = 2 ∧ p' = pos + 12 ∧ Pre x.C N p' X) ∧ StOk x s' p' ∧ H' = scA x s' p' sn crc hv pend ver obj sk) := by
  obtain ⟨f1, f2, hf1, hf2, hf3, hf4⟩ := es_facts
  have hP1 : Pre x.C N pos ([80, 65, 67, 75] ++ ([0, 0, 0, 2] ++ (put32N n ++ X))) := by simpa [head12] using hP
  refine CI Tryz.func25 Tryz.ntmps25 rfl fun F g0 hg0 => ?_
  replace hx := hx.mono hg0
  refine SR (La rfl (La rfl (La rfl (nS (T_seq (SR (Lm rfl (Ln rfl (Lf rfl Tryz.runUnderlying131 rfl Tryz.sizeOf29 rfl ?_)))))))))
  refine Lp (p_load rfl Tryz.isAgg29 (.head _) rfl) (Lp (p_neq rfl rfl) (nS (T_condD rfl (fun hc1 => ?_) (fun hc1 => ?_))))
  ·
    exact absurd rfl hc1
  ·
    skip
    refine kS (SR (Lm rfl (LE (e_call rfl (ct_readSignature g0 x hx s0 pos hs sn crc hv pend 0 obj0 sk) (K0 (K0 (K0 (K0 (K0 (K0 (K0 (K0 .nil))))))))) ?_)))
    rintro _ gB _ hlgB ⟨_, rfl, ⟨s2, p2, ys, sv, er, et, rfl, hsv, hEr, h4, rfl⟩⟩
    refine Lm rfl (Lx rfl rfl (Lx rfl rfl (La rfl (La rfl (nS (T_seq (SR ?_)))))))
    replace hx := hx.mono hlgB
    refine Lm rfl (Lp (p_neqE0 hEr.ifn rfl Tryz.underlying64) (nS (T_condNB rfl (fun hc3 => ?_) (fun hc3 => ?_))))
    ·
      have hee := hEr.bad (isB_f hc3)
      refine T_seq (SR (Lm rfl (Lp (p_loadF rfl Tryz.isAgg64 hx.env.eof) (Lp (p_eqlER (t := ES) hEr.errN hx.env.peof rfl rfl Tryz.underlying64 Tryz.underlying272 hf1 hf2 hf3 hf4) (nS (T_cond rfl (fun hc4 => ?_) (fun hc4 => ?_)))))))
      ·
        skip
        refine T_region (Lp (p_loadF rfl Tryz.isAgg64 (hx.env.var 1 (by decide)).1) (La rfl (nr (E_seq_ret (E_ret3 [_, _, _, _, _, _, _, _] rfl hlgB rfl rfl rfl (K1 (K1 (K1 (K1 (K1 (K1 (K1 (K1 (K1 .nil))))))))) (fun g' hl => ?_))))))
        exact ⟨s2, p2, _, _, _, _, _, rfl, .inr ⟨_, rfl, (hx.env.var 1 (by decide)).2.mono hl⟩, h4, rfl⟩
      ·
        skip
        refine kS (T_ret (E_seq_ret (E_ret3 [_, _, _, _, _, _, _, _] rfl hlgB rfl rfl rfl (K1 (K1 (K1 (K1 (K1 (K1 (K1 (K1 (K1 .nil))))))))) (fun g' hl => ?_))))
        exact ⟨s2, p2, _, _, _, _, _, rfl, .inr (hee.mono hl), h4, rfl⟩
    ·
      obtain ⟨hlen, rfl, rfl⟩ := hEr.ok (isB_t hc3)
      obtain rfl := isB_t hc3
      obtain ⟨hy, hP2⟩ := hP1.app (by simpa using hlen)
      replace hy : (x.C.drop pos).take 4 = [80, 65, 67, 75] := hy
      rw [hy] at hsv ⊢
      refine kS (T_seq (SR (Lm rfl (Lm rfl (Lk (e_call rfl (ct_isValidSig gB _ sv [80, 65, 67, 75] hsv et) (K0 .nil)) ?_)))))
      rintro _ _ _ - ⟨_, rfl, ⟨rfl, rfl⟩⟩
      refine Lp (p_not rfl) (nS (T_condN rfl (fun hc6 => ?_) (fun hc6 => ?_)))
      ·
        exact absurd hc6 (by decide)
      ·
        skip
        refine kS (SR (Lm rfl (Lk (e_call rfl (ct_readVersion gB x hx s2 (pos + 4) h4 sn crc hv pend 0 obj0 sk) (K0 (K0 (K0 (K0 (K0 (K0 (K0 (K0 .nil))))))))) ?_)))
        rintro _ _ _ - ⟨_, rfl, ⟨s3, p3, z, er3, rfl, h5, h6, h7, rfl⟩⟩
        refine Lm rfl (Lx rfl rfl (Lx rfl rfl (La rfl (La rfl (nSR (Lm rfl (Lm rfl (Ln rfl (Lf rfl Tryz.runUnderlying131 rfl Tryz.sizeOf29 rfl ?_)))))))))
        refine TL_k0 (e_store1 rfl rfl Tryz.sizeOf29 rfl (K0 .nil) rfl rfl rfl) ?_
        rintro _ _ _ - ⟨rfl, rfl⟩
        refine nS (T_seq (SR ?_))
        obtain hEr3 := Er.of hx h5 h6
        refine Lm rfl (Lp (p_neqE0 hEr3.ifn rfl Tryz.underlying64) (nS (T_condNB rfl (fun hc9 => ?_) (fun hc9 => ?_))))
        ·
          have hee := hEr3.bad (isB_f hc9)
          refine T_ret (E_seq_ret (E_ret3 [_, _, _, _, _, _, _, _] rfl hlgB rfl rfl rfl (K0 (K0 (K0 (K0 (K0 (K0 (K0 (K0 (K0 .nil))))))))) (fun g' hl => ?_)))
          exact ⟨s3, p3, _, _, _, _, _, rfl, .inr (hee.mono hl), h7, rfl⟩
        ·
          obtain ⟨hlen3, rfl, rfl⟩ := hEr3.ok (isB_t hc9)
          obtain rfl := isB_t hc9
          obtain ⟨hy3, hP3⟩ := hP2.app (by simpa using hlen3)
          replace hy3 : (x.C.drop (pos + 4)).take 4 = [0, 0, 0, 2] := hy3
          rw [hy3, show beN [0, 0, 0, 2] = 2 from rfl]
          refine kS (T_seq (SR (Lm rfl (Lm rfl (Lk (e_call rfl (ct_isSupported gB _ 2) .nil) ?_)))))
          rintro _ _ _ - ⟨_, rfl, ⟨rfl, rfl⟩⟩
          refine Lp (p_not rfl) (nS (T_condN rfl (fun hc11 => ?_) (fun hc11 => ?_)))
          ·
            exact absurd hc11 (by decide)
          ·
            skip
            refine kS (SR (Lm rfl (Lk (e_call rfl (ct_readCount gB x hx s3 (pos + 4 + 4) h7 sn crc hv pend 2 obj0 sk) (K0 (K0 (K0 (K0 (K0 (K0 (K0 (K0 .nil))))))))) ?_)))
            rintro _ _ _ - ⟨_, rfl, ⟨s4, p4, z4, er4, rfl, h8, h9, h10, rfl⟩⟩
            refine Lm rfl (Lx rfl rfl (Lx rfl rfl (La rfl (La rfl (nSR (Lm rfl (Lm rfl (Ln rfl (Lf rfl Tryz.runUnderlying131 rfl Tryz.sizeOf29 rfl ?_)))))))))
            refine TL_k0 (e_store1 rfl rfl Tryz.sizeOf29 rfl (K0 .nil) rfl rfl rfl) ?_
            rintro _ _ _ - ⟨rfl, rfl⟩
            refine nr (E_ret3 [_, _, _, _, _, _, _, _] rfl hlgB rfl rfl rfl (K0 (K0 (K0 (K0 (K0 (K0 (K0 (K0 (K0 .nil))))))))) (fun g' hl => ?_))
            exact ⟨s4, p4, _, _, _, _, _, rfl, (Er.of hx h8 h9).mono hl (fun ⟨hl4, hp4, hz4⟩ => by obtain ⟨hy4, hP4⟩ := hP3.app (show _ + (put32N n).length ≤ _ from hl4); replace hy4 : (x.C.drop (pos + 4 + 4)).take 4 = put32N n := hy4; have hz5 := hz4.trans (by rw [hy4, beN_put hn]); exact ⟨hz5, hz5, rfl, by omega, by rw [hp4]; exact hP4⟩), h10, rfl⟩
end Go.Proofs.YtolddodhmeaceaaGreatDoor
namespace Go.Proofs.YtolddodhmeaceaaGreatDoor
open Go.Hl Go.Pk
structure AdOk (A B m : Nat) : Prop where
  a : A + 255 * m ≤ 1481280
  b : 2 * B + 2 * (m * A) + 255 * (m * (m + 1)) ≤ 8589380400
theorem AdOk.le {A B m : Nat} (h : AdOk A B m) : A ≤ 1481280 ∧ B ≤ 4294690200 := ⟨by have := h.a; omega, by have := h.b; omega⟩
theorem AdOk.step {A B m c : Nat} (h : AdOk A B (m + 1)) (hc : c < 256) : AdOk (A + c) (B + (A + c)) m := by
  obtain ⟨h1, h2⟩ := h
  have h3 : m * c ≤ m * 255 := Nat.mul_le_mul_left _ (by omega)
  refine ⟨by omega, ?_⟩
  have e1 : m * (A + c) = m * A + m * c := Nat.mul_add _ _ _
  have e2 : (m + 1) * A = m * A + A := by rw [Nat.add_mul, Nat.one_mul]
  have e3 : m * (m + 1) = m * m + m := by rw [Nat.mul_add, Nat.mul_one]
  have e4 : (m + 1) * (m + 1 + 1) = m * m + 3 * m + 2 := by rw [Nat.add_mul, Nat.mul_add, Nat.mul_add]; omega
  rw [e2, e4] at h2
  rw [e1, e3]
  omega
theorem AdOk.start {a b m : Nat} (ha : a < 65521) (hb : b < 65521) (hm : m ≤ 5552) : AdOk a b m := by
  refine ⟨by omega, ?_⟩
  have h1 : m * a ≤ 5552 * a := Nat.mul_le_mul_right _ hm
  have h2 : m * (m + 1) ≤ 5552 * 5553 := Nat.mul_le_mul hm (by omega)
  omega
theorem adRaw_cons (A B : Nat) (c : UInt8) (l : List UInt8) : adRaw (A, B) (c :: l) = adRaw (A + c.toNat, B + (A + c.toNat)) l := rfl
theorem dropC {l : List UInt8} {k : Nat} {c : UInt8} (h : l[k]? = some c) : l.drop k = c :: l.drop (k + 1) := by
  have hl := (List.getElem?_eq_some_iff.1 h).1
  rw [List.drop_eq_getElem_cons hl]
  rw [List.getElem?_eq_getElem hl] at h
  injection h with e; rw [e]
theorem four {l : List UInt8} (h : 4 ≤ l.length) : ∃ c0 c1 c2 c3 r, l = c0 :: c1 :: c2 :: c3 :: r := by
  match l, h with
  | c0 :: c1 :: c2 :: c3 :: r, _ => exact ⟨c0, c1, c2, c3, r, rfl⟩
theorem ad_and {a b : Nat} (ha : a < 65521) (hb : b < 65521) : bitsOf .and .u32 ((b * 65536 + a : Nat) : Int) 65535 = (a : Int) := by
  have h1 := bitsOf_andN (k := .u32) rfl (b * 65536 + a) 65535 (by show _ < 4294967296; omega) (by decide)
  have e : (b * 65536 + a) &&& 65535 = (b * 65536 + a) % 65536 := Nat.and_two_pow_sub_one_eq_mod _ 16
  rw [e] at h1
  rw [show (b * 65536 + a) % 65536 = a from by omega] at h1
  exact h1
theorem adRem (n : Nat) : Int.tmod (n : Int) 65521 = ((n % 65521 : Nat) : Int) := rfl
theorem ct_adUpdate (g : GW) (v : Value) (p : List UInt8) (a0 b0 : Nat) (hv : Bytes g v p) (hl : p.length ≤ 1000000000000) (ha : a0 < 65521) (hb : b0 < 65521) :
    Ct Tryz.prog g 199 [.int .u32 ((b0 * 65536 + a0 : Nat) : Int), v] [] (fun r g' H' => r = .int .u32 (((adFold (a0, b0) p).2 * 65536 + (adFold (a0, b0) p).1 : Nat) : Int) ∧ H' = []) := by
  refine CI Tryz.func199 Tryz.ntmps199 rfl fun F g0 hg0 => ?_
  replace hv := hv.mono hg0
  refine SR (La rfl (nSR (Lm rfl (Lp (p_and rfl rfl (ad_and ha hb)) (Lm rfl ?_)))))
  refine Lp (p_shr rfl rfl (by decide) rfl (show ((b0 * 65536 + a0 : Nat) : Int).fdiv (2 ^ 16) = (b0 : Int) from by rw [show (2 : Int) ^ 16 = ((65536 : Nat) : Int) from rfl, fdivN]; omega)) ?_
  refine La rfl (La rfl (nS (T_seq (T_block ?_))))
  refine T_loop (ι := Nat × Nat × Value × List UInt8) (fun x g' => x.1 < 65521 ∧ x.2.1 < 65521 ∧ Bytes g' x.2.2.1 x.2.2.2 ∧ adFold (x.1, x.2.1) x.2.2.2 = adFold (a0, b0) p ∧ x.2.2.2.length ≤ 1000000000000) (fun x => [(1, x.2.2.1), (5, .int .u32 x.1), (6, .int .u32 x.2.1)]) (fun _ => [F]) (fun x => x.2.2.2.length) ((a0, b0, v, p)) (fun g' hl => ⟨ha, hb, hv.mono hl, rfl, by dsimp only; omega⟩) (by repeat (first | exact SubL.nil | refine SubL.cons rfl ?_)) (K0 .nil) ?_
  rintro ⟨a, b, u, l⟩ gA hlgA ⟨ha, hb, hu, hf, hll⟩
  try dsimp only
  try dsimp only at ha hb hu hf hll
  refine T_seq (SR (Lm rfl (Lp (p_len hu.1 rfl rfl Tryz.runUnderlying25) (Lp (p_gtr rfl rfl) (nS (T_condD rfl (fun hc2 => ?_) (fun hc2 => ?_)))))))
  ·
    skip
    refine kS (T_block (SR (La rfl (nS (T_cut (ι := Value × Value × List UInt8 × List UInt8) (fun x g' => Bytes g' x.1 x.2.2.1 ∧ Bytes g' x.2.1 x.2.2.2 ∧ l = x.2.2.1 ++ x.2.2.2 ∧ x.2.2.1.length ≤ 5552 ∧ 0 < x.2.2.1.length) (fun x => [(1, x.1), (7, x.2.1), (5, .int .u32 a), (6, .int .u32 b)]) (fun _ => [F]) ?_ ?_)))))
    ·
      refine SR (Lm rfl (Lp (p_len hu.1 rfl rfl Tryz.runUnderlying25) (Lp (p_gtr rfl rfl) (nS (T_condD rfl (fun hc3 => ?_) (fun hc3 => ?_))))))
      ·
        skip
        refine T_regionD 6 Tryz.mixed rfl Part.all (Dp 0 rfl (p_move rfl) (Dp 1 rfl (p_slH (b := 5552) hu.1 rfl Tryz.runUnderlying25 Tryz.sizeOf5 rfl rfl (by omega) rfl) (Dp 2 rfl (p_move rfl) (Dp 3 rfl (p_slL (a := 5552) hu.1 rfl Tryz.runUnderlying25 Tryz.sizeOf5 rfl rfl (by omega) rfl) (Dp 4 rfl (p_assign rfl) (Dp 5 rfl (p_assign rfl) (DD (EC (.refl _) ((_, _, l.take 5552, l.drop 5552)) ?hI (K0 .nil)))))))))
        case hI => intro g' hl; exact ⟨(hu.slTo (by omega)).mono (by assumption), (hu.slFrom rfl (by omega)).mono (by assumption), (List.take_append_drop _ _).symm, by dsimp only; rw [List.length_take]; omega, by dsimp only; rw [List.length_take]; omega⟩
      ·
        skip
        refine T_skip (EC (.refl _) ((u, .slice none 0 0, l, [])) ?hI (K0 .nil))
        case hI => intro g' hl; exact ⟨hu.mono (by assumption), Bytes.nil _ _, (List.append_nil _).symm, by dsimp only; omega, by dsimp only; omega⟩
    ·
      rintro ⟨u1, q, l1, l2⟩ gB hlgB ⟨hu1, hq, hl12, hl5, hl0⟩
      try dsimp only
      try dsimp only at hu1 hq hl12 hl5 hl0
      refine T_seq (T_block (T_loop (ι := Nat × Nat × Value × List UInt8) (fun x g' => AdOk x.1 x.2.1 x.2.2.2.length ∧ Bytes g' x.2.2.1 x.2.2.2 ∧ adRaw (x.1, x.2.1) x.2.2.2 = adRaw (a, b) l1) (fun x => [(1, x.2.2.1), (7, q), (5, .int .u32 x.1), (6, .int .u32 x.2.1)]) (fun _ => [F]) (fun x => x.2.2.2.length) ((a, b, u1, l1)) (fun g' hl => ⟨AdOk.start ha hb hl5, hu1.mono hl, rfl⟩) (by repeat (first | exact SubL.nil | refine SubL.cons rfl ?_)) (K0 .nil) ?_))
      rintro ⟨A, B, w, r⟩ gC hlgC ⟨hok, hw, hr⟩
      try dsimp only
      try dsimp only at hok hw hr
      have hrl := hok.a
      refine T_seq (SR (Lm rfl (Lp (p_len hw.1 rfl rfl Tryz.runUnderlying25) (Lp (p_geq rfl rfl) (nS (T_condD rfl (fun hc6 => ?_) (fun hc6 => ?_)))))))
      ·
        obtain ⟨c0, c1, c2, c3, r, rfl⟩ := four (l := r) (by omega)
        have h0 := u8lt c0
        have h1 := u8lt c1
        have h2 := u8lt c2
        have h3 := u8lt c3
        have o0 := hok.step (m := r.length + 3) h0
        have o1 := o0.step (m := r.length + 2) h1
        have o2 := o1.step (m := r.length + 1) h2
        have o3 := o2.step (m := r.length) h3
        have q0 := o0.le
        have q1 := o1.le
        have q2 := o2.le
        have q3 := o3.le
        simp only [List.length_cons] at hrl
        simp only [adRaw_cons] at hr
        refine kS (T_block (SR (Lm rfl (Lm rfl (Lp (p_ix (hw.1) (j := 0) rfl rfl Tryz.runUnderlying25 Tryz.sizeOf5 rfl (by omega) rfl) (Lp (p_ldB (k := 0) hw rfl Tryz.isAgg5 rfl) (Lp (p_conv rfl Tryz.runUnderlying5 Tryz.runUnderlying29 (wrU32 (by omega) (by omega))) ?_)))))))
        refine Lp (p_add rfl rfl ((show IntKind.u32.wrap ((A : Int) + (c0.toNat : Int)) = ((A + c0.toNat : Nat) : Int) from by rw [wrU32 (by omega) (by omega)]; omega))) ?_
        refine La rfl (nSR (Lm rfl (Lm rfl ?_)))
        refine Lp (p_add rfl rfl ((show IntKind.u32.wrap ((B : Int) + ((A + c0.toNat : Nat) : Int)) = ((B + (A + c0.toNat) : Nat) : Int) from by rw [wrU32 (by omega) (by omega)]; omega))) ?_
        refine La rfl (nSR (Lm rfl (Lm rfl (Lp (p_ix (hw.1) (j := 1) rfl rfl Tryz.runUnderlying25 Tryz.sizeOf5 rfl (by omega) rfl) (Lp (p_ldB (k := 1) hw rfl Tryz.isAgg5 rfl) (Lp (p_conv rfl Tryz.runUnderlying5 Tryz.runUnderlying29 (wrU32 (by omega) (by omega))) ?_))))))
        refine Lp (p_add rfl rfl ((show IntKind.u32.wrap (((A + c0.toNat : Nat) : Int) + (c1.toNat : Int)) = ((A + c0.toNat + c1.toNat : Nat) : Int) from by rw [wrU32 (by omega) (by omega)]; omega))) ?_
        refine La rfl (nSR (Lm rfl (Lm rfl ?_)))
        refine Lp (p_add rfl rfl ((show IntKind.u32.wrap (((B + (A + c0.toNat) : Nat) : Int) + ((A + c0.toNat + c1.toNat : Nat) : Int)) = ((B + (A + c0.toNat) + (A + c0.toNat + c1.toNat) : Nat) : Int) from by rw [wrU32 (by omega) (by omega)]; omega))) ?_
        refine La rfl (nSR (Lm rfl (Lm rfl (Lp (p_ix (hw.1) (j := 2) rfl rfl Tryz.runUnderlying25 Tryz.sizeOf5 rfl (by omega) rfl) (Lp (p_ldB (k := 2) hw rfl Tryz.isAgg5 rfl) (Lp (p_conv rfl Tryz.runUnderlying5 Tryz.runUnderlying29 (wrU32 (by omega) (by omega))) ?_))))))
        refine Lp (p_add rfl rfl ((show IntKind.u32.wrap (((A + c0.toNat + c1.toNat : Nat) : Int) + (c2.toNat : Int)) = ((A + c0.toNat + c1.toNat + c2.toNat : Nat) : Int) from by rw [wrU32 (by omega) (by omega)]; omega))) ?_
        refine La rfl (nSR (Lm rfl (Lm rfl ?_)))
        refine Lp (p_add rfl rfl ((show IntKind.u32.wrap (((B + (A + c0.toNat) + (A + c0.toNat + c1.toNat) : Nat) : Int) + ((A + c0.toNat + c1.toNat + c2.toNat : Nat) : Int)) = ((B + (A + c0.toNat) + (A + c0.toNat + c1.toNat) + (A + c0.toNat + c1.toNat + c2.toNat) : Nat) : Int) from by rw [wrU32 (by omega) (by omega)]; omega))) ?_
        refine La rfl (nSR (Lm rfl (Lm rfl (Lp (p_ix (hw.1) (j := 3) rfl rfl Tryz.runUnderlying25 Tryz.sizeOf5 rfl (by omega) rfl) (Lp (p_ldB (k := 3) hw rfl Tryz.isAgg5 rfl) (Lp (p_conv rfl Tryz.runUnderlying5 Tryz.runUnderlying29 (wrU32 (by omega) (by omega))) ?_))))))
        refine Lp (p_add rfl rfl ((show IntKind.u32.wrap (((A + c0.toNat + c1.toNat + c2.toNat : Nat) : Int) + (c3.toNat : Int)) = ((A + c0.toNat + c1.toNat + c2.toNat + c3.toNat : Nat) : Int) from by rw [wrU32 (by omega) (by omega)]; omega))) ?_
        refine La rfl (nSR (Lm rfl (Lm rfl ?_)))
        refine Lp (p_add rfl rfl ((show IntKind.u32.wrap (((B + (A + c0.toNat) + (A + c0.toNat + c1.toNat) + (A + c0.toNat + c1.toNat + c2.toNat) : Nat) : Int) + ((A + c0.toNat + c1.toNat + c2.toNat + c3.toNat : Nat) : Int)) = ((B + (A + c0.toNat) + (A + c0.toNat + c1.toNat) + (A + c0.toNat + c1.toNat + c2.toNat) + (A + c0.toNat + c1.toNat + c2.toNat + c3.toNat) : Nat) : Int) from by rw [wrU32 (by omega) (by omega)]; omega))) ?_
        refine La rfl (nR (Lm rfl (Lp (p_slL (a := 4) hw.1 rfl Tryz.runUnderlying25 Tryz.sizeOf5 rfl rfl (by simp) rfl) (La rfl (TL_nil (E_block (EL (.refl _) ((_, _, _, r)) ?hm ?hI ((K0 .nil)))))))))
        case hm => exact (by dsimp only; simp only [List.length_cons]; omega)
        case hI => exact (fun g' hl => ⟨o3, (hw.slFrom (a := 4) rfl (by simp)).mono (by assumption), hr⟩)
      ·
        skip
        refine T_exit (E_seq_exit (E_loop_exit (E_block_hit (E_seq (T_seq (SR (Lm rfl (Lp (p_len hw.1 rfl rfl Tryz.runUnderlying25) (Lm rfl ?_)))))))))
        refine nS (T_block (T_loop (ι := Nat × Nat × Nat) (fun x g' => x.2.2 ≤ r.length ∧ AdOk x.1 x.2.1 (r.length - x.2.2) ∧ adRaw (x.1, x.2.1) (r.drop x.2.2) = adRaw (a, b) l1) (fun x => [(7, q), (5, .int .u32 x.1), (6, .int .u32 x.2.1), (65, w), (66, .int .i64 r.length), (67, .int .i64 x.2.2)]) (fun _ => [F]) (fun x => r.length - x.2.2) ((A, B, 0)) (fun g' hl => ⟨Nat.zero_le _, hok, hr⟩) (by repeat (first | exact SubL.nil | refine SubL.cons rfl ?_)) (K0 .nil) ?_))
        rintro ⟨A, B, j⟩ gD hlgD ⟨hj, hok, hr⟩
        try dsimp only
        try dsimp only at hj hok hr
        replace hw := hw.mono hlgD
        have hq1 := hok.le
        refine SR (Lp (p_lss rfl rfl) (nS (T_seq (T_condD rfl (fun hc8 => ?_) (fun hc8 => ?_)))))
        ·
          replace hc8 : j < r.length := by omega
          obtain ⟨c, hc⟩ := get_some hc8
          have h0 := u8lt c
          have o0 := AdOk.step (m := r.length - (j + 1)) (by rw [show r.length - (j + 1) + 1 = r.length - j from by omega]; exact hok) h0
          have q0 := o0.le
          rw [dropC hc, adRaw_cons] at hr
          refine kS (T_seq (T_block (SR (Lp (p_ix (hw.1) (j := j) rfl rfl Tryz.runUnderlying25 Tryz.sizeOf5 (by omega) (by omega) rfl) (Lp (p_ldB hw rfl Tryz.isAgg5 hc) (La rfl (nSR (Lm rfl (Lm rfl ?_)))))))))
          refine Lp (p_conv rfl Tryz.runUnderlying5 Tryz.runUnderlying29 (wrU32 (by omega) (by omega))) ?_
          refine Lp (p_add rfl rfl ((show IntKind.u32.wrap ((A : Int) + (c.toNat : Int)) = ((A + c.toNat : Nat) : Int) from by rw [wrU32 (by omega) (by omega)]; omega))) ?_
          refine La rfl (nR (Lm rfl (Lm rfl ?_)))
          refine Lp (p_add rfl rfl ((show IntKind.u32.wrap ((B : Int) + ((A + c.toNat : Nat) : Int)) = ((B + (A + c.toNat) : Nat) : Int) from by rw [wrU32 (by omega) (by omega)]; omega))) ?_
          refine La rfl (TL_nil (E_block (E_seq (T_region (Lp (p_add rfl rfl (wr64 (by omega) (by omega))) (Lm rfl (TL_nil (EL (.refl _) ((_, _, j + 1)) ?hm ?hI ((K0 .nil))))))))))
          case hm => exact (by dsimp only; omega)
          case hI => exact (fun g' hl => ⟨by dsimp only; omega, o0, hr⟩)
        ·
          obtain rfl : j = r.length := by omega
          refine T_exit (E_seq_exit (E_loop_exit (E_block_hit (E_seq (SR ?_)))))
          have hmod := adRaw_mod l1 (a, b) (a, b) rfl rfl ⟨ha, hb⟩
          rw [← hr, List.drop_length] at hmod
          replace hmod : (A % 65521, B % 65521) = adFold (a, b) l1 := hmod
          refine Lm rfl (Lp (p_rem rfl rfl (by decide) (adRem A)) (La rfl (nSR (Lm rfl (Lp (p_rem rfl rfl (by decide) (adRem B)) (La rfl (nR (Lm rfl (La rfl ?_)))))))))
          refine TL_nil (E_block (EL ((hlgB.trans hlgC).trans hlgD) ((A % 65521, B % 65521, q, l2)) ?hm ?hI ((K0 .nil))))
          case hm => exact (by dsimp only; rw [hl12, List.length_append]; omega)
          case hI => exact (fun g' hl => ⟨Nat.mod_lt _ (by decide), Nat.mod_lt _ (by decide), hq.mono (.trans (by assumption) (.trans (by assumption) (by assumption))), by dsimp only; rw [hmod, ← adFold_app, ← hl12]; exact hf, by dsimp only; rw [hl12, List.length_append] at hll; omega⟩)
  ·
    obtain rfl : l = [] := List.eq_nil_of_length_eq_zero (by omega)
    refine T_exit (E_seq_exit (E_loop_exit (E_block_hit (E_seq (SR (Lm rfl (Lp (p_shl (n := 16) rfl rfl (by decide) rfl rfl) (Lm rfl (Lp (p_or rfl rfl (ad_or ha hb)) ?_)))))))))
    refine La rfl (nr (E_ret1 [] rfl hlgA rfl (K0 .nil) (fun g' hl => ?_)))
    exact ⟨by rw [← hf]; rfl, rfl⟩
end Go.Proofs.YtolddodhmeaceaaGreatDoor
namespace Go.Proofs.YtolddodhmeaceaaGreatDoor
open Go.Hl Go.Pk
structure DS where
  r : Value
  rb : Value
  ro : Int
  b : Int
  nb : Int
  bt : Value
  cb : Value
  hv : Value
  wr : Nat
  rd : Nat
  fu : Bool
  q0 : UInt8
  q1 : UInt8
  q2 : UInt8
  q3 : UInt8
  st : Value
  ss : Int
  fi : Bool
  er : Value
  tr : Value
  hl : Value
  hd : Value
  cl : Nat
  cd : Int
noncomputable def dmid : List Value := (Tryz.zeroCells400.toList.drop 5).take 1030
theorem dmid_len : dmid.length = 1030 := by kernel_rfl
noncomputable def dfr (s : DS) : List Value := [s.r, s.rb, .int .i64 s.ro, .int .u32 s.b, .int .u64 s.nb]
noncomputable def dbk (s : DS) : List Value := [s.bt, s.cb, s.hv, .int .i64 s.wr, .int .i64 s.rd, .bool s.fu, .int .u8 s.q0.toNat, .int .u8 s.q1.toNat, .int .u8 s.q2.toNat, .int .u8 s.q3.toNat, s.st, .int .i64 s.ss, .bool s.fi, s.er, s.tr, s.hl, s.hd, .int .i64 s.cl, .int .i64 s.cd]
noncomputable def dcC (s : DS) : Array Value := (dfr s ++ dmid ++ dbk s).toArray
theorem dc_ghi (s : DS) {v : Value} (i : Nat) (h : (dbk s)[i]? = some v) : (dcC s)[1035 + i]? = some v := by
  have hl : (dfr s ++ dmid).length = 1035 := by rw [List.length_append, dmid_len]; rfl
  unfold dcC
  rw [List.getElem?_toArray, List.getElem?_append_right (by omega), hl, Nat.add_sub_cancel_left]
  exact h
theorem dc_glo (s : DS) {v : Value} (i : Nat) (hi : i < 5) (h : (dfr s)[i]? = some v) : (dcC s)[i]? = some v := by
  unfold dcC
  rw [List.getElem?_toArray, List.append_assoc, List.getElem?_append_left (by exact hi)]
  exact h
theorem dc_size (s : DS) : (dcC s).size = 1054 := by
  unfold dcC
  rw [List.size_toArray, List.length_append, List.length_append, dmid_len]; rfl
theorem dc_lt (s : DS) {i : Nat} (h : i < 1054) : Nat.blt i (dcC s).size = true := by rw [dc_size]; simpa [Nat.blt_eq] using h
theorem dc_shi (s s' : DS) {v : Value} (i : Nat) (hi : dfr s = dfr s') (h : (dbk s).set i v = dbk s') : (dcC s).setIfInBounds (1035 + i) v = dcC s' := by
  have hl : (dfr s ++ dmid).length = 1035 := by rw [List.length_append, dmid_len]; rfl
  unfold dcC
  rw [← h, ← hi, List.setIfInBounds_toArray, List.set_append_right _ _ (by omega), hl, Nat.add_sub_cancel_left]
theorem dc_slo (s s' : DS) {v : Value} (i : Nat) (hi : i < 5) (h : (dfr s).set i v = dfr s') (hb : dbk s = dbk s') : (dcC s).setIfInBounds i v = dcC s' := by
  unfold dcC
  rw [← h, ← hb, List.setIfInBounds_toArray, List.append_assoc, List.set_append_left _ _ (by exact hi), List.append_assoc]
theorem dc_g400_0 {r : Value} {rb : Value} {ro : Int} {b : Int} {nb : Int} {bt : Value} {cb : Value} {hv : Value} {wr : Nat} {rd : Nat} {fu : Bool} {q0 : UInt8} {q1 : UInt8} {q2 : UInt8} {q3 : UInt8} {st : Value} {ss : Int} {fi : Bool} {er : Value} {tr : Value} {hl : Value} {hd : Value} {cl : Nat} {cd : Int} (s : DS) (h : s = ⟨r, rb, ro, b, nb, bt, cb, hv, wr, rd, fu, q0, q1, q2, q3, st, ss, fi, er, tr, hl, hd, cl, cd⟩) : (dcC s)[0]? = some (r) := by subst h; exact dc_glo _ 0 (by decide) rfl
theorem dc_l400_0 (s : DS) : Nat.blt 0 (dcC s).size = true := dc_lt s (by decide)
theorem dc_s400_0 {r : Value} {rb : Value} {ro : Int} {b : Int} {nb : Int} {bt : Value} {cb : Value} {hv : Value} {wr : Nat} {rd : Nat} {fu : Bool} {q0 : UInt8} {q1 : UInt8} {q2 : UInt8} {q3 : UInt8} {st : Value} {ss : Int} {fi : Bool} {er : Value} {tr : Value} {hl : Value} {hd : Value} {cl : Nat} {cd : Int} (s : DS) (v : Value) (h : s = ⟨r, rb, ro, b, nb, bt, cb, hv, wr, rd, fu, q0, q1, q2, q3, st, ss, fi, er, tr, hl, hd, cl, cd⟩) : (dcC s).setIfInBounds 0 (v) = dcC ⟨v, rb, ro, b, nb, bt, cb, hv, wr, rd, fu, q0, q1, q2, q3, st, ss, fi, er, tr, hl, hd, cl, cd⟩ := by subst h; exact dc_slo _ _ 0 (by decide) rfl rfl
theorem dc_g400_1 {r : Value} {rb : Value} {ro : Int} {b : Int} {nb : Int} {bt : Value} {cb : Value} {hv : Value} {wr : Nat} {rd : Nat} {fu : Bool} {q0 : UInt8} {q1 : UInt8} {q2 : UInt8} {q3 : UInt8} {st : Value} {ss : Int} {fi : Bool} {er : Value} {tr : Value} {hl : Value} {hd : Value} {cl : Nat} {cd : Int} (s : DS) (h : s = ⟨r, rb, ro, b, nb, bt, cb, hv, wr, rd, fu, q0, q1, q2, q3, st, ss, fi, er, tr, hl, hd, cl, cd⟩) : (dcC s)[1]? = some (rb) := by subst h; exact dc_glo _ 1 (by decide) rfl
theorem dc_l400_1 (s : DS) : Nat.blt 1 (dcC s).size = true := dc_lt s (by decide)
theorem dc_s400_1 {r : Value} {rb : Value} {ro : Int} {b : Int} {nb : Int} {bt : Value} {cb : Value} {hv : Value} {wr : Nat} {rd : Nat} {fu : Bool} {q0 : UInt8} {q1 : UInt8} {q2 : UInt8} {q3 : UInt8} {st : Value} {ss : Int} {fi : Bool} {er : Value} {tr : Value} {hl : Value} {hd : Value} {cl : Nat} {cd : Int} (s : DS) (v : Value) (h : s = ⟨r, rb, ro, b, nb, bt, cb, hv, wr, rd, fu, q0, q1, q2, q3, st, ss, fi, er, tr, hl, hd, cl, cd⟩) : (dcC s).setIfInBounds 1 (v) = dcC ⟨r, v, ro, b, nb, bt, cb, hv, wr, rd, fu, q0, q1, q2, q3, st, ss, fi, er, tr, hl, hd, cl, cd⟩ := by subst h; exact dc_slo _ _ 1 (by decide) rfl rfl
theorem dc_g400_2 {r : Value} {rb : Value} {ro : Int} {b : Int} {nb : Int} {bt : Value} {cb : Value} {hv : Value} {wr : Nat} {rd : Nat} {fu : Bool} {q0 : UInt8} {q1 : UInt8} {q2 : UInt8} {q3 : UInt8} {st : Value} {ss : Int} {fi : Bool} {er : Value} {tr : Value} {hl : Value} {hd : Value} {cl : Nat} {cd : Int} (s : DS) (h : s = ⟨r, rb, ro, b, nb, bt, cb, hv, wr, rd, fu, q0, q1, q2, q3, st, ss, fi, er, tr, hl, hd, cl, cd⟩) : (dcC s)[2]? = some (.int .i64 ro) := by subst h; exact dc_glo _ 2 (by decide) rfl
theorem dc_l400_2 (s : DS) : Nat.blt 2 (dcC s).size = true := dc_lt s (by decide)
theorem dc_s400_2 {r : Value} {rb : Value} {ro : Int} {b : Int} {nb : Int} {bt : Value} {cb : Value} {hv : Value} {wr : Nat} {rd : Nat} {fu : Bool} {q0 : UInt8} {q1 : UInt8} {q2 : UInt8} {q3 : UInt8} {st : Value} {ss : Int} {fi : Bool} {er : Value} {tr : Value} {hl : Value} {hd : Value} {cl : Nat} {cd : Int} (s : DS) (v : Int) (h : s = ⟨r, rb, ro, b, nb, bt, cb, hv, wr, rd, fu, q0, q1, q2, q3, st, ss, fi, er, tr, hl, hd, cl, cd⟩) : (dcC s).setIfInBounds 2 (.int .i64 v) = dcC ⟨r, rb, v, b, nb, bt, cb, hv, wr, rd, fu, q0, q1, q2, q3, st, ss, fi, er, tr, hl, hd, cl, cd⟩ := by subst h; exact dc_slo _ _ 2 (by decide) rfl rfl
theorem dc_g400_3 {r : Value} {rb : Value} {ro : Int} {b : Int} {nb : Int} {bt : Value} {cb : Value} {hv : Value} {wr : Nat} {rd : Nat} {fu : Bool} {q0 : UInt8} {q1 : UInt8} {q2 : UInt8} {q3 : UInt8} {st : Value} {ss : Int} {fi : Bool} {er : Value} {tr : Value} {hl : Value} {hd : Value} {cl : Nat} {cd : Int} (s : DS) (h : s = ⟨r, rb, ro, b, nb, bt, cb, hv, wr, rd, fu, q0, q1, q2, q3, st, ss, fi, er, tr, hl, hd, cl, cd⟩) : (dcC s)[3]? = some (.int .u32 b) := by subst h; exact dc_glo _ 3 (by decide) rfl
theorem dc_l400_3 (s : DS) : Nat.blt 3 (dcC s).size = true := dc_lt s (by decide)
theorem dc_s400_3 {r : Value} {rb : Value} {ro : Int} {b : Int} {nb : Int} {bt : Value} {cb : Value} {hv : Value} {wr : Nat} {rd : Nat} {fu : Bool} {q0 : UInt8} {q1 : UInt8} {q2 : UInt8} {q3 : UInt8} {st : Value} {ss : Int} {fi : Bool} {er : Value} {tr : Value} {hl : Value} {hd : Value} {cl : Nat} {cd : Int} (s : DS) (v : Int) (h : s = ⟨r, rb, ro, b, nb, bt, cb, hv, wr, rd, fu, q0, q1, q2, q3, st, ss, fi, er, tr, hl, hd, cl, cd⟩) : (dcC s).setIfInBounds 3 (.int .u32 v) = dcC ⟨r, rb, ro, v, nb, bt, cb, hv, wr, rd, fu, q0, q1, q2, q3, st, ss, fi, er, tr, hl, hd, cl, cd⟩ := by subst h; exact dc_slo _ _ 3 (by decide) rfl rfl
theorem dc_g400_4 {r : Value} {rb : Value} {ro : Int} {b : Int} {nb : Int} {bt : Value} {cb : Value} {hv : Value} {wr : Nat} {rd : Nat} {fu : Bool} {q0 : UInt8} {q1 : UInt8} {q2 : UInt8} {q3 : UInt8} {st : Value} {ss : Int} {fi : Bool} {er : Value} {tr : Value} {hl : Value} {hd : Value} {cl : Nat} {cd : Int} (s : DS) (h : s = ⟨r, rb, ro, b, nb, bt, cb, hv, wr, rd, fu, q0, q1, q2, q3, st, ss, fi, er, tr, hl, hd, cl, cd⟩) : (dcC s)[4]? = some (.int .u64 nb) := by subst h; exact dc_glo _ 4 (by decide) rfl
theorem dc_l400_4 (s : DS) : Nat.blt 4 (dcC s).size = true := dc_lt s (by decide)
theorem dc_s400_4 {r : Value} {rb : Value} {ro : Int} {b : Int} {nb : Int} {bt : Value} {cb : Value} {hv : Value} {wr : Nat} {rd : Nat} {fu : Bool} {q0 : UInt8} {q1 : UInt8} {q2 : UInt8} {q3 : UInt8} {st : Value} {ss : Int} {fi : Bool} {er : Value} {tr : Value} {hl : Value} {hd : Value} {cl : Nat} {cd : Int} (s : DS) (v : Int) (h : s = ⟨r, rb, ro, b, nb, bt, cb, hv, wr, rd, fu, q0, q1, q2, q3, st, ss, fi, er, tr, hl, hd, cl, cd⟩) : (dcC s).setIfInBounds 4 (.int .u64 v) = dcC ⟨r, rb, ro, b, v, bt, cb, hv, wr, rd, fu, q0, q1, q2, q3, st, ss, fi, er, tr, hl, hd, cl, cd⟩ := by subst h; exact dc_slo _ _ 4 (by decide) rfl rfl
theorem dc_g400_7 {r : Value} {rb : Value} {ro : Int} {b : Int} {nb : Int} {bt : Value} {cb : Value} {hv : Value} {wr : Nat} {rd : Nat} {fu : Bool} {q0 : UInt8} {q1 : UInt8} {q2 : UInt8} {q3 : UInt8} {st : Value} {ss : Int} {fi : Bool} {er : Value} {tr : Value} {hl : Value} {hd : Value} {cl : Nat} {cd : Int} (s : DS) (h : s = ⟨r, rb, ro, b, nb, bt, cb, hv, wr, rd, fu, q0, q1, q2, q3, st, ss, fi, er, tr, hl, hd, cl, cd⟩) : (dcC s)[1035]? = some (bt) := by subst h; exact dc_ghi _ 0 rfl
theorem dc_l400_7 (s : DS) : Nat.blt 1035 (dcC s).size = true := dc_lt s (by decide)
theorem dc_s400_7 {r : Value} {rb : Value} {ro : Int} {b : Int} {nb : Int} {bt : Value} {cb : Value} {hv : Value} {wr : Nat} {rd : Nat} {fu : Bool} {q0 : UInt8} {q1 : UInt8} {q2 : UInt8} {q3 : UInt8} {st : Value} {ss : Int} {fi : Bool} {er : Value} {tr : Value} {hl : Value} {hd : Value} {cl : Nat} {cd : Int} (s : DS) (v : Value) (h : s = ⟨r, rb, ro, b, nb, bt, cb, hv, wr, rd, fu, q0, q1, q2, q3, st, ss, fi, er, tr, hl, hd, cl, cd⟩) : (dcC s).setIfInBounds 1035 (v) = dcC ⟨r, rb, ro, b, nb, v, cb, hv, wr, rd, fu, q0, q1, q2, q3, st, ss, fi, er, tr, hl, hd, cl, cd⟩ := by subst h; exact dc_shi _ _ 0 rfl rfl
theorem dc_g400_8 {r : Value} {rb : Value} {ro : Int} {b : Int} {nb : Int} {bt : Value} {cb : Value} {hv : Value} {wr : Nat} {rd : Nat} {fu : Bool} {q0 : UInt8} {q1 : UInt8} {q2 : UInt8} {q3 : UInt8} {st : Value} {ss : Int} {fi : Bool} {er : Value} {tr : Value} {hl : Value} {hd : Value} {cl : Nat} {cd : Int} (s : DS) (h : s = ⟨r, rb, ro, b, nb, bt, cb, hv, wr, rd, fu, q0, q1, q2, q3, st, ss, fi, er, tr, hl, hd, cl, cd⟩) : (dcC s)[1036]? = some (cb) := by subst h; exact dc_ghi _ 1 rfl
theorem dc_l400_8 (s : DS) : Nat.blt 1036 (dcC s).size = true := dc_lt s (by decide)
theorem dc_s400_8 {r : Value} {rb : Value} {ro : Int} {b : Int} {nb : Int} {bt : Value} {cb : Value} {hv : Value} {wr : Nat} {rd : Nat} {fu : Bool} {q0 : UInt8} {q1 : UInt8} {q2 : UInt8} {q3 : UInt8} {st : Value} {ss : Int} {fi : Bool} {er : Value} {tr : Value} {hl : Value} {hd : Value} {cl : Nat} {cd : Int} (s : DS) (v : Value) (h : s = ⟨r, rb, ro, b, nb, bt, cb, hv, wr, rd, fu, q0, q1, q2, q3, st, ss, fi, er, tr, hl, hd, cl, cd⟩) : (dcC s).setIfInBounds 1036 (v) = dcC ⟨r, rb, ro, b, nb, bt, v, hv, wr, rd, fu, q0, q1, q2, q3, st, ss, fi, er, tr, hl, hd, cl, cd⟩ := by subst h; exact dc_shi _ _ 1 rfl rfl
theorem dc_g396_0 {r : Value} {rb : Value} {ro : Int} {b : Int} {nb : Int} {bt : Value} {cb : Value} {hv : Value} {wr : Nat} {rd : Nat} {fu : Bool} {q0 : UInt8} {q1 : UInt8} {q2 : UInt8} {q3 : UInt8} {st : Value} {ss : Int} {fi : Bool} {er : Value} {tr : Value} {hl : Value} {hd : Value} {cl : Nat} {cd : Int} (s : DS) (h : s = ⟨r, rb, ro, b, nb, bt, cb, hv, wr, rd, fu, q0, q1, q2, q3, st, ss, fi, er, tr, hl, hd, cl, cd⟩) : (dcC s)[1037]? = some (hv) := by subst h; exact dc_ghi _ 2 rfl
theorem dc_l396_0 (s : DS) : Nat.blt 1037 (dcC s).size = true := dc_lt s (by decide)
theorem dc_s396_0 {r : Value} {rb : Value} {ro : Int} {b : Int} {nb : Int} {bt : Value} {cb : Value} {hv : Value} {wr : Nat} {rd : Nat} {fu : Bool} {q0 : UInt8} {q1 : UInt8} {q2 : UInt8} {q3 : UInt8} {st : Value} {ss : Int} {fi : Bool} {er : Value} {tr : Value} {hl : Value} {hd : Value} {cl : Nat} {cd : Int} (s : DS) (v : Value) (h : s = ⟨r, rb, ro, b, nb, bt, cb, hv, wr, rd, fu, q0, q1, q2, q3, st, ss, fi, er, tr, hl, hd, cl, cd⟩) : (dcC s).setIfInBounds 1037 (v) = dcC ⟨r, rb, ro, b, nb, bt, cb, v, wr, rd, fu, q0, q1, q2, q3, st, ss, fi, er, tr, hl, hd, cl, cd⟩ := by subst h; exact dc_shi _ _ 2 rfl rfl
theorem dc_g396_1 {r : Value} {rb : Value} {ro : Int} {b : Int} {nb : Int} {bt : Value} {cb : Value} {hv : Value} {wr : Nat} {rd : Nat} {fu : Bool} {q0 : UInt8} {q1 : UInt8} {q2 : UInt8} {q3 : UInt8} {st : Value} {ss : Int} {fi : Bool} {er : Value} {tr : Value} {hl : Value} {hd : Value} {cl : Nat} {cd : Int} (s : DS) (h : s = ⟨r, rb, ro, b, nb, bt, cb, hv, wr, rd, fu, q0, q1, q2, q3, st, ss, fi, er, tr, hl, hd, cl, cd⟩) : (dcC s)[1038]? = some (.int .i64 wr) := by subst h; exact dc_ghi _ 3 rfl
theorem dc_l396_1 (s : DS) : Nat.blt 1038 (dcC s).size = true := dc_lt s (by decide)
theorem dc_s396_1 {r : Value} {rb : Value} {ro : Int} {b : Int} {nb : Int} {bt : Value} {cb : Value} {hv : Value} {wr : Nat} {rd : Nat} {fu : Bool} {q0 : UInt8} {q1 : UInt8} {q2 : UInt8} {q3 : UInt8} {st : Value} {ss : Int} {fi : Bool} {er : Value} {tr : Value} {hl : Value} {hd : Value} {cl : Nat} {cd : Int} (s : DS) (v : Nat) (h : s = ⟨r, rb, ro, b, nb, bt, cb, hv, wr, rd, fu, q0, q1, q2, q3, st, ss, fi, er, tr, hl, hd, cl, cd⟩) : (dcC s).setIfInBounds 1038 (.int .i64 v) = dcC ⟨r, rb, ro, b, nb, bt, cb, hv, v, rd, fu, q0, q1, q2, q3, st, ss, fi, er, tr, hl, hd, cl, cd⟩ := by subst h; exact dc_shi _ _ 3 rfl rfl
theorem dc_g396_2 {r : Value} {rb : Value} {ro : Int} {b : Int} {nb : Int} {bt : Value} {cb : Value} {hv : Value} {wr : Nat} {rd : Nat} {fu : Bool} {q0 : UInt8} {q1 : UInt8} {q2 : UInt8} {q3 : UInt8} {st : Value} {ss : Int} {fi : Bool} {er : Value} {tr : Value} {hl : Value} {hd : Value} {cl : Nat} {cd : Int} (s : DS) (h : s = ⟨r, rb, ro, b, nb, bt, cb, hv, wr, rd, fu, q0, q1, q2, q3, st, ss, fi, er, tr, hl, hd, cl, cd⟩) : (dcC s)[1039]? = some (.int .i64 rd) := by subst h; exact dc_ghi _ 4 rfl
theorem dc_l396_2 (s : DS) : Nat.blt 1039 (dcC s).size = true := dc_lt s (by decide)
theorem dc_s396_2 {r : Value} {rb : Value} {ro : Int} {b : Int} {nb : Int} {bt : Value} {cb : Value} {hv : Value} {wr : Nat} {rd : Nat} {fu : Bool} {q0 : UInt8} {q1 : UInt8} {q2 : UInt8} {q3 : UInt8} {st : Value} {ss : Int} {fi : Bool} {er : Value} {tr : Value} {hl : Value} {hd : Value} {cl : Nat} {cd : Int} (s : DS) (v : Nat) (h : s = ⟨r, rb, ro, b, nb, bt, cb, hv, wr, rd, fu, q0, q1, q2, q3, st, ss, fi, er, tr, hl, hd, cl, cd⟩) : (dcC s).setIfInBounds 1039 (.int .i64 v) = dcC ⟨r, rb, ro, b, nb, bt, cb, hv, wr, v, fu, q0, q1, q2, q3, st, ss, fi, er, tr, hl, hd, cl, cd⟩ := by subst h; exact dc_shi _ _ 4 rfl rfl
theorem dc_g396_3 {r : Value} {rb : Value} {ro : Int} {b : Int} {nb : Int} {bt : Value} {cb : Value} {hv : Value} {wr : Nat} {rd : Nat} {fu : Bool} {q0 : UInt8} {q1 : UInt8} {q2 : UInt8} {q3 : UInt8} {st : Value} {ss : Int} {fi : Bool} {er : Value} {tr : Value} {hl : Value} {hd : Value} {cl : Nat} {cd : Int} (s : DS) (h : s = ⟨r, rb, ro, b, nb, bt, cb, hv, wr, rd, fu, q0, q1, q2, q3, st, ss, fi, er, tr, hl, hd, cl, cd⟩) : (dcC s)[1040]? = some (.bool fu) := by subst h; exact dc_ghi _ 5 rfl
theorem dc_l396_3 (s : DS) : Nat.blt 1040 (dcC s).size = true := dc_lt s (by decide)
theorem dc_s396_3 {r : Value} {rb : Value} {ro : Int} {b : Int} {nb : Int} {bt : Value} {cb : Value} {hv : Value} {wr : Nat} {rd : Nat} {fu : Bool} {q0 : UInt8} {q1 : UInt8} {q2 : UInt8} {q3 : UInt8} {st : Value} {ss : Int} {fi : Bool} {er : Value} {tr : Value} {hl : Value} {hd : Value} {cl : Nat} {cd : Int} (s : DS) (v : Bool) (h : s = ⟨r, rb, ro, b, nb, bt, cb, hv, wr, rd, fu, q0, q1, q2, q3, st, ss, fi, er, tr, hl, hd, cl, cd⟩) : (dcC s).setIfInBounds 1040 (.bool v) = dcC ⟨r, rb, ro, b, nb, bt, cb, hv, wr, rd, v, q0, q1, q2, q3, st, ss, fi, er, tr, hl, hd, cl, cd⟩ := by subst h; exact dc_shi _ _ 5 rfl rfl
theorem dc_gq_0 {r : Value} {rb : Value} {ro : Int} {b : Int} {nb : Int} {bt : Value} {cb : Value} {hv : Value} {wr : Nat} {rd : Nat} {fu : Bool} {q0 : UInt8} {q1 : UInt8} {q2 : UInt8} {q3 : UInt8} {st : Value} {ss : Int} {fi : Bool} {er : Value} {tr : Value} {hl : Value} {hd : Value} {cl : Nat} {cd : Int} (s : DS) (h : s = ⟨r, rb, ro, b, nb, bt, cb, hv, wr, rd, fu, q0, q1, q2, q3, st, ss, fi, er, tr, hl, hd, cl, cd⟩) : (dcC s)[1041]? = some (.int .u8 q0.toNat) := by subst h; exact dc_ghi _ 6 rfl
theorem dc_lq_0 (s : DS) : Nat.blt 1041 (dcC s).size = true := dc_lt s (by decide)
theorem dc_sq_0 {r : Value} {rb : Value} {ro : Int} {b : Int} {nb : Int} {bt : Value} {cb : Value} {hv : Value} {wr : Nat} {rd : Nat} {fu : Bool} {q0 : UInt8} {q1 : UInt8} {q2 : UInt8} {q3 : UInt8} {st : Value} {ss : Int} {fi : Bool} {er : Value} {tr : Value} {hl : Value} {hd : Value} {cl : Nat} {cd : Int} (s : DS) (v : UInt8) (h : s = ⟨r, rb, ro, b, nb, bt, cb, hv, wr, rd, fu, q0, q1, q2, q3, st, ss, fi, er, tr, hl, hd, cl, cd⟩) : (dcC s).setIfInBounds 1041 (.int .u8 v.toNat) = dcC ⟨r, rb, ro, b, nb, bt, cb, hv, wr, rd, fu, v, q1, q2, q3, st, ss, fi, er, tr, hl, hd, cl, cd⟩ := by subst h; exact dc_shi _ _ 6 rfl rfl
theorem dc_gq_1 {r : Value} {rb : Value} {ro : Int} {b : Int} {nb : Int} {bt : Value} {cb : Value} {hv : Value} {wr : Nat} {rd : Nat} {fu : Bool} {q0 : UInt8} {q1 : UInt8} {q2 : UInt8} {q3 : UInt8} {st : Value} {ss : Int} {fi : Bool} {er : Value} {tr : Value} {hl : Value} {hd : Value} {cl : Nat} {cd : Int} (s : DS) (h : s = ⟨r, rb, ro, b, nb, bt, cb, hv, wr, rd, fu, q0, q1, q2, q3, st, ss, fi, er, tr, hl, hd, cl, cd⟩) : (dcC s)[1042]? = some (.int .u8 q1.toNat) := by subst h; exact dc_ghi _ 7 rfl
theorem dc_lq_1 (s : DS) : Nat.blt 1042 (dcC s).size = true := dc_lt s (by decide)
theorem dc_sq_1 {r : Value} {rb : Value} {ro : Int} {b : Int} {nb : Int} {bt : Value} {cb : Value} {hv : Value} {wr : Nat} {rd : Nat} {fu : Bool} {q0 : UInt8} {q1 : UInt8} {q2 : UInt8} {q3 : UInt8} {st : Value} {ss : Int} {fi : Bool} {er : Value} {tr : Value} {hl : Value} {hd : Value} {cl : Nat} {cd : Int} (s : DS) (v : UInt8) (h : s = ⟨r, rb, ro, b, nb, bt, cb, hv, wr, rd, fu, q0, q1, q2, q3, st, ss, fi, er, tr, hl, hd, cl, cd⟩) : (dcC s).setIfInBounds 1042 (.int .u8 v.toNat) = dcC ⟨r, rb, ro, b, nb, bt, cb, hv, wr, rd, fu, q0, v, q2, q3, st, ss, fi, er, tr, hl, hd, cl, cd⟩ := by subst h; exact dc_shi _ _ 7 rfl rfl
theorem dc_gq_2 {r : Value} {rb : Value} {ro : Int} {b : Int} {nb : Int} {bt : Value} {cb : Value} {hv : Value} {wr : Nat} {rd : Nat} {fu : Bool} {q0 : UInt8} {q1 : UInt8} {q2 : UInt8} {q3 : UInt8} {st : Value} {ss : Int} {fi : Bool} {er : Value} {tr : Value} {hl : Value} {hd : Value} {cl : Nat} {cd : Int} (s : DS) (h : s = ⟨r, rb, ro, b, nb, bt, cb, hv, wr, rd, fu, q0, q1, q2, q3, st, ss, fi, er, tr, hl, hd, cl, cd⟩) : (dcC s)[1043]? = some (.int .u8 q2.toNat) := by subst h; exact dc_ghi _ 8 rfl
theorem dc_lq_2 (s : DS) : Nat.blt 1043 (dcC s).size = true := dc_lt s (by decide)
theorem dc_sq_2 {r : Value} {rb : Value} {ro : Int} {b : Int} {nb : Int} {bt : Value} {cb : Value} {hv : Value} {wr : Nat} {rd : Nat} {fu : Bool} {q0 : UInt8} {q1 : UInt8} {q2 : UInt8} {q3 : UInt8} {st : Value} {ss : Int} {fi : Bool} {er : Value} {tr : Value} {hl : Value} {hd : Value} {cl : Nat} {cd : Int} (s : DS) (v : UInt8) (h : s = ⟨r, rb, ro, b, nb, bt, cb, hv, wr, rd, fu, q0, q1, q2, q3, st, ss, fi, er, tr, hl, hd, cl, cd⟩) : (dcC s).setIfInBounds 1043 (.int .u8 v.toNat) = dcC ⟨r, rb, ro, b, nb, bt, cb, hv, wr, rd, fu, q0, q1, v, q3, st, ss, fi, er, tr, hl, hd, cl, cd⟩ := by subst h; exact dc_shi _ _ 8 rfl rfl
theorem dc_gq_3 {r : Value} {rb : Value} {ro : Int} {b : Int} {nb : Int} {bt : Value} {cb : Value} {hv : Value} {wr : Nat} {rd : Nat} {fu : Bool} {q0 : UInt8} {q1 : UInt8} {q2 : UInt8} {q3 : UInt8} {st : Value} {ss : Int} {fi : Bool} {er : Value} {tr : Value} {hl : Value} {hd : Value} {cl : Nat} {cd : Int} (s : DS) (h : s = ⟨r, rb, ro, b, nb, bt, cb, hv, wr, rd, fu, q0, q1, q2, q3, st, ss, fi, er, tr, hl, hd, cl, cd⟩) : (dcC s)[1044]? = some (.int .u8 q3.toNat) := by subst h; exact dc_ghi _ 9 rfl
theorem dc_lq_3 (s : DS) : Nat.blt 1044 (dcC s).size = true := dc_lt s (by decide)
theorem dc_sq_3 {r : Value} {rb : Value} {ro : Int} {b : Int} {nb : Int} {bt : Value} {cb : Value} {hv : Value} {wr : Nat} {rd : Nat} {fu : Bool} {q0 : UInt8} {q1 : UInt8} {q2 : UInt8} {q3 : UInt8} {st : Value} {ss : Int} {fi : Bool} {er : Value} {tr : Value} {hl : Value} {hd : Value} {cl : Nat} {cd : Int} (s : DS) (v : UInt8) (h : s = ⟨r, rb, ro, b, nb, bt, cb, hv, wr, rd, fu, q0, q1, q2, q3, st, ss, fi, er, tr, hl, hd, cl, cd⟩) : (dcC s).setIfInBounds 1044 (.int .u8 v.toNat) = dcC ⟨r, rb, ro, b, nb, bt, cb, hv, wr, rd, fu, q0, q1, q2, v, st, ss, fi, er, tr, hl, hd, cl, cd⟩ := by subst h; exact dc_shi _ _ 9 rfl rfl
theorem dc_g400_11 {r : Value} {rb : Value} {ro : Int} {b : Int} {nb : Int} {bt : Value} {cb : Value} {hv : Value} {wr : Nat} {rd : Nat} {fu : Bool} {q0 : UInt8} {q1 : UInt8} {q2 : UInt8} {q3 : UInt8} {st : Value} {ss : Int} {fi : Bool} {er : Value} {tr : Value} {hl : Value} {hd : Value} {cl : Nat} {cd : Int} (s : DS) (h : s = ⟨r, rb, ro, b, nb, bt, cb, hv, wr, rd, fu, q0, q1, q2, q3, st, ss, fi, er, tr, hl, hd, cl, cd⟩) : (dcC s)[1045]? = some (st) := by subst h; exact dc_ghi _ 10 rfl
theorem dc_l400_11 (s : DS) : Nat.blt 1045 (dcC s).size = true := dc_lt s (by decide)
theorem dc_s400_11 {r : Value} {rb : Value} {ro : Int} {b : Int} {nb : Int} {bt : Value} {cb : Value} {hv : Value} {wr : Nat} {rd : Nat} {fu : Bool} {q0 : UInt8} {q1 : UInt8} {q2 : UInt8} {q3 : UInt8} {st : Value} {ss : Int} {fi : Bool} {er : Value} {tr : Value} {hl : Value} {hd : Value} {cl : Nat} {cd : Int} (s : DS) (v : Value) (h : s = ⟨r, rb, ro, b, nb, bt, cb, hv, wr, rd, fu, q0, q1, q2, q3, st, ss, fi, er, tr, hl, hd, cl, cd⟩) : (dcC s).setIfInBounds 1045 (v) = dcC ⟨r, rb, ro, b, nb, bt, cb, hv, wr, rd, fu, q0, q1, q2, q3, v, ss, fi, er, tr, hl, hd, cl, cd⟩ := by subst h; exact dc_shi _ _ 10 rfl rfl
theorem dc_g400_12 {r : Value} {rb : Value} {ro : Int} {b : Int} {nb : Int} {bt : Value} {cb : Value} {hv : Value} {wr : Nat} {rd : Nat} {fu : Bool} {q0 : UInt8} {q1 : UInt8} {q2 : UInt8} {q3 : UInt8} {st : Value} {ss : Int} {fi : Bool} {er : Value} {tr : Value} {hl : Value} {hd : Value} {cl : Nat} {cd : Int} (s : DS) (h : s = ⟨r, rb, ro, b, nb, bt, cb, hv, wr, rd, fu, q0, q1, q2, q3, st, ss, fi, er, tr, hl, hd, cl, cd⟩) : (dcC s)[1046]? = some (.int .i64 ss) := by subst h; exact dc_ghi _ 11 rfl
theorem dc_l400_12 (s : DS) : Nat.blt 1046 (dcC s).size = true := dc_lt s (by decide)
theorem dc_s400_12 {r : Value} {rb : Value} {ro : Int} {b : Int} {nb : Int} {bt : Value} {cb : Value} {hv : Value} {wr : Nat} {rd : Nat} {fu : Bool} {q0 : UInt8} {q1 : UInt8} {q2 : UInt8} {q3 : UInt8} {st : Value} {ss : Int} {fi : Bool} {er : Value} {tr : Value} {hl : Value} {hd : Value} {cl : Nat} {cd : Int} (s : DS) (v : Int) (h : s = ⟨r, rb, ro, b, nb, bt, cb, hv, wr, rd, fu, q0, q1, q2, q3, st, ss, fi, er, tr, hl, hd, cl, cd⟩) : (dcC s).setIfInBounds 1046 (.int .i64 v) = dcC ⟨r, rb, ro, b, nb, bt, cb, hv, wr, rd, fu, q0, q1, q2, q3, st, v, fi, er, tr, hl, hd, cl, cd⟩ := by subst h; exact dc_shi _ _ 11 rfl rfl
theorem dc_g400_13 {r : Value} {rb : Value} {ro : Int} {b : Int} {nb : Int} {bt : Value} {cb : Value} {hv : Value} {wr : Nat} {rd : Nat} {fu : Bool} {q0 : UInt8} {q1 : UInt8} {q2 : UInt8} {q3 : UInt8} {st : Value} {ss : Int} {fi : Bool} {er : Value} {tr : Value} {hl : Value} {hd : Value} {cl : Nat} {cd : Int} (s : DS) (h : s = ⟨r, rb, ro, b, nb, bt, cb, hv, wr, rd, fu, q0, q1, q2, q3, st, ss, fi, er, tr, hl, hd, cl, cd⟩) : (dcC s)[1047]? = some (.bool fi) := by subst h; exact dc_ghi _ 12 rfl
theorem dc_l400_13 (s : DS) : Nat.blt 1047 (dcC s).size = true := dc_lt s (by decide)
theorem dc_s400_13 {r : Value} {rb : Value} {ro : Int} {b : Int} {nb : Int} {bt : Value} {cb : Value} {hv : Value} {wr : Nat} {rd : Nat} {fu : Bool} {q0 : UInt8} {q1 : UInt8} {q2 : UInt8} {q3 : UInt8} {st : Value} {ss : Int} {fi : Bool} {er : Value} {tr : Value} {hl : Value} {hd : Value} {cl : Nat} {cd : Int} (s : DS) (v : Bool) (h : s = ⟨r, rb, ro, b, nb, bt, cb, hv, wr, rd, fu, q0, q1, q2, q3, st, ss, fi, er, tr, hl, hd, cl, cd⟩) : (dcC s).setIfInBounds 1047 (.bool v) = dcC ⟨r, rb, ro, b, nb, bt, cb, hv, wr, rd, fu, q0, q1, q2, q3, st, ss, v, er, tr, hl, hd, cl, cd⟩ := by subst h; exact dc_shi _ _ 12 rfl rfl
theorem dc_g400_14 {r : Value} {rb : Value} {ro : Int} {b : Int} {nb : Int} {bt : Value} {cb : Value} {hv : Value} {wr : Nat} {rd : Nat} {fu : Bool} {q0 : UInt8} {q1 : UInt8} {q2 : UInt8} {q3 : UInt8} {st : Value} {ss : Int} {fi : Bool} {er : Value} {tr : Value} {hl : Value} {hd : Value} {cl : Nat} {cd : Int} (s : DS) (h : s = ⟨r, rb, ro, b, nb, bt, cb, hv, wr, rd, fu, q0, q1, q2, q3, st, ss, fi, er, tr, hl, hd, cl, cd⟩) : (dcC s)[1048]? = some (er) := by subst h; exact dc_ghi _ 13 rfl
theorem dc_l400_14 (s : DS) : Nat.blt 1048 (dcC s).size = true := dc_lt s (by decide)
theorem dc_s400_14 {r : Value} {rb : Value} {ro : Int} {b : Int} {nb : Int} {bt : Value} {cb : Value} {hv : Value} {wr : Nat} {rd : Nat} {fu : Bool} {q0 : UInt8} {q1 : UInt8} {q2 : UInt8} {q3 : UInt8} {st : Value} {ss : Int} {fi : Bool} {er : Value} {tr : Value} {hl : Value} {hd : Value} {cl : Nat} {cd : Int} (s : DS) (v : Value) (h : s = ⟨r, rb, ro, b, nb, bt, cb, hv, wr, rd, fu, q0, q1, q2, q3, st, ss, fi, er, tr, hl, hd, cl, cd⟩) : (dcC s).setIfInBounds 1048 (v) = dcC ⟨r, rb, ro, b, nb, bt, cb, hv, wr, rd, fu, q0, q1, q2, q3, st, ss, fi, v, tr, hl, hd, cl, cd⟩ := by subst h; exact dc_shi _ _ 13 rfl rfl
theorem dc_g400_15 {r : Value} {rb : Value} {ro : Int} {b : Int} {nb : Int} {bt : Value} {cb : Value} {hv : Value} {wr : Nat} {rd : Nat} {fu : Bool} {q0 : UInt8} {q1 : UInt8} {q2 : UInt8} {q3 : UInt8} {st : Value} {ss : Int} {fi : Bool} {er : Value} {tr : Value} {hl : Value} {hd : Value} {cl : Nat} {cd : Int} (s : DS) (h : s = ⟨r, rb, ro, b, nb, bt, cb, hv, wr, rd, fu, q0, q1, q2, q3, st, ss, fi, er, tr, hl, hd, cl, cd⟩) : (dcC s)[1049]? = some (tr) := by subst h; exact dc_ghi _ 14 rfl
theorem dc_l400_15 (s : DS) : Nat.blt 1049 (dcC s).size = true := dc_lt s (by decide)
theorem dc_s400_15 {r : Value} {rb : Value} {ro : Int} {b : Int} {nb : Int} {bt : Value} {cb : Value} {hv : Value} {wr : Nat} {rd : Nat} {fu : Bool} {q0 : UInt8} {q1 : UInt8} {q2 : UInt8} {q3 : UInt8} {st : Value} {ss : Int} {fi : Bool} {er : Value} {tr : Value} {hl : Value} {hd : Value} {cl : Nat} {cd : Int} (s : DS) (v : Value) (h : s = ⟨r, rb, ro, b, nb, bt, cb, hv, wr, rd, fu, q0, q1, q2, q3, st, ss, fi, er, tr, hl, hd, cl, cd⟩) : (dcC s).setIfInBounds 1049 (v) = dcC ⟨r, rb, ro, b, nb, bt, cb, hv, wr, rd, fu, q0, q1, q2, q3, st, ss, fi, er, v, hl, hd, cl, cd⟩ := by subst h; exact dc_shi _ _ 14 rfl rfl
theorem dc_g400_16 {r : Value} {rb : Value} {ro : Int} {b : Int} {nb : Int} {bt : Value} {cb : Value} {hv : Value} {wr : Nat} {rd : Nat} {fu : Bool} {q0 : UInt8} {q1 : UInt8} {q2 : UInt8} {q3 : UInt8} {st : Value} {ss : Int} {fi : Bool} {er : Value} {tr : Value} {hl : Value} {hd : Value} {cl : Nat} {cd : Int} (s : DS) (h : s = ⟨r, rb, ro, b, nb, bt, cb, hv, wr, rd, fu, q0, q1, q2, q3, st, ss, fi, er, tr, hl, hd, cl, cd⟩) : (dcC s)[1050]? = some (hl) := by subst h; exact dc_ghi _ 15 rfl
theorem dc_l400_16 (s : DS) : Nat.blt 1050 (dcC s).size = true := dc_lt s (by decide)
theorem dc_s400_16 {r : Value} {rb : Value} {ro : Int} {b : Int} {nb : Int} {bt : Value} {cb : Value} {hv : Value} {wr : Nat} {rd : Nat} {fu : Bool} {q0 : UInt8} {q1 : UInt8} {q2 : UInt8} {q3 : UInt8} {st : Value} {ss : Int} {fi : Bool} {er : Value} {tr : Value} {hl : Value} {hd : Value} {cl : Nat} {cd : Int} (s : DS) (v : Value) (h : s = ⟨r, rb, ro, b, nb, bt, cb, hv, wr, rd, fu, q0, q1, q2, q3, st, ss, fi, er, tr, hl, hd, cl, cd⟩) : (dcC s).setIfInBounds 1050 (v) = dcC ⟨r, rb, ro, b, nb, bt, cb, hv, wr, rd, fu, q0, q1, q2, q3, st, ss, fi, er, tr, v, hd, cl, cd⟩ := by subst h; exact dc_shi _ _ 15 rfl rfl
theorem dc_g400_17 {r : Value} {rb : Value} {ro : Int} {b : Int} {nb : Int} {bt : Value} {cb : Value} {hv : Value} {wr : Nat} {rd : Nat} {fu : Bool} {q0 : UInt8} {q1 : UInt8} {q2 : UInt8} {q3 : UInt8} {st : Value} {ss : Int} {fi : Bool} {er : Value} {tr : Value} {hl : Value} {hd : Value} {cl : Nat} {cd : Int} (s : DS) (h : s = ⟨r, rb, ro, b, nb, bt, cb, hv, wr, rd, fu, q0, q1, q2, q3, st, ss, fi, er, tr, hl, hd, cl, cd⟩) : (dcC s)[1051]? = some (hd) := by subst h; exact dc_ghi _ 16 rfl
theorem dc_l400_17 (s : DS) : Nat.blt 1051 (dcC s).size = true := dc_lt s (by decide)
theorem dc_s400_17 {r : Value} {rb : Value} {ro : Int} {b : Int} {nb : Int} {bt : Value} {cb : Value} {hv : Value} {wr : Nat} {rd : Nat} {fu : Bool} {q0 : UInt8} {q1 : UInt8} {q2 : UInt8} {q3 : UInt8} {st : Value} {ss : Int} {fi : Bool} {er : Value} {tr : Value} {hl : Value} {hd : Value} {cl : Nat} {cd : Int} (s : DS) (v : Value) (h : s = ⟨r, rb, ro, b, nb, bt, cb, hv, wr, rd, fu, q0, q1, q2, q3, st, ss, fi, er, tr, hl, hd, cl, cd⟩) : (dcC s).setIfInBounds 1051 (v) = dcC ⟨r, rb, ro, b, nb, bt, cb, hv, wr, rd, fu, q0, q1, q2, q3, st, ss, fi, er, tr, hl, v, cl, cd⟩ := by subst h; exact dc_shi _ _ 16 rfl rfl
theorem dc_g400_18 {r : Value} {rb : Value} {ro : Int} {b : Int} {nb : Int} {bt : Value} {cb : Value} {hv : Value} {wr : Nat} {rd : Nat} {fu : Bool} {q0 : UInt8} {q1 : UInt8} {q2 : UInt8} {q3 : UInt8} {st : Value} {ss : Int} {fi : Bool} {er : Value} {tr : Value} {hl : Value} {hd : Value} {cl : Nat} {cd : Int} (s : DS) (h : s = ⟨r, rb, ro, b, nb, bt, cb, hv, wr, rd, fu, q0, q1, q2, q3, st, ss, fi, er, tr, hl, hd, cl, cd⟩) : (dcC s)[1052]? = some (.int .i64 cl) := by subst h; exact dc_ghi _ 17 rfl
theorem dc_l400_18 (s : DS) : Nat.blt 1052 (dcC s).size = true := dc_lt s (by decide)
theorem dc_s400_18 {r : Value} {rb : Value} {ro : Int} {b : Int} {nb : Int} {bt : Value} {cb : Value} {hv : Value} {wr : Nat} {rd : Nat} {fu : Bool} {q0 : UInt8} {q1 : UInt8} {q2 : UInt8} {q3 : UInt8} {st : Value} {ss : Int} {fi : Bool} {er : Value} {tr : Value} {hl : Value} {hd : Value} {cl : Nat} {cd : Int} (s : DS) (v : Nat) (h : s = ⟨r, rb, ro, b, nb, bt, cb, hv, wr, rd, fu, q0, q1, q2, q3, st, ss, fi, er, tr, hl, hd, cl, cd⟩) : (dcC s).setIfInBounds 1052 (.int .i64 v) = dcC ⟨r, rb, ro, b, nb, bt, cb, hv, wr, rd, fu, q0, q1, q2, q3, st, ss, fi, er, tr, hl, hd, v, cd⟩ := by subst h; exact dc_shi _ _ 17 rfl rfl
theorem dc_g400_19 {r : Value} {rb : Value} {ro : Int} {b : Int} {nb : Int} {bt : Value} {cb : Value} {hv : Value} {wr : Nat} {rd : Nat} {fu : Bool} {q0 : UInt8} {q1 : UInt8} {q2 : UInt8} {q3 : UInt8} {st : Value} {ss : Int} {fi : Bool} {er : Value} {tr : Value} {hl : Value} {hd : Value} {cl : Nat} {cd : Int} (s : DS) (h : s = ⟨r, rb, ro, b, nb, bt, cb, hv, wr, rd, fu, q0, q1, q2, q3, st, ss, fi, er, tr, hl, hd, cl, cd⟩) : (dcC s)[1053]? = some (.int .i64 cd) := by subst h; exact dc_ghi _ 18 rfl
theorem dc_l400_19 (s : DS) : Nat.blt 1053 (dcC s).size = true := dc_lt s (by decide)
theorem dc_s400_19 {r : Value} {rb : Value} {ro : Int} {b : Int} {nb : Int} {bt : Value} {cb : Value} {hv : Value} {wr : Nat} {rd : Nat} {fu : Bool} {q0 : UInt8} {q1 : UInt8} {q2 : UInt8} {q3 : UInt8} {st : Value} {ss : Int} {fi : Bool} {er : Value} {tr : Value} {hl : Value} {hd : Value} {cl : Nat} {cd : Int} (s : DS) (v : Int) (h : s = ⟨r, rb, ro, b, nb, bt, cb, hv, wr, rd, fu, q0, q1, q2, q3, st, ss, fi, er, tr, hl, hd, cl, cd⟩) : (dcC s).setIfInBounds 1053 (.int .i64 v) = dcC ⟨r, rb, ro, b, nb, bt, cb, hv, wr, rd, fu, q0, q1, q2, q3, st, ss, fi, er, tr, hl, hd, cl, v⟩ := by subst h; exact dc_shi _ _ 18 rfl rfl
theorem dc_zero : Tryz.zeroCells400 = dcC ⟨.nilIface, .pointer none, 0, 0, 0, .pointer none, .pointer none, .slice none 0 0, 0, 0, false, 0, 0, 0, 0, .nilFunc, 0, false, .nilIface, .slice none 0 0, .pointer none, .pointer none, 0, 0⟩ := by kernel_rfl
attribute [irreducible] dcC
theorem dc_dict (s : DS) (hv : Value) (wr rd : Nat) (fu : Bool) : setR (dcC s) 1037 [hv, .int .i64 wr, .int .i64 rd, .bool fu] = dcC { s with hv := hv, wr := wr, rd := rd, fu := fu } := by
  show ((((dcC s).setIfInBounds 1037 _).setIfInBounds 1038 _).setIfInBounds 1039 _).setIfInBounds 1040 _ = _
  rw [dc_s396_0 _ _ rfl, dc_s396_1 _ _ rfl, dc_s396_2 _ _ rfl, dc_s396_3 _ _ rfl]
end Go.Proofs.YtolddodhmeaceaaGreatDoor
namespace Go.Hl
variable {P : Program}
theorem e_storeN {d : Option Nat} {ty : TypeId} {ps : String} {af : Array Edge} {gd : Option (Nat × Bool)} {g : GW} {L : List (Nat × Value)} {H Hr : List Atom} {t x y b o v cs cs' e fz m} (ex : ev L x = some (.pointer (some ⟨b, o, none⟩))) (ey : ev L y = some v) (hz : ∀ w, (sizeOf t).run P w = .ok m w) (hm : v.cells.size = m)
    (hv : ∀ u ∈ v.cells.toList, u.oneCell' = true) (p : Part H [blk b (.cells cs e fz)] Hr) (hs : o + m ≤ cs.size) (hf : ∀ k, o ≤ k → k < o + m → ¬ (fz.1 ≤ k ∧ k < fz.2)) (hc : setR cs o v.cells.toList = cs') :
    Op1 P ⟨d, .store t x y, ty, ps, af, gd⟩ g L H (fun u g' H' => u = undef ∧ H' = blk b (.cells cs' e fz) :: Hr) := by
  subst hc; exact e_store ex ey hz hm hv p hs hf
end Go.Hl
namespace Go.Proofs.YtolddodhmeaceaaGreatDoor
open Go.Hl Go.Pk
noncomputable abbrev dcB (db : Nat) (s : DS) : Atom := blk db (.cells (dcC s) 400)
abbrev dcP (db : Nat) : Value := .pointer (some ⟨db, 1037, none⟩)
theorem ct_dictInit (g : GW) (db : Nat) (s : DS) (n : Nat) (hn : n = 32768) :
    Ct Tryz.prog g 202 [dcP db, .int .i64 n, .slice none 0 0] [dcB db { s with hv := .slice none 0 0, wr := 0, rd := 0, fu := false }]
      (fun r _ H' => ∃ hv hist, Shp hv n ∧ hist.length = n ∧ H' = [dcB db { s with hv := hv, wr := 0, rd := 0, fu := false }, own hv 1 5 (bvs hist)]) := by
  refine CI Tryz.func202 Tryz.ntmps202 rfl fun F g0 hg0 => ?_
  refine SR (Lm rfl (Lm rfl (Ln rfl (Lf rfl Tryz.runUnderlying396 rfl Tryz.sizeOf25 rfl (Lp (p_load rfl Tryz.isAgg25 (.head _) (dc_g396_0 _ rfl)) (Lp (p_build (cells := #[.slice none 0 0, .int .i64 0, .int .i64 0, .bool false]) rfl (by kernel_rfl)) (Ln rfl ?_)))))))
  refine TL_k0 (e_storeN rfl rfl Tryz.sizeOf396 rfl (by simp [Value.cells, Value.oneCell']) (K0 .nil) (by rw [dc_size]; decide) (fun k _ _ h => by simp at h) (dc_dict _ _ 0 0 _)) ?_
  rintro _ _ _ - ⟨rfl, rfl⟩
  refine nS (T_seq (SR (Lm rfl (Ln rfl (Lf rfl Tryz.runUnderlying396 rfl Tryz.sizeOf25 rfl (Lp (p_load rfl Tryz.isAgg25 (.head _) (dc_g396_0 _ rfl)) (Lp (p_cap rfl rfl Tryz.runUnderlying25) (Lm rfl (Lp (p_lss rfl rfl) ?_)))))))))
  refine nS (T_condD rfl (fun hc2 => ?_) (fun hc2 => ?_))
  ·
    try dsimp only at hc2
    replace hc2 : (0 : Int) < n := hc2
    refine T_region (Lm rfl (Lm rfl ?_))
    refine Lk (e_make (l := n) (c := n) rfl rfl Tryz.runUnderlying25 Tryz.typeInfo5 rfl rfl rfl (by omega) (by show 1 * _ ≤ _; omega) (by omega)) ?_
    rintro _ _ _ - ⟨h, rfl, rfl⟩
    refine Ln rfl (Lf rfl Tryz.runUnderlying396 rfl Tryz.sizeOf25 rfl (TL_k0 (e_store1 rfl rfl Tryz.sizeOf25 rfl (K1 .nil) (dc_l396_0 _) rfl (dc_s396_0 _ _ rfl)) ?_))
    rintro _ _ _ - ⟨rfl, rfl⟩
    refine nSR (Lm rfl (Lm rfl (Ln rfl (Lf rfl Tryz.runUnderlying396 rfl Tryz.sizeOf25 rfl (Lp (p_load rfl Tryz.isAgg25 (.head _) (dc_g396_0 _ rfl)) (Lm rfl (Lp (p_slH (n := n) (b := n) (.inr ⟨h, 0, n, Nat.le_refl _, rfl⟩) rfl Tryz.runUnderlying25 Tryz.sizeOf5 rfl rfl (Nat.le_refl _) rfl) (Ln rfl (Lf rfl Tryz.runUnderlying396 rfl Tryz.sizeOf25 rfl ?_)))))))))
    refine TL_k0 (e_store1 rfl rfl Tryz.sizeOf25 rfl (K0 .nil) (dc_l396_0 _) rfl (dc_s396_0 _ _ rfl)) ?_
    rintro _ _ _ - ⟨rfl, rfl⟩
    refine nS (T_seq (SR (Lm rfl (Lp (p_lenSl rfl rfl Tryz.runUnderlying25) (Lm rfl (Ln rfl (Lf rfl Tryz.runUnderlying396 rfl Tryz.sizeOf25 rfl (Lp (p_load rfl Tryz.isAgg25 (.head _) (dc_g396_0 _ rfl)) (Lp (p_lenSl rfl rfl Tryz.runUnderlying25) ?_)))))))))
    refine Lp (p_gtr rfl rfl) (nS (T_condD rfl (fun hc6 => ?_) (fun hc6 => ?_)))
    ·
      try dsimp only at hc6
      omega
    ·
      try dsimp only at hc6
      skip
      refine kS (SR (Lm rfl (Lm rfl (Ln rfl (Lf rfl Tryz.runUnderlying396 rfl Tryz.sizeOf25 rfl (Lp (p_load rfl Tryz.isAgg25 (.head _) (dc_g396_0 _ rfl)) (Lm rfl ?_)))))))
      rw [rep_bvs]
      have hsl : sl (.slice (some ⟨h, 0, none⟩) n n) 0 n 1 = .slice (some ⟨h, 0, none⟩) n n := by { rw [sl_some]; simp }
      rw [hsl]
      refine Lk (e_copyB (A := fun ys => own (.slice (some ⟨h, 0, none⟩) n n) 1 5 (bvs ys)) rfl rfl rfl Tryz.runUnderlying25 Tryz.sizeOf5 (src_bytes (Bytes.nil _ _)) (Bf.own 5 (.inr ⟨h, 0, n, Nat.le_refl _, rfl⟩)) (by simp) (K1 .nil)) ?_
      rintro _ _ _ - ⟨rfl, rfl⟩
      have hmn : min ([] : List UInt8).length n = 0 := by { rw [List.length_nil]; omega }
      rw [hmn]
      refine Ln rfl (Lf rfl Tryz.runUnderlying396 rfl Tryz.sizeOf3 rfl (TL_k0 (e_store1 rfl rfl Tryz.sizeOf3 rfl (K1 .nil) (dc_l396_1 _) rfl (dc_s396_1 _ _ rfl)) ?_))
      rintro _ _ _ - ⟨rfl, rfl⟩
      refine nS (T_seq (T_seq (T_regionD 10 Tryz.mixed rfl Part.all (Dp 0 rfl (p_move rfl) (Dp 1 rfl (p_nilCheck rfl) (Dp 2 rfl (p_fieldAddr rfl Tryz.runUnderlying396 rfl Tryz.sizeOf3 rfl) (Dp 3 rfl (p_load rfl Tryz.isAgg3 (.head _) (dc_g396_1 _ rfl)) (Dp 4 rfl (p_move rfl) (Dp 5 rfl (p_nilCheck rfl) ?_)))))))))
      refine Dp 6 rfl (p_fieldAddr rfl Tryz.runUnderlying396 rfl Tryz.sizeOf25 rfl) (Dp 7 rfl (p_load rfl Tryz.isAgg25 (.head _) (dc_g396_0 _ rfl)) (Dp 8 rfl (p_lenSl rfl rfl Tryz.runUnderlying25) (Dp 9 rfl (p_eql rfl rfl) (DD (E_seq (T_condD rfl (fun hc9 => ?_) (fun hc9 => ?_)))))))
      ·
        try dsimp only at hc9
        omega
      ·
        try dsimp only at hc9
        skip
        refine kS (T_region (Lm rfl (Lm rfl (Ln rfl (Lf rfl Tryz.runUnderlying396 rfl Tryz.sizeOf3 rfl (Lp (p_load rfl Tryz.isAgg3 (.head _) (dc_g396_1 _ rfl)) (Ln rfl (Lf rfl Tryz.runUnderlying396 rfl Tryz.sizeOf3 rfl (TL_k0 (e_store1 rfl rfl Tryz.sizeOf3 rfl (K0 .nil) (dc_l396_2 _) rfl (dc_s396_2 _ _ rfl)) ?_)))))))))
        rintro _ _ _ - ⟨rfl, rfl⟩
        refine TL_nil (E_end0 [_, _] rfl (.refl _) (K0 (K0 (K0 .nil))) (fun g' hl => ?_))
        exact ⟨.slice (some ⟨h, 0, none⟩) n n, List.replicate n 0, .inr ⟨h, 0, n, Nat.le_refl _, rfl⟩, by simp, by simp⟩
  ·
    try dsimp only at hc2
    omega
theorem ct_readFlush (g : GW) (db : Nat) (s : DS) (h1 : s.rd ≤ s.wr) (h2 : s.wr ≤ 32768) (hv : Shp s.hv 32768) :
    Ct Tryz.prog g 212 [dcP db] [dcB db s]
      (fun r _ H' => ∃ wr fu, r = sl s.hv s.rd s.wr 1 ∧ wr < 32768 ∧ H' = [dcB db { s with wr := wr, rd := wr, fu := fu }]) := by
  refine CI Tryz.func212 Tryz.ntmps212 rfl fun F g0 hg0 => ?_
  refine SR (La rfl (nS (T_seq (T_regionD 14 Tryz.mixed rfl Part.all (Dp 0 rfl (p_move rfl) (Dp 1 rfl (p_nilCheck rfl) (Dp 2 rfl (p_fieldAddr rfl Tryz.runUnderlying396 rfl Tryz.sizeOf25 rfl) (Dp 3 rfl (p_load rfl Tryz.isAgg25 (.head _) (dc_g396_0 _ rfl)) (Dp 4 rfl (p_move rfl) ?_)))))))))
  refine Dp 5 rfl (p_nilCheck rfl) (Dp 6 rfl (p_fieldAddr rfl Tryz.runUnderlying396 rfl Tryz.sizeOf3 rfl) (Dp 7 rfl (p_load rfl Tryz.isAgg3 (.head _) (dc_g396_2 _ rfl)) (Dp 8 rfl (p_move rfl) (Dp 9 rfl (p_nilCheck rfl) (Dp 10 rfl (p_fieldAddr rfl Tryz.runUnderlying396 rfl Tryz.sizeOf3 rfl) (Dp 11 rfl (p_load rfl Tryz.isAgg3 (.head _) (dc_g396_1 _ rfl)) (Dp 12 rfl (p_slLH hv rfl Tryz.runUnderlying25 Tryz.sizeOf5 rfl rfl rfl rfl h1 h2 rfl) (Dp 13 rfl (p_assign rfl) (DD ?_)))))))))
  refine E_seq (SR (Lm rfl (Lm rfl (Ln rfl (Lf rfl Tryz.runUnderlying396 rfl Tryz.sizeOf3 rfl (Lp (p_load rfl Tryz.isAgg3 (.head _) (dc_g396_1 _ rfl)) (Ln rfl (Lf rfl Tryz.runUnderlying396 rfl Tryz.sizeOf3 rfl (TL_k0 (e_store1 rfl rfl Tryz.sizeOf3 rfl (K0 .nil) (dc_l396_2 _) rfl (dc_s396_2 _ _ rfl)) ?_)))))))))
  rintro _ _ _ - ⟨rfl, rfl⟩
  refine nS (T_seq (T_seq (T_regionD 10 Tryz.mixed rfl Part.all (Dp 0 rfl (p_move rfl) (Dp 1 rfl (p_nilCheck rfl) (Dp 2 rfl (p_fieldAddr rfl Tryz.runUnderlying396 rfl Tryz.sizeOf3 rfl) (Dp 3 rfl (p_load rfl Tryz.isAgg3 (.head _) (dc_g396_1 _ rfl)) (Dp 4 rfl (p_move rfl) (Dp 5 rfl (p_nilCheck rfl) ?_)))))))))
  refine Dp 6 rfl (p_fieldAddr rfl Tryz.runUnderlying396 rfl Tryz.sizeOf25 rfl) (Dp 7 rfl (p_load rfl Tryz.isAgg25 (.head _) (dc_g396_0 _ rfl)) (Dp 8 rfl (p_len hv rfl rfl Tryz.runUnderlying25) (Dp 9 rfl (p_eql rfl rfl) (DD (E_seq (T_condD rfl (fun hc2 => ?_) (fun hc2 => ?_)))))))
  ·
    try dsimp only at hc2
    skip
    refine SR (Lm rfl (Lm rfl (Ln rfl (Lf rfl Tryz.runUnderlying396 rfl Tryz.sizeOf3 rfl (TL_k0 (e_store1 rfl rfl Tryz.sizeOf3 rfl (K0 .nil) (dc_l396_1 _) rfl (dc_s396_1 _ _ rfl)) ?_)))))
    rintro _ _ _ - ⟨rfl, rfl⟩
    refine Ln rfl (Lf rfl Tryz.runUnderlying396 rfl Tryz.sizeOf3 rfl (TL_k0 (e_store1 rfl rfl Tryz.sizeOf3 rfl (K0 .nil) (dc_l396_2 _) rfl (dc_s396_2 _ _ rfl)) ?_))
    rintro _ _ _ - ⟨rfl, rfl⟩
    refine nR (Lm rfl (Ln rfl (Lf rfl Tryz.runUnderlying396 rfl Tryz.sizeOf4 rfl (TL_k0 (e_store1 rfl rfl Tryz.sizeOf4 rfl (K0 .nil) (dc_l396_3 _) rfl (dc_s396_3 _ _ rfl)) ?_))))
    rintro _ _ _ - ⟨rfl, rfl⟩
    refine nSR (Lm rfl (La rfl (nr (E_ret1 [_] rfl (.refl _) rfl (K0 (K0 .nil)) (fun g' hl => ?_)))))
    exact ⟨0, true, rfl, by omega, rfl⟩
  ·
    try dsimp only at hc2
    skip
    refine kS (SR (Lm rfl (La rfl (nr (E_ret1 [_] rfl (.refl _) rfl (K0 (K0 .nil)) (fun g' hl => ?_))))))
    exact ⟨s.wr, s.fu, rfl, by omega, rfl⟩
theorem ct_availWrite (g : GW) (db : Nat) (s : DS) (h2 : s.wr ≤ 32768) (hv : Shp s.hv 32768) :
    Ct Tryz.prog g 218 [dcP db] [dcB db s] (fun r _ H' => ∃ z : Int, z = 32768 - (s.wr : Int) ∧ r = .int .i64 z ∧ H' = [dcB db s]) := by
  refine CI Tryz.func218 Tryz.ntmps218 rfl fun F g0 hg0 => ?_
  refine SR (La rfl (nS (T_seq (T_regionD 11 Tryz.mixed rfl Part.all (Dp 0 rfl (p_move rfl) (Dp 1 rfl (p_nilCheck rfl) (Dp 2 rfl (p_fieldAddr rfl Tryz.runUnderlying396 rfl Tryz.sizeOf25 rfl) (Dp 3 rfl (p_load rfl Tryz.isAgg25 (.head _) (dc_g396_0 _ rfl)) (Dp 4 rfl (p_len hv rfl rfl Tryz.runUnderlying25) ?_)))))))))
  refine Dp 5 rfl (p_move rfl) (Dp 6 rfl (p_nilCheck rfl) (Dp 7 rfl (p_fieldAddr rfl Tryz.runUnderlying396 rfl Tryz.sizeOf3 rfl) (Dp 8 rfl (p_load rfl Tryz.isAgg3 (.head _) (dc_g396_1 _ rfl)) (Dp 9 rfl (p_sub rfl rfl (wr64 (by omega) (by omega))) (Dp 10 rfl (p_assign rfl) (DD (E_seq (T_ret (E_ret1 [_] rfl (.refl _) rfl (K0 (K0 .nil)) (fun g' hl => ?_))))))))))
  exact ⟨_, rfl, rfl, rfl⟩
theorem ct_availRead (g : GW) (db : Nat) (s : DS) (h1 : s.rd ≤ s.wr) (h2 : s.wr ≤ 32768) :
    Ct Tryz.prog g 223 [dcP db] [dcB db s] (fun r _ H' => ∃ z : Int, z = (s.wr : Int) - (s.rd : Int) ∧ r = .int .i64 z ∧ H' = [dcB db s]) := by
  refine CI Tryz.func223 Tryz.ntmps223 rfl fun F g0 hg0 => ?_
  refine SR (La rfl (nS (T_seq (T_regionD 10 Tryz.mixed rfl Part.all (Dp 0 rfl (p_move rfl) (Dp 1 rfl (p_nilCheck rfl) (Dp 2 rfl (p_fieldAddr rfl Tryz.runUnderlying396 rfl Tryz.sizeOf3 rfl) (Dp 3 rfl (p_load rfl Tryz.isAgg3 (.head _) (dc_g396_1 _ rfl)) (Dp 4 rfl (p_move rfl) ?_)))))))))
  refine Dp 5 rfl (p_nilCheck rfl) (Dp 6 rfl (p_fieldAddr rfl Tryz.runUnderlying396 rfl Tryz.sizeOf3 rfl) (Dp 7 rfl (p_load rfl Tryz.isAgg3 (.head _) (dc_g396_2 _ rfl)) (Dp 8 rfl (p_sub rfl rfl (wr64 (by omega) (by omega))) (Dp 9 rfl (p_assign rfl) (DD (E_seq (T_ret (E_ret1 [_] rfl (.refl _) rfl (K0 (K0 .nil)) (fun g' hl => ?_)))))))))
  exact ⟨_, rfl, rfl, rfl⟩
theorem ct_writeSlice (g : GW) (db : Nat) (s : DS) (h2 : s.wr ≤ 32768) (hv : Shp s.hv 32768) :
    Ct Tryz.prog g 224 [dcP db] [dcB db s] (fun r _ H' => r = sl s.hv s.wr 32768 1 ∧ H' = [dcB db s]) := by
  refine CI Tryz.func224 Tryz.ntmps224 rfl fun F g0 hg0 => ?_
  refine SR (La rfl (nS (T_seq (T_regionD 10 Tryz.mixed rfl Part.all (Dp 0 rfl (p_move rfl) (Dp 1 rfl (p_nilCheck rfl) (Dp 2 rfl (p_fieldAddr rfl Tryz.runUnderlying396 rfl Tryz.sizeOf25 rfl) (Dp 3 rfl (p_load rfl Tryz.isAgg25 (.head _) (dc_g396_0 _ rfl)) (Dp 4 rfl (p_move rfl) ?_)))))))))
  refine Dp 5 rfl (p_nilCheck rfl) (Dp 6 rfl (p_fieldAddr rfl Tryz.runUnderlying396 rfl Tryz.sizeOf3 rfl) (Dp 7 rfl (p_load rfl Tryz.isAgg3 (.head _) (dc_g396_1 _ rfl)) (Dp 8 rfl (p_slL hv rfl Tryz.runUnderlying25 Tryz.sizeOf5 rfl rfl h2 rfl) (Dp 9 rfl (p_assign rfl) (DD (E_seq (T_ret (E_ret1 [_] rfl (.refl _) rfl (K0 (K0 .nil)) (fun g' hl => ?_)))))))))
  exact ⟨rfl, rfl⟩
theorem ct_writeMark (g : GW) (db : Nat) (s : DS) (k : Nat) (h2 : s.wr + k ≤ 32768) :
    Ct Tryz.prog g 225 [dcP db, .int .i64 k] [dcB db s] (fun r _ H' => H' = [dcB db { s with wr := s.wr + k }]) := by
  refine CI Tryz.func225 Tryz.ntmps225 rfl fun F g0 hg0 => ?_
  refine T_region (Lm rfl (Ln rfl (Lf rfl Tryz.runUnderlying396 rfl Tryz.sizeOf3 rfl (Lp (p_load rfl Tryz.isAgg3 (.head _) (dc_g396_1 _ rfl)) (Lm rfl ?_)))))
  refine Lp (p_add rfl rfl ((show IntKind.i64.wrap ((s.wr : Int) + (k : Int)) = ((s.wr + k : Nat) : Int) from by rw [wr64 (by omega) (by omega)]; omega))) ?_
  refine Ln rfl (Lf rfl Tryz.runUnderlying396 rfl Tryz.sizeOf3 rfl (TL_k0 (e_store1 rfl rfl Tryz.sizeOf3 rfl (K0 .nil) (dc_l396_1 _) rfl (dc_s396_1 _ _ rfl)) ?_))
  rintro _ _ _ - ⟨rfl, rfl⟩
  refine TL_nil (E_end0 [_] rfl (.refl _) (K0 (K0 .nil)) (fun g' hl => ?_))
  exact rfl
end Go.Proofs.YtolddodhmeaceaaGreatDoor
namespace Go.Proofs.YtolddodhmeaceaaGreatDoor
open Go.Hl Go.Pk
def win (h : List UInt8) (a b : Nat) : List UInt8 := (h.drop a).take (b - a)
abbrev FV (f : Nat) : Value := .func (.func f) #[] #[]
abbrev stepN : Value := FV 201
abbrev stepC : Value := FV 214
theorem sl_sl {v : Value} {n a k : Nat} (hv : Shp v n) (h : a + k ≤ n) : sl (sl v a n 1) 0 k 1 = sl v a (a + k) 1 := by
  rcases hv with ⟨p0, cap, rfl, rfl, rfl | rfl⟩ | ⟨b, o, cap, hc, rfl⟩
  · obtain rfl : a = 0 := by omega
    obtain rfl : k = 0 := by omega
    simp [sl]
  · obtain rfl : a = 0 := by omega
    obtain rfl : k = 0 := by omega
    simp [sl]
  · rw [sl_some, sl_some, sl_some]
    simp
structure Dk (x : Fx) (hv : Value) (s : DS) (hist : List UInt8) (a b : Nat) : Prop where
  r : s.r = srV x
  nb : s.nb = 0
  bb : s.b = 0
  hve : s.hv = hv
  sh : Shp hv 32768
  hl : hist.length = 32768
  rw : s.rd ≤ s.wr
  w : s.wr ≤ 32768
  ab : a ≤ b
  bl : b ≤ 32768
  tr : a < b → s.tr = sl hv a b 1
  sp : Shp s.tr (b - a)
/-- The stream goes on: t is still to be read of it, behind what waits. -/
def FGo (x : Fx) (N : Nat) (X : List UInt8) (s : DS) (pos : Nat) (t : List UInt8) : Prop :=
  s.er = .nilIface ∧ s.wr < 32768 ∧ ((s.st = stepN ∧ Pre x.C N pos (blocks t ++ X)) ∨
    (s.st = stepC ∧ s.cl ≤ t.length ∧ Pre x.C N pos (t.take s.cl ++ ((if s.fi = true then [] else blocks (t.drop s.cl)) ++ X)) ∧ (s.fi = true → s.cl = t.length)))
def FEnd (x : Fx) (N : Nat) (X : List UInt8) (s : DS) (pos : Nat) (t : List UInt8) : Prop := s.er = EVal ES x.eE ∧ t = [] ∧ s.rd = s.wr ∧ Pre x.C N pos X
def FBad (x : Fx) (s : DS) : Prop := s.er = EVal ES x.uE
theorem ct_noEOF (g : GW) (x : Fx) (hx : FxOk g x) (er : Value) (he : ErE x er) : Ct Tryz.prog g 211 [er] [] (fun r _ H' => r = EVal ES x.uE ∧ H' = []) := by
  obtain ⟨f1, f2, hf1, hf2, hf3, hf4⟩ := es_facts
  refine CI Tryz.func211 Tryz.ntmps211 rfl fun F g0 hg0 => ?_
  replace hx := hx.mono hg0
  refine SR (La rfl (nS (T_seq (SR (Lm rfl (Lp (p_loadF rfl Tryz.isAgg64 hx.env.eof) (Lp (p_eqlER (t := ES) (Er.errN (Q := False) (.inr (hx.ofE he))) hx.env.peof rfl rfl Tryz.underlying64 Tryz.underlying272 hf1 hf2 hf3 hf4) (nS (T_cond rfl (fun hc1 => ?_) (fun hc1 => ?_))))))))))
  ·
    skip
    refine SR (Lp (p_loadF rfl Tryz.isAgg64 hx.env.ueof) (La rfl (nr (E_seq_ret (E_ret1 [] rfl (.refl _) rfl (K0 .nil) (fun g' hl => ?_))))))
    exact ⟨rfl, rfl⟩
  ·
    have hee := he.resolve_left (isB_f hc1)
    refine kS (SR (Lm rfl (La rfl (nr (E_ret1 [] rfl (.refl _) rfl (K0 .nil) (fun g' hl => ?_))))))
    exact ⟨hee, rfl⟩
theorem or0 : ∀ c : Nat, c < 256 → bitsOf .or .u32 0 (IntKind.u32.wrap ((c : Int) * 2 ^ 0)) = (c : Int) := by decide
theorem ct_moreBits (g : GW) (x : Fx) (hx : FxOk g x) (s0 : St) (pos : Nat) (hs : StOk x s0 pos) (db : Nat) (s : DS) (hr : s.r = srV x) (hb : s.b = 0) (hnb : s.nb = 0) :
    Ct Tryz.prog g 206 [.pointer (some ⟨db, 0, none⟩)] (dcB db s :: stA x s0 pos)
      (fun v _ H' => ∃ (s' : St) (p' : Nat) (c : UInt8) (ro b nb : Int), StOk x s' p' ∧ pos ≤ p' ∧ ((v = EVal ES x.uE ∧ b = 0 ∧ nb = 0) ∨ (v = .nilIface ∧ pos < x.C.length ∧ x.C[pos]? = some c ∧ p' = pos + 1 ∧ b = c.toNat ∧ nb = 8)) ∧ H' = dcB db { s with ro := ro, b := b, nb := nb } :: stA x s' p') := by
  have hpl := hs.le
  obtain ⟨r, rb, ro, b0, nb, bt, cb, hv, wr, rd, fu, q0, q1, q2, q3, st, ss, fi, er, tr, hl, hd, cl, cd⟩ := s
  dsimp only at hr hb hnb
  subst hr hb hnb
  refine CI Tryz.func206 Tryz.ntmps206 rfl fun F g0 hg0 => ?_
  replace hx := hx.mono hg0
  refine SR (La rfl (nSR (Lm rfl (Ln rfl (Lf rfl Tryz.runUnderlying400 rfl Tryz.sizeOf349 rfl (Lp (p_load rfl Tryz.isAgg349 (.head _) (dc_g400_0 _ rfl)) (Lk (e_invoke rfl (fun w => by kernel_rfl) rfl (ct_srReadByte g0 x hx s0 pos hs) (K1 (K1 (K1 (K1 (K1 (K1 (K1 .nil)))))))) ?_)))))))
  rintro _ _ _ - ⟨_, rfl, ⟨s2, p2, u, er2, rfl, h1, h2, h4, rfl⟩⟩
  refine Lm rfl (Lx rfl rfl (Lx rfl rfl (La rfl (La rfl (nS (T_seq (SR ?_)))))))
  obtain ⟨hec1, hec2, hin⟩ := er_eof hpl (fun h => (h2 h).1) (fun h => (h1 h).1)
  have hu256 := u8lt u
  refine Lm rfl (Lp (p_neqE0 hin rfl Tryz.underlying64) (nS (T_condNB rfl (fun hc2 => ?_) (fun hc2 => ?_))))
  ·
    try dsimp only at hc2
    have hee := hec2 (isB_f hc2)
    refine SR (Lm rfl (Lk (e_call rfl (ct_noEOF g0 x hx _ (.inl (h2 hee).1)) .nil) ?_))
    rintro _ _ _ - ⟨_, rfl, ⟨rfl, rfl⟩⟩
    refine La rfl (nr (E_seq_ret (E_ret1 [_, _, _, _, _, _, _, _] rfl (.refl _) rfl (K7 (K0 (K0 (K0 (K0 (K0 (K0 (K0 (K0 .nil))))))))) (fun g' hl => ?_))))
    exact ⟨s2, p2, u, ro, 0, 0, h4, by rw [(h2 hee).2]; exact Nat.le_refl _, .inl ⟨rfl, rfl, rfl⟩, rfl⟩
  ·
    try dsimp only at hc2
    have hee := hec1 (isB_t hc2)
    obtain ⟨-, h12, rfl⟩ := h1 hee
    refine kS (SR (Lm rfl (Ln rfl (Lf rfl Tryz.runUnderlying400 rfl Tryz.sizeOf2 rfl (Lp (p_load rfl Tryz.isAgg2 (.tail _ (.tail _ (.tail _ (.tail _ (.tail _ (.tail _ (.tail _ (.head _)))))))) (dc_g400_2 _ rfl)) (Lp (p_add rfl rfl (rfl)) (Ln rfl (Lf rfl Tryz.runUnderlying400 rfl Tryz.sizeOf2 rfl (TL_k0 (e_store1 rfl rfl Tryz.sizeOf2 rfl (K7 .nil) (dc_l400_2 _) rfl (dc_s400_2 _ _ rfl)) ?_)))))))))
    rintro _ _ _ - ⟨rfl, rfl⟩
    refine nS (T_seq (T_regionD 14 Tryz.mixed rfl Part.all (Dp 0 rfl (p_move rfl) (Dp 1 rfl (p_nilCheck rfl) (Dp 2 rfl (p_fieldAddr rfl Tryz.runUnderlying400 rfl Tryz.sizeOf29 rfl) (Dp 3 rfl (p_load rfl Tryz.isAgg29 (.head _) (dc_g400_3 _ rfl)) (Dp 4 rfl (p_move rfl) (Dp 5 rfl (p_conv rfl Tryz.runUnderlying5 Tryz.runUnderlying29 (wrU32 (by omega) (by omega))) (Dp 6 rfl (p_move rfl) ?_)))))))))
    refine Dp 7 rfl (p_nilCheck rfl) (Dp 8 rfl (p_fieldAddr rfl Tryz.runUnderlying400 rfl Tryz.sizeOf103 rfl) (Dp 9 rfl (p_load rfl Tryz.isAgg103 (.head _) (dc_g400_4 _ rfl)) (Dp 10 rfl (p_shl rfl rfl (show (0 : Int) ≤ 0 from by decide) rfl rfl) (Dp 11 rfl (p_or rfl rfl (or0 u.toNat hu256)) (Dq 12 rfl (fun _ => p_nilCheck rfl) (Dp 13 rfl (p_fieldAddr rfl Tryz.runUnderlying400 rfl Tryz.sizeOf29 rfl) (DB rfl (e_store1 rfl rfl Tryz.sizeOf29 rfl (K0 .nil) (dc_l400_3 _) rfl (dc_s400_3 _ _ rfl)) ?_)))))))
    rintro _ _ _ - ⟨rfl, rfl⟩
    refine TA_done (by kernel_rfl) (E_seq (SR (Lm rfl (Ln rfl (Lf rfl Tryz.runUnderlying400 rfl Tryz.sizeOf103 rfl (Lp (p_load rfl Tryz.isAgg103 (.head _) (dc_g400_4 _ rfl)) (Lp (p_add rfl rfl (rfl)) (Ln rfl (Lf rfl Tryz.runUnderlying400 rfl Tryz.sizeOf103 rfl ?_)))))))))
    refine TL_k0 (e_store1 rfl rfl Tryz.sizeOf103 rfl (K0 .nil) (dc_l400_4 _) rfl (dc_s400_4 _ _ rfl)) ?_
    rintro _ _ _ - ⟨rfl, rfl⟩
    refine nSR (La rfl (nr (E_ret1 [_, _, _, _, _, _, _, _] rfl (.refl _) rfl (K0 (K0 (K0 (K0 (K0 (K0 (K0 (K0 (K0 .nil))))))))) (fun g' hl => ?_))))
    exact ⟨s2, pos + 1, u, _, _, _, h4, by omega, .inr ⟨rfl, hee, h12, rfl, rfl, rfl⟩, rfl⟩
theorem ct_finishBlock (g : GW) (x : Fx) (hx : FxOk g x) (db : Nat) (s : DS) (h1 : s.rd ≤ s.wr) (h2 : s.wr ≤ 32768) (hv : Shp s.hv 32768) :
    Ct Tryz.prog g 213 [.pointer (some ⟨db, 0, none⟩)] [dcB db s]
      (fun _ _ H' => ∃ s', H' = [dcB db s'] ∧ ((s.fi = false ∧ s' = { s with st := stepN }) ∨
        (s.fi = true ∧ s.rd < s.wr ∧ ∃ wr fu, wr < 32768 ∧ s' = { s with wr := wr, rd := wr, fu := fu, tr := sl s.hv s.rd s.wr 1, er := EVal ES x.eE, st := stepN }) ∨
        (s.fi = true ∧ s.rd = s.wr ∧ s' = { s with er := EVal ES x.eE, st := stepN }))) := by
  refine CI Tryz.func213 Tryz.ntmps213 rfl fun F g0 hg0 => ?_
  replace hx := hx.mono hg0
  refine T_cut (ι := DS) (fun s' _ => (s.fi = false ∧ s' = s) ∨ (s.fi = true ∧ s.rd < s.wr ∧ ∃ wr fu, wr < 32768 ∧ s' = { s with wr := wr, rd := wr, fu := fu, tr := sl s.hv s.rd s.wr 1, er := EVal ES x.eE }) ∨ (s.fi = true ∧ s.rd = s.wr ∧ s' = { s with er := EVal ES x.eE })) (fun _ => [(0, .pointer (some ⟨db, 0, none⟩))]) (fun y => [dcB db y, F]) ?_ ?_
  ·
    refine SR (Lm rfl (Ln rfl (Lf rfl Tryz.runUnderlying400 rfl Tryz.sizeOf4 rfl (Lp (p_load rfl Tryz.isAgg4 (.head _) (dc_g400_13 _ rfl)) (nS (T_cond rfl (fun hc1 => ?_) (fun hc1 => ?_)))))))
    ·
      try dsimp only at hc1
      skip
      refine T_cut (ι := DS) (fun s' _ => (s.rd < s.wr ∧ ∃ wr fu, wr < 32768 ∧ s' = { s with wr := wr, rd := wr, fu := fu, tr := sl s.hv s.rd s.wr 1 }) ∨ (s.rd = s.wr ∧ s' = s)) (fun _ => [(0, .pointer (some ⟨db, 0, none⟩))]) (fun y => [dcB db y, F]) ?_ ?_
      ·
        refine SR (Lm rfl (Ln rfl (Lf rfl Tryz.runUnderlying400 rfl Tryz.sizeOf396 rfl (Lk (e_call rfl (ct_availRead g0 db s h1 h2) (K0 .nil)) ?_))))
        rintro _ _ _ - ⟨_, rfl, ⟨z, hz, rfl, rfl⟩⟩
        refine Lp (p_gtr rfl rfl) (nS (T_condD rfl (fun hc3 => ?_) (fun hc3 => ?_)))
        ·
          try dsimp only at hc3
          skip
          refine T_region (Lm rfl (Lm rfl (Ln rfl (Lf rfl Tryz.runUnderlying400 rfl Tryz.sizeOf396 rfl (Lk (e_call rfl (ct_readFlush g0 db s h1 h2 hv) (K0 .nil)) ?_)))))
          rintro _ _ _ - ⟨_, rfl, ⟨wr, fu, rfl, hwr, rfl⟩⟩
          refine Ln rfl (Lf rfl Tryz.runUnderlying400 rfl Tryz.sizeOf25 rfl (TL_k0 (e_store1 rfl rfl Tryz.sizeOf25 (Shp.one ((hv.sl h1 h2))) (K0 .nil) (dc_l400_15 _) rfl (dc_s400_15 _ _ rfl)) ?_))
          rintro _ _ _ - ⟨rfl, rfl⟩
          refine TL_nil (EC (.refl _) (_) ?hI (K0 (K0 .nil)))
          case hI => intro g' hl; exact .inl ⟨by omega, _, _, hwr, rfl⟩
        ·
          try dsimp only at hc3
          skip
          refine T_skip (EC (.refl _) (_) ?hI (K0 (K0 .nil)))
          case hI => intro g' hl; exact .inr ⟨by omega, rfl⟩
      ·
        rintro s2 gD hlgD hI2
        refine T_region (Lm rfl (Lp (p_loadF rfl Tryz.isAgg64 (hx.env.eof.mono hlgD)) (Ln rfl (Lf rfl Tryz.runUnderlying400 rfl Tryz.sizeOf64 rfl (TL_k0 (e_store1 rfl rfl Tryz.sizeOf64 rfl (K0 .nil) (dc_l400_14 _) rfl (dc_s400_14 _ _ rfl)) ?_)))))
        rintro _ _ _ - ⟨rfl, rfl⟩
        refine TL_nil (EC hlgD (_) ?hI (K0 (K0 .nil)))
        case hI => intro g' hl; exact (by rcases hI2 with ⟨h, wr, fu, hw, rfl⟩ | ⟨h, rfl⟩; exact .inr (.inl ⟨(by assumption), h, wr, fu, hw, rfl⟩); exact .inr (.inr ⟨(by assumption), h, rfl⟩))
    ·
      try dsimp only at hc1
      skip
      refine T_skip (EC (.refl _) (_) ?hI (K0 (K0 .nil)))
      case hI => intro g' hl; exact .inl ⟨by simpa using (by assumption), rfl⟩
  ·
    rintro s1 gC hlgC hI
    refine T_region (Lm rfl (Ln rfl (Lf rfl Tryz.runUnderlying400 rfl Tryz.sizeOf397 rfl (TL_k0 (e_store1 rfl rfl Tryz.sizeOf397 rfl (K0 .nil) (dc_l400_11 _) rfl (dc_s400_11 _ _ rfl)) ?_))))
    rintro _ _ _ - ⟨rfl, rfl⟩
    refine TL_nil (E_end0 [_] rfl hlgC (K0 (K0 .nil)) (fun g' hl => ?_))
    exact ⟨_, rfl, by rcases hI with ⟨h, rfl⟩ | ⟨h, h3, wr, fu, hw, rfl⟩ | ⟨h, h3, rfl⟩; exact .inl ⟨h, rfl⟩; exact .inr (.inl ⟨h, h3, wr, fu, hw, rfl⟩); exact .inr (.inr ⟨h, h3, rfl⟩)⟩
end Go.Proofs.YtolddodhmeaceaaGreatDoor
namespace Go.Proofs.YtolddodhmeaceaaGreatDoor
open Go.Hl Go.Pk
/-- What a step leaves. -/
def StepR (x : Fx) (N : Nat) (X : List UInt8) (hv : Value) (db : Nat) (s : DS) (hist : List UInt8) (pos : Nat) (t : List UInt8) (cc : Prop) (H' : List Atom) : Prop :=
  ∃ (s' : DS) (hist' : List UInt8) (a' b' pos' : Nat) (st' : St), StOk x st' pos' ∧ Dk x hv s' hist' a' b' ∧ pos ≤ pos' ∧
    ((FBad x s' ∧ (b' - a') + (s'.wr - s'.rd) ≤ (s.wr - s.rd) + t.length) ∨ ∃ t', (FGo x N X s' pos' t' ∨ FEnd x N X s' pos' t') ∧ win hist' a' b' ++ win hist' s'.rd s'.wr ++ t' = win hist s.rd s.wr ++ t ∧ (s'.er ≠ .nilIface ∨ pos < pos' ∨ (cc ∧ s'.st = stepN))) ∧
    H' = dcB db s' :: own hv 1 5 (bvs hist') :: stA x st' pos'
theorem win_nil (h : List UInt8) (a : Nat) : win h a a = [] := by unfold win; rw [Nat.sub_self, List.take_zero]
theorem win_ext {h ys : List UInt8} {rd wr k : Nat} (h1 : rd ≤ wr) (h2 : wr + k ≤ h.length) (hy : ys.length = k) : win (h.take wr ++ ys ++ h.drop (wr + k)) rd (wr + k) = win h rd wr ++ ys := by
  unfold win
  have e1 : (h.take wr).length = wr := by rw [List.length_take]; omega
  rw [List.append_assoc, List.drop_append_of_le_length (by omega), List.drop_take]
  have e2 : ((h.drop rd).take (wr - rd)).length = wr - rd := by rw [List.length_take, List.length_drop]; omega
  rw [← List.append_assoc, List.take_append_of_le_length (by rw [List.length_append, e2]; omega), List.take_of_length_le (by rw [List.length_append, e2]; omega)]
theorem len_ext {h ys : List UInt8} {wr k : Nat} (h2 : wr + k ≤ h.length) (hy : ys.length = k) : (h.take wr ++ ys ++ h.drop (wr + k)).length = h.length := by
  simp only [List.length_append, List.length_take, List.length_drop]; omega
theorem cp_pre {C t R : List UInt8} {N pos cl k : Nat} (hP : Pre C N pos (t.take cl ++ R)) (hk : k ≤ cl) (hcl : cl ≤ t.length) (hl : pos + k ≤ C.length) :
    (C.drop pos).take k = t.take k ∧ Pre C N (pos + k) ((t.drop k).take (cl - k) ++ R) := by
  have e : t.take cl = t.take k ++ (t.drop k).take (cl - k) := by
    rw [← List.take_add, Nat.add_sub_cancel' hk]
  have e2 : (t.take k).length = k := by rw [List.length_take]; omega
  rw [e, List.append_assoc] at hP
  have := hP.app (by rw [e2]; exact hl)
  rw [e2] at this
  exact this
theorem cp_flush {g : GW} {x : Fx} (hx : FxOk g x) {s0 s2 : St} {pos N k wr rd wr2 cl db : Nat} {X hist t : List UInt8} (hs : StOk x s0 pos) (h3 : StOk x s2 (pos + k)) {hv rb bt cb tr hl hd st : Value} {ro ro' ss cd : Int} {fu fu2 fi : Bool} {q0 q1 q2 q3 : UInt8} {H' : List Atom}
    (k5 : Shp hv 32768) (k6 : hist.length = 32768) (k7 : rd ≤ wr) (hk1 : k ≤ 32768 - wr) (hk2 : k ≤ cl) (hcl : cl ≤ t.length) (hlen : pos + k ≤ x.C.length) (hyt : (x.C.drop pos).take k = t.take k)
    (hP2 : Pre x.C N (pos + k) ((t.drop k).take (cl - k) ++ ((if fi = true then [] else blocks (t.drop cl)) ++ X))) (hfi : fi = true → cl = t.length) (hwr2 : wr2 < 32768) (hk : 0 < k)
    (hH : H' = dcB db ⟨srV x, rb, ro', 0, 0, bt, cb, hv, wr2, wr2, fu2, q0, q1, q2, q3, stepC, ss, fi, .nilIface, sl hv rd (wr + k) 1, hl, hd, cl - k, cd⟩ :: own hv 1 5 (bvs (hist.take wr ++ (x.C.drop pos).take k ++ hist.drop (wr + k))) :: stA x s2 (pos + k)) :
    StepR x N X hv db ⟨srV x, rb, ro, 0, 0, bt, cb, hv, wr, rd, fu, q0, q1, q2, q3, st, ss, fi, .nilIface, tr, hl, hd, cl, cd⟩ hist pos t True H' := by
  have hyl : ((x.C.drop pos).take k).length = k := by rw [List.length_take, List.length_drop]; omega
  refine ⟨_, _, rd, wr + k, _, s2, h3, ⟨rfl, rfl, rfl, rfl, k5, (len_ext (by omega) hyl).trans k6, Nat.le_refl _, Nat.le_of_lt hwr2, by omega, by omega, fun _ => rfl, k5.sl (by omega) (by omega)⟩, Nat.le_add_right _ _, .inr ⟨t.drop k, .inl ⟨rfl, hwr2, .inr ⟨rfl, ?_, ?_, ?_⟩⟩, ?_, .inr (.inl (by omega))⟩, hH⟩
  · show cl - k ≤ _
    rw [List.length_drop]; omega
  · show Pre x.C N (pos + k) ((t.drop k).take (cl - k) ++ ((if fi = true then [] else blocks ((t.drop k).drop (cl - k))) ++ X))
    rw [List.drop_drop, show k + (cl - k) = cl from by omega]
    exact hP2
  · intro h
    have := hfi h
    show cl - k = _
    rw [List.length_drop]; omega
  · show win _ rd (wr + k) ++ win _ wr2 wr2 ++ t.drop k = win hist rd wr ++ t
    rw [win_nil, List.append_nil, win_ext k7 (by omega) hyl, hyt, List.append_assoc, List.take_append_drop]
theorem cp_fin {g : GW} {x : Fx} (hx : FxOk g x) {s0 s2 : St} {pos N k wr rd cl db a : Nat} {X hist t : List UInt8} (hs : StOk x s0 pos) (h3 : StOk x s2 (pos + k)) {hv rb bt cb tr hl hd st : Value} {ro ro' ss cd : Int} {fu fi : Bool} {q0 q1 q2 q3 : UInt8} {s9 : DS} {H' : List Atom}
    (k5 : Shp hv 32768) (k6 : hist.length = 32768) (k7 : rd ≤ wr) (hk1 : wr + k < 32768) (hk2 : cl = k) (hcl : cl ≤ t.length) (hlen : pos + k ≤ x.C.length) (hyt : (x.C.drop pos).take k = t.take k)
    (hP2 : Pre x.C N (pos + k) ((t.drop k).take (cl - k) ++ ((if fi = true then [] else blocks (t.drop cl)) ++ X))) (hfi : fi = true → cl = t.length) (k12 : Shp tr (a - a)) (k10 : a ≤ 32768)
    (hF : (fi = false ∧ s9 = ⟨srV x, rb, ro', 0, 0, bt, cb, hv, wr + k, rd, fu, q0, q1, q2, q3, stepN, ss, fi, .nilIface, tr, hl, hd, cl - k, cd⟩) ∨
      (fi = true ∧ rd < wr + k ∧ ∃ wr2 fu2, wr2 < 32768 ∧ s9 = ⟨srV x, rb, ro', 0, 0, bt, cb, hv, wr2, wr2, fu2, q0, q1, q2, q3, stepN, ss, fi, EVal ES x.eE, sl hv rd (wr + k) 1, hl, hd, cl - k, cd⟩) ∨
      (fi = true ∧ rd = wr + k ∧ s9 = ⟨srV x, rb, ro', 0, 0, bt, cb, hv, wr + k, rd, fu, q0, q1, q2, q3, stepN, ss, fi, EVal ES x.eE, tr, hl, hd, cl - k, cd⟩))
    (hH : H' = dcB db s9 :: own hv 1 5 (bvs (hist.take wr ++ (x.C.drop pos).take k ++ hist.drop (wr + k))) :: stA x s2 (pos + k)) :
    StepR x N X hv db ⟨srV x, rb, ro, 0, 0, bt, cb, hv, wr, rd, fu, q0, q1, q2, q3, st, ss, fi, .nilIface, tr, hl, hd, cl, cd⟩ hist pos t True H' := by
  have hyl : ((x.C.drop pos).take k).length = k := by rw [List.length_take, List.length_drop]; omega
  have hP3 : Pre x.C N (pos + k) ((if fi = true then [] else blocks (t.drop cl)) ++ X) := by
    rw [show cl - k = 0 from by omega, List.take_zero, List.nil_append] at hP2; exact hP2
  have hw : win (hist.take wr ++ (x.C.drop pos).take k ++ hist.drop (wr + k)) rd (wr + k) ++ t.drop k = win hist rd wr ++ t := by
    rw [win_ext k7 (by omega) hyl, hyt, List.append_assoc, List.take_append_drop]
  have hle := (len_ext (h := hist) (wr := wr) (by omega) hyl).trans k6
  rcases hF with ⟨h1, rfl⟩ | ⟨h1, h2, wr2, fu2, h4, rfl⟩ | ⟨h1, h2, rfl⟩
  · refine ⟨_, _, a, a, _, s2, h3, ⟨rfl, rfl, rfl, rfl, k5, hle, by show rd ≤ wr + k; omega, by show wr + k ≤ _; omega, Nat.le_refl _, k10, fun h => absurd h (Nat.lt_irrefl _), k12⟩, Nat.le_add_right _ _, .inr ⟨t.drop k, .inl ⟨rfl, hk1, .inl ⟨rfl, ?_⟩⟩, ?_, .inr (.inr ⟨trivial, rfl⟩)⟩, hH⟩
    · rw [h1] at hP3
      rw [← hk2]; rw [← hk2] at hP3
      exact hP3
    · show win _ a a ++ win _ rd (wr + k) ++ _ = _
      rw [win_nil, List.nil_append]; exact hw
  · refine ⟨_, _, rd, wr + k, _, s2, h3, ⟨rfl, rfl, rfl, rfl, k5, hle, Nat.le_refl _, Nat.le_of_lt h4, by omega, by omega, fun _ => rfl, k5.sl (by omega) (by omega)⟩, Nat.le_add_right _ _, .inr ⟨t.drop k, .inr ⟨rfl, ?_, rfl, ?_⟩, ?_, .inl (fun h => by cases h)⟩, hH⟩
    · rw [List.drop_of_length_le]; have := hfi h1; omega
    · rw [h1] at hP3; exact hP3
    · show win _ rd (wr + k) ++ win _ wr2 wr2 ++ _ = _
      rw [win_nil, List.append_nil]; exact hw
  · refine ⟨_, _, a, a, _, s2, h3, ⟨rfl, rfl, rfl, rfl, k5, hle, by show rd ≤ wr + k; omega, by show wr + k ≤ _; omega, Nat.le_refl _, k10, fun h => absurd h (Nat.lt_irrefl _), k12⟩, Nat.le_add_right _ _, .inr ⟨t.drop k, .inr ⟨rfl, ?_, h2, ?_⟩, ?_, .inl (fun h => by cases h)⟩, hH⟩
    · rw [List.drop_of_length_le]; have := hfi h1; omega
    · rw [h1] at hP3; exact hP3
    · show win _ a a ++ win _ rd (wr + k) ++ _ = _
      rw [win_nil, List.nil_append]; exact hw
theorem ct_copyData (g : GW) (x : Fx) (hx : FxOk g x) (s0 : St) (pos : Nat) (hs : StOk x s0 pos) (N : Nat) (X : List UInt8) (hv : Value) (db : Nat) (s : DS) (hist t : List UInt8) (a : Nat) (hok : Dk x hv s hist a a) (her : s.er = .nilIface) (hwr : s.wr < 32768)
    (hcl : s.cl ≤ t.length) (hP : Pre x.C N pos (t.take s.cl ++ ((if s.fi = true then [] else blocks (t.drop s.cl)) ++ X))) (hfi : s.fi = true → s.cl = t.length) (htl : t.length ≤ 1000000000) :
    Ct Tryz.prog g 214 [.pointer (some ⟨db, 0, none⟩)] (dcB db s :: own hv 1 5 (bvs hist) :: stA x s0 pos) (fun _ _ H' => StepR x N X hv db s hist pos t True H') := by
  obtain ⟨k1, k2, k3, k4, k5, k6, k7, k8, k9, k10, k11, k12⟩ := hok
  obtain ⟨r, rb, ro, b0, nb, bt, cb, hv', wr, rd, fu, q0, q1, q2, q3, st, ss, fi, er, tr, hl, hd, cl, cd⟩ := s
  dsimp only at k1 k2 k3 k4 k7 k8 k11 k12 her hwr hcl hP hfi
  subst k1 k2 k3 k4 her
  refine CI Tryz.func214 Tryz.ntmps214 rfl fun F g0 hg0 => ?_
  replace hx := hx.mono hg0
  refine SR (Lm rfl (Ln rfl (Lf rfl Tryz.runUnderlying400 rfl Tryz.sizeOf396 rfl (Lk (e_call rfl (ct_writeSlice g0 db _ k8 k5) (K0 .nil)) ?_))))
  rintro _ _ _ - ⟨_, rfl, ⟨rfl, rfl⟩⟩
  refine La rfl (nS (T_cut (ι := Nat) (fun k _ => k ≤ 32768 - wr ∧ k ≤ cl ∧ (k = 32768 - wr ∨ k = cl)) (fun k => [(0, .pointer (some ⟨db, 0, none⟩)), (2, sl hv' wr (wr + k) 1)]) (fun _ => [dcB db ⟨srV x, rb, ro, 0, 0, bt, cb, hv', wr, rd, fu, q0, q1, q2, q3, st, ss, fi, .nilIface, tr, hl, hd, cl, cd⟩, own hv' 1 5 (bvs hist), blk x.sr (.cells (srC (brV x.br) x.wv x.rb x.wb pos) 170), blk x.br (.cells (brC x.cv s0.rb.i s0.rb.pr) 133), blk x.rb (.cells (rbC x.bv (brV x.br) s0.rb.r s0.rb.w .nilIface s0.rb.lb s0.rb.lr) 263), own x.bv 1 5 (bvs s0.rb.bl), blk x.wb (.cells (bwC .nilIface x.bv2 s0.bw.n x.wv) 258), own x.bv2 1 5 (bvs s0.bw.bl), s0.bw.S, F]) ?_ ?_))
  ·
    refine SR (Lm rfl (Lp (p_len (k5.sl k8 (Nat.le_refl _)) rfl rfl Tryz.runUnderlying25) (Lm rfl (Ln rfl (Lf rfl Tryz.runUnderlying400 rfl Tryz.sizeOf3 rfl (Lp (p_load rfl Tryz.isAgg3 (.head _) (dc_g400_18 _ rfl)) (Lp (p_gtr rfl rfl) (nS (T_condD rfl (fun hc2 => ?_) (fun hc2 => ?_))))))))))
    ·
      try dsimp only at hc2
      skip
      refine T_region (Lm rfl (Lm rfl (Ln rfl (Lf rfl Tryz.runUnderlying400 rfl Tryz.sizeOf3 rfl (Lp (p_load rfl Tryz.isAgg3 (.head _) (dc_g400_18 _ rfl)) (Lp (p_slH (b := cl) (k5.sl k8 (Nat.le_refl _)) rfl Tryz.runUnderlying25 Tryz.sizeOf5 rfl rfl (by omega) (sl_sl k5 (by omega))) (La rfl (TL_nil (EC (.refl _) (cl) ?hI (K0 (K0 (K0 (K0 (K0 (K0 (K0 (K0 (K0 (K0 .nil)))))))))))))))))))
      case hI => intro g' hl; exact ⟨by omega, by omega, .inr rfl⟩
    ·
      try dsimp only at hc2
      skip
      refine T_skip ?_
      refine E_cut (.refl _) (32768 - wr) ?hI (by rw [Nat.add_sub_cancel' (by omega)]; repeat (first | exact SubL.nil | refine SubL.cons rfl ?_)) (K0 (K0 (K0 (K0 (K0 (K0 (K0 (K0 (K0 (K0 .nil))))))))))
      case hI => intro g' hl; exact ⟨by omega, by omega, .inl rfl⟩
  ·
    rintro k gC hlgC ⟨hk1, hk2, hk3⟩
    replace hx := hx.mono hlgC
    have hBf : Bf (sl hv' wr (wr + k) 1) k (fun ys => own hv' 1 5 (bvs (hist.take wr ++ ys ++ hist.drop (wr + k)))) := by { have := (Bf.own 5 k5).sub k6 (show wr ≤ wr + k from Nat.le_add_right _ _) (by omega); rwa [Nat.add_sub_cancel_left] at this }
    have hzl : ((hist.drop wr).take k).length = k := by { rw [List.length_take, List.length_drop]; omega }
    have hpa := parts hist wr (wr + k) (Nat.le_add_right _ _)
    rw [Nat.add_sub_cancel_left] at hpa
    have hpl := hs.le
    have hxl := hx.len
    refine SR (Lm rfl (Ln rfl (Lf rfl Tryz.runUnderlying400 rfl Tryz.sizeOf349 rfl (Lp (p_load rfl Tryz.isAgg349 (.head _) (dc_g400_0 _ rfl)) (Lm rfl ?_)))))
    rw [show own hv' 1 5 (bvs hist) = own hv' 1 5 (bvs (hist.take wr ++ (hist.drop wr).take k ++ hist.drop (wr + k))) from by rw [hpa]]
    refine Lk (e_call rfl (ct_readFull gC x hx s0 pos hs _ k _ _ hBf hzl (by omega)) (K1 (K1 (K1 (K1 (K1 (K1 (K1 (K1 .nil))))))))) ?_
    rintro _ _ _ - ⟨_, rfl, ⟨s2, n, er2, ys, rfl, hyl, h1, h2, h3, rfl⟩⟩
    refine Lm rfl (Lx rfl rfl (Lx rfl rfl (La rfl (La rfl (nSR ?_)))))
    have hnk : n ≤ k := by { rcases Nat.lt_or_ge x.C.length (pos + k) with h | h; (have := h3.le; omega); (have := (h1 h).1; omega) }
    have hEr := Er.of hx (n := pos + k) (Q := n = k ∧ ys = (x.C.drop pos).take k) (fun h => ⟨(h1 h).2.1, (h1 h).1, (h1 h).2.2⟩) h2
    refine Lm rfl (Ln rfl (Lf rfl Tryz.runUnderlying400 rfl Tryz.sizeOf2 rfl (Lp (p_load rfl Tryz.isAgg2 (.tail _ (.tail _ (.tail _ (.tail _ (.tail _ (.tail _ (.tail _ (.tail _ (.head _))))))))) (dc_g400_2 _ rfl)) (Lm rfl (Lp (p_add rfl rfl (rfl)) (Ln rfl (Lf rfl Tryz.runUnderlying400 rfl Tryz.sizeOf2 rfl (TL_k0 (e_store1 rfl rfl Tryz.sizeOf2 rfl (K8 .nil) (dc_l400_2 _) rfl (dc_s400_2 _ _ rfl)) ?_))))))))
    rintro _ _ _ - ⟨rfl, rfl⟩
    refine nSR (Lm rfl (Ln rfl (Lf rfl Tryz.runUnderlying400 rfl Tryz.sizeOf3 rfl (Lp (p_load rfl Tryz.isAgg3 (.head _) (dc_g400_18 _ rfl)) (Lm rfl ?_)))))
    refine Lp (p_sub rfl rfl ((show IntKind.i64.wrap ((cl : Int) - (n : Int)) = ((cl - n : Nat) : Int) from by rw [wr64 (by omega) (by omega)]; omega))) ?_
    refine Ln rfl (Lf rfl Tryz.runUnderlying400 rfl Tryz.sizeOf3 rfl (TL_k0 (e_store1 rfl rfl Tryz.sizeOf3 rfl (K0 .nil) (dc_l400_18 _) rfl (dc_s400_18 _ _ rfl)) ?_))
    rintro _ _ _ - ⟨rfl, rfl⟩
    refine nSR (Lm rfl (Ln rfl (Lf rfl Tryz.runUnderlying400 rfl Tryz.sizeOf396 rfl (Lm rfl (Lk (e_call rfl (ct_writeMark gC db _ n (show wr + n ≤ 32768 from by omega)) (K0 .nil)) ?_)))))
    rintro _ _ _ - ⟨_, rfl, rfl⟩
    refine nS (T_seq (SR (Lm rfl (Lp (p_neqE0 hEr.ifn rfl Tryz.underlying64) (nS (T_condNB rfl (fun hc8 => ?_) (fun hc8 => ?_)))))))
    ·
      try dsimp only at hc8
      have hlt : x.C.length < pos + k := Nat.lt_of_not_le fun h => (isB_f hc8) (h1 h).2.1
      refine SR (Lm rfl (Lm rfl (Lk (e_call rfl (ct_noEOF gC x hx er2 (h2 hlt)) .nil) ?_)))
      rintro _ _ _ - ⟨_, rfl, ⟨rfl, rfl⟩⟩
      refine Ln rfl (Lf rfl Tryz.runUnderlying400 rfl Tryz.sizeOf64 rfl (TL_k0 (e_store1 rfl rfl Tryz.sizeOf64 rfl (K0 .nil) (dc_l400_14 _) rfl (dc_s400_14 _ _ rfl)) ?_))
      rintro _ _ _ - ⟨rfl, rfl⟩
      refine nr (E_seq_ret (E_ret0 [_, _, _, _, _, _, _, _, _] rfl hlgC (K0 (K0 (K0 (K0 (K0 (K0 (K0 (K0 (K0 (K0 .nil)))))))))) (fun g' hl => ?_)))
      refine ⟨_, _, a, a, _, s2, h3, ?_, Nat.le_add_right _ _, .inl ?_, rfl⟩
      · exact ⟨rfl, rfl, rfl, rfl, k5, (len_ext (by omega) hyl).trans k6, show rd ≤ wr + n from by omega, show wr + n ≤ 32768 from by omega, Nat.le_refl _, k10, fun h => absurd h (Nat.lt_irrefl _), k12⟩
      · exact ⟨rfl, by show (a - a) + (wr + n - rd) ≤ (wr - rd) + t.length; omega⟩
    ·
      try dsimp only at hc8
      obtain ⟨hlen, rfl, rfl⟩ := hEr.ok (isB_t hc8)
      obtain rfl := isB_t hc8
      obtain ⟨hyt, hP2⟩ := cp_pre hP hk2 hcl hlen
      refine kS (T_seq (SR (Lm rfl (Ln rfl (Lf rfl Tryz.runUnderlying400 rfl Tryz.sizeOf396 rfl (Lk (e_call rfl (ct_availWrite gC db _ (show wr + n ≤ 32768 from by omega) k5) (K0 .nil)) ?_))))))
      rintro _ _ _ - ⟨_, rfl, ⟨z, hz, rfl, rfl⟩⟩
      replace hz : z = 32768 - ((wr + n : Nat) : Int) := hz
      refine Lp (p_eql rfl rfl) (Lm rfl (TL_splitD 64 rfl (fun hg12 => ?_) (fun hg12 => ?_)))
      ·
        try dsimp only at hg12
        refine Ls (Ls (Ls (Ls (Ls (Lp (p_pickT rfl rfl) (nS (T_condT rfl (SR (Lm rfl ?_)))))))))
        refine Lm rfl (Ln rfl (Lf rfl Tryz.runUnderlying400 rfl Tryz.sizeOf396 rfl (Lk (e_call rfl (ct_readFlush gC db _ (show rd ≤ wr + n from by omega) (show wr + n ≤ 32768 from by omega) k5) (K0 .nil)) ?_)))
        rintro _ _ _ - ⟨_, rfl, ⟨wr2, fu2, rfl, hwr2, rfl⟩⟩
        refine Ln rfl (Lf rfl Tryz.runUnderlying400 rfl Tryz.sizeOf25 rfl (TL_k0 (e_store1 rfl rfl Tryz.sizeOf25 (Shp.one (k5.sl (show rd ≤ wr + n from by omega) (show wr + n ≤ 32768 from by omega))) (K0 .nil) (dc_l400_15 _) rfl (dc_s400_15 _ _ rfl)) ?_))
        rintro _ _ _ - ⟨rfl, rfl⟩
        refine nSR (Lm rfl (Ln rfl (Lf rfl Tryz.runUnderlying400 rfl Tryz.sizeOf397 rfl (TL_k0 (e_store1 rfl rfl Tryz.sizeOf397 rfl (K0 .nil) (dc_l400_11 _) rfl (dc_s400_11 _ _ rfl)) ?_))))
        rintro _ _ _ - ⟨rfl, rfl⟩
        refine nr (E_seq_ret (E_ret0 [_, _, _, _, _, _, _, _, _] rfl hlgC (K0 (K0 (K0 (K0 (K0 (K0 (K0 (K0 (K0 (K0 .nil)))))))))) (fun g' hl => ?_)))
        exact cp_flush hx hs h3 k5 k6 k7 hk1 hk2 hcl hlen hyt hP2 hfi hwr2 (by omega) rfl
      ·
        try dsimp only at hg12
        refine Lg (p_move rfl) (Lg (p_nilCheck rfl) (Lg (p_fieldAddr rfl Tryz.runUnderlying400 rfl Tryz.sizeOf3 rfl) (Lg (p_load rfl Tryz.isAgg3 (.head _) (dc_g400_18 _ rfl)) (Lg (p_gtr rfl rfl) (Lp (p_pickF rfl rfl) (nS (T_condD rfl (fun hc16 => ?_) (fun hc16 => ?_))))))))
        ·
          try dsimp only at hc16
          skip
          refine SR (Lm rfl (Lm rfl (Ln rfl (Lf rfl Tryz.runUnderlying400 rfl Tryz.sizeOf396 rfl (Lk (e_call rfl (ct_readFlush gC db _ (show rd ≤ wr + n from by omega) (show wr + n ≤ 32768 from by omega) k5) (K0 .nil)) ?_)))))
          rintro _ _ _ - ⟨_, rfl, ⟨wr2, fu2, rfl, hwr2, rfl⟩⟩
          refine Ln rfl (Lf rfl Tryz.runUnderlying400 rfl Tryz.sizeOf25 rfl (TL_k0 (e_store1 rfl rfl Tryz.sizeOf25 (Shp.one (k5.sl (show rd ≤ wr + n from by omega) (show wr + n ≤ 32768 from by omega))) (K0 .nil) (dc_l400_15 _) rfl (dc_s400_15 _ _ rfl)) ?_))
          rintro _ _ _ - ⟨rfl, rfl⟩
          refine nSR (Lm rfl (Ln rfl (Lf rfl Tryz.runUnderlying400 rfl Tryz.sizeOf397 rfl (TL_k0 (e_store1 rfl rfl Tryz.sizeOf397 rfl (K0 .nil) (dc_l400_11 _) rfl (dc_s400_11 _ _ rfl)) ?_))))
          rintro _ _ _ - ⟨rfl, rfl⟩
          refine nr (E_seq_ret (E_ret0 [_, _, _, _, _, _, _, _, _] rfl hlgC (K0 (K0 (K0 (K0 (K0 (K0 (K0 (K0 (K0 (K0 .nil)))))))))) (fun g' hl => ?_)))
          exact cp_flush hx hs h3 k5 k6 k7 hk1 hk2 hcl hlen hyt hP2 hfi hwr2 (by omega) rfl
        ·
          try dsimp only at hc16
          skip
          refine kS (T_region (Lm rfl (Lk (e_call rfl (ct_finishBlock gC x hx db _ (show rd ≤ wr + n from by omega) (show wr + n ≤ 32768 from by omega) k5) (K0 .nil)) ?_)))
          rintro _ _ _ - ⟨_, rfl, ⟨s9, rfl, hF⟩⟩
          refine TL_nil (E_end0 [_, _, _, _, _, _, _, _, _] rfl hlgC (K0 (K0 (K0 (K0 (K0 (K0 (K0 (K0 (K0 (K0 .nil)))))))))) (fun g' hl => ?_))
          have hcn : cl = n := by omega
          exact cp_fin hx hs h3 k5 k6 k7 (by omega) hcn hcl hlen hyt hP2 hfi k12 k10 hF rfl
end Go.Proofs.YtolddodhmeaceaaGreatDoor
namespace Go.Proofs.YtolddodhmeaceaaGreatDoor
open Go.Hl Go.Pk
noncomputable def dcW (db : Nat) (s : DS) (ys : List UInt8) : Atom := blk db (.cells ((dfr s ++ dmid ++ (dbk s).take 6).toArray ++ (bvs ys).toArray ++ ((dbk s).drop 10).toArray) 400)
theorem app3 (F M K Y R : List Value) : (F ++ M ++ K).toArray ++ Y.toArray ++ R.toArray = (F ++ M ++ (K ++ Y ++ R)).toArray := by simp [List.append_assoc]
theorem dcW_eq (db : Nat) (s : DS) (y0 y1 y2 y3 : UInt8) : dcW db s [y0, y1, y2, y3] = dcB db { s with q0 := y0, q1 := y1, q2 := y2, q3 := y3 } := by
  unfold dcW dcB dcC
  rw [app3]
  rfl
theorem dcW_eqx (db : Nat) {r : Value} {rb : Value} {ro : Int} {b : Int} {nb : Int} {bt : Value} {cb : Value} {hv : Value} {wr : Nat} {rd : Nat} {fu : Bool} {q0 : UInt8} {q1 : UInt8} {q2 : UInt8} {q3 : UInt8} {st : Value} {ss : Int} {fi : Bool} {er : Value} {tr : Value} {hl : Value} {hd : Value} {cl : Nat} {cd : Int} (y0 y1 y2 y3 : UInt8) : dcW db ⟨r, rb, ro, b, nb, bt, cb, hv, wr, rd, fu, q0, q1, q2, q3, st, ss, fi, er, tr, hl, hd, cl, cd⟩ [y0, y1, y2, y3] = dcB db ⟨r, rb, ro, b, nb, bt, cb, hv, wr, rd, fu, y0, y1, y2, y3, st, ss, fi, er, tr, hl, hd, cl, cd⟩ := dcW_eq db _ y0 y1 y2 y3
theorem dcB_eq (db : Nat) (s : DS) : dcB db s = dcW db s [s.q0, s.q1, s.q2, s.q3] := by rw [dcW_eq]
theorem dcB_eqb (db : Nat) (s : DS) : blk db (.cells (dcC s) 400) = dcW db s [s.q0, s.q1, s.q2, s.q3] := dcB_eq db s
theorem bf_dcW (db : Nat) (s : DS) : Bf (.slice (some ⟨db, 1041, none⟩) 4 4) 4 (dcW db s) := by
  have h := Bf.mid (b := db) (e := 400) (dfr s ++ dmid ++ (dbk s).take 6).toArray ((dbk s).drop 10).toArray (Nat.le_refl 4)
  have e : (dfr s ++ dmid ++ (dbk s).take 6).toArray.size = 1041 := by
    rw [List.size_toArray, List.length_append, List.length_append, dmid_len]; rfl
  rw [e] at h
  exact h
theorem four_ {ys : List UInt8} (h : ys.length = 4) : ∃ a b c d, ys = [a, b, c, d] := by
  match ys, h with
  | [a, b, c, d], _ => exact ⟨a, b, c, d, rfl⟩
theorem or_i64 {a b : Nat} (ha : a < 256) (hb : b < 256) : bitsOf .or .i64 (a : Int) (IntKind.i64.wrap ((b : Int) * 2 ^ 8)) = ((b * 256 + a : Nat) : Int) := by
  have e : IntKind.i64.wrap ((b : Int) * 2 ^ 8) = ((b * 256 : Nat) : Int) := by rw [wr64 (by omega) (by omega)]; omega
  rw [e]
  show IntKind.i64.wrap (((BitVec.ofInt 64 (a : Int) ||| BitVec.ofInt 64 ((b * 256 : Nat) : Int)).toNat : Nat) : Int) = _
  rw [BitVec.ofInt_natCast, BitVec.ofInt_natCast, BitVec.toNat_or, BitVec.toNat_ofNat, BitVec.toNat_ofNat, Nat.mod_eq_of_lt (by omega), Nat.mod_eq_of_lt (by omega)]
  have h1 := Nat.two_pow_add_eq_or_of_lt (i := 8) (b := a) (by omega) b
  rw [Nat.or_comm, Nat.mul_comm, ← h1]
  exact wr64 (by omega) (by omega)
theorem not16 {n : Nat} (h : n ≤ 65535) : IntKind.u16.wrap (bitsOf .xor .i64 (-1) (n : Int)) = ((65535 - n : Nat) : Int) := by
  rw [notI (by omega)]
  simp only [IntKind.wrap, IntKind.bits, IntKind.signed, Bool.false_and, Bool.false_eq_true, if_false]
  omega
theorem StepR.back {x : Fx} {N : Nat} {X : List UInt8} {hv : Value} {db : Nat} {s s1 : DS} {hist : List UInt8} {pos p1 : Nat} {t : List UInt8} {H' : List Atom} {cc : Prop} (h : StepR x N X hv db s1 hist p1 t cc H') (h1 : s1.rd = s.rd) (h2 : s1.wr = s.wr) (h3 : pos < p1) : StepR x N X hv db s hist pos t False H' := by
  obtain ⟨s', hist', a', b', pos', st', k1, k2, k3, k4, k5⟩ := h
  refine ⟨s', hist', a', b', pos', st', k1, k2, by omega, ?_, k5⟩
  rcases k4 with k4 | ⟨t', k6, k7, k8⟩
  · exact .inl ⟨k4.1, by rw [← h1, ← h2]; exact k4.2⟩
  · exact .inr ⟨t', k6, by rw [k7, h1, h2], .inr (.inl (by omega))⟩
theorem ct_dataBlock (g : GW) (x : Fx) (hx : FxOk g x) (s0 : St) (pos : Nat) (hs : StOk x s0 pos) (N : Nat) (X : List UInt8) (hv : Value) (db : Nat) (s : DS) (hist t : List UInt8) (a n : Nat) (hok : Dk x hv { s with nb := 0, b := 0 } hist a a) (her : s.er = .nilIface) (hwr : s.wr < 32768)
    (hn : n ≤ 65535) (hcl : n ≤ t.length) (hn0 : n = 0 → s.fi = true) (hP : Pre x.C N pos ([UInt8.ofNat n, UInt8.ofNat (n / 256), UInt8.ofNat (255 - n % 256), UInt8.ofNat (255 - n / 256)] ++ (t.take n ++ ((if s.fi = true then [] else blocks (t.drop n)) ++ X)))) (hfi : s.fi = true → n = t.length) (htl : t.length ≤ 1000000000) :
    Ct Tryz.prog g 207 [.pointer (some ⟨db, 0, none⟩)] (dcB db s :: own hv 1 5 (bvs hist) :: stA x s0 pos) (fun _ _ H' => StepR x N X hv db s hist pos t False H') := by
  obtain ⟨k1, k2, k3, k4, k5, k6, k7, k8, k9, k10, k11, k12⟩ := hok
  obtain ⟨r, rb, ro, b0, nb, bt, cb, hv', wr, rd, fu, q0, q1, q2, q3, st, ss, fi, er, tr, hl, hd, cl, cd⟩ := s
  dsimp only at k1 k2 k3 k4 k7 k8 k11 k12 her hwr hP hfi hn0
  subst k1 k4 her
  have hpl := hs.le
  have hxl := hx.len
  refine CI Tryz.func207 Tryz.ntmps207 rfl fun F g0 hg0 => ?_
  replace hx := hx.mono hg0
  refine SR (Lm rfl (Ln rfl (Lf rfl Tryz.runUnderlying400 rfl Tryz.sizeOf103 rfl (TL_k0 (e_store1 rfl rfl Tryz.sizeOf103 rfl (K0 .nil) (dc_l400_4 _) rfl (dc_s400_4 _ _ rfl)) ?_))))
  rintro _ _ _ - ⟨rfl, rfl⟩
  refine nSR (Lm rfl (Ln rfl (Lf rfl Tryz.runUnderlying400 rfl Tryz.sizeOf29 rfl (TL_k0 (e_store1 rfl rfl Tryz.sizeOf29 rfl (K0 .nil) (dc_l400_3 _) rfl (dc_s400_3 _ _ rfl)) ?_))))
  rintro _ _ _ - ⟨rfl, rfl⟩
  refine nS (T_seq (T_regionD 8 Tryz.mixed rfl Part.all (Dq 0 rfl (fun _ => p_move rfl) (Dq 1 rfl (fun _ => p_nilCheck rfl) (Dq 2 rfl (fun _ => p_fieldAddr rfl Tryz.runUnderlying400 rfl Tryz.sizeOf349 rfl) (Dp 3 rfl (p_load rfl Tryz.isAgg349 (.head _) (dc_g400_0 _ rfl)) (Dq 4 rfl (fun _ => p_move rfl) (Dq 5 rfl (fun _ => p_nilCheck rfl) (Dq 6 rfl (fun _ => p_fieldAddr rfl Tryz.runUnderlying400 rfl Tryz.sizeOf350 rfl) ?_)))))))))
  refine Dp 7 rfl (p_slALH rfl Tryz.runUnderlying350 Tryz.sizeOf5 rfl rfl (by rfl) (by rfl) (Nat.zero_le _) (Nat.le_refl _) (show sl (.slice (some ⟨db, 0 + 1041, none⟩) 4 4) 0 4 1 = .slice (some ⟨db, 1041, none⟩) 4 4 from rfl)) ?_
  rw [dcB_eqb]
  refine DB rfl (e_call rfl (ct_readFull g0 x hx s0 pos hs _ 4 _ _ (bf_dcW db _) rfl (by omega)) (K0 (K1 (K1 (K1 (K1 (K1 (K1 (K1 .nil))))))))) ?_
  rintro _ _ _ - ⟨_, rfl, ⟨s2, k, er2, ys, rfl, hyl, h1, h2, h3, rfl⟩⟩
  obtain ⟨y0, y1, y2, y3, rfl⟩ := four_ hyl
  rw [dcW_eqx db y0 y1 y2 y3]
  have hEr := Er.of hx (n := pos + 4) (Q := k = 4 ∧ [y0, y1, y2, y3] = (x.C.drop pos).take 4) (fun h => ⟨(h1 h).2.1, (h1 h).1, (h1 h).2.2⟩) h2
  have hy0 := u8lt y0
  have hy1 := u8lt y1
  have hy2 := u8lt y2
  have hy3 := u8lt y3
  refine AP 9 rfl (fun _ => p_move rfl) (AP 10 rfl (fun _ => p_extractL rfl rfl) (AP 11 rfl (fun _ => p_extractL rfl rfl) (AP 12 rfl (fun _ => p_assign rfl) (AP 13 rfl (fun _ => p_assign rfl) (TA_done (by kernel_rfl) (E_seq (SR (Lm rfl (Ln rfl ?_)))))))))
  refine Lf rfl Tryz.runUnderlying400 rfl Tryz.sizeOf2 rfl (Lp (p_load rfl Tryz.isAgg2 (.head _) (dc_g400_2 _ rfl)) (Lm rfl (Lp (p_add rfl rfl (rfl)) (Ln rfl (Lf rfl Tryz.runUnderlying400 rfl Tryz.sizeOf2 rfl (TL_k0 (e_store1 rfl rfl Tryz.sizeOf2 rfl (K0 .nil) (dc_l400_2 _) rfl (dc_s400_2 _ _ rfl)) ?_))))))
  rintro _ _ _ - ⟨rfl, rfl⟩
  refine nS (T_seq (SR (Lm rfl (Lp (p_neqE0 hEr.ifn rfl Tryz.underlying64) (nS (T_condNB rfl (fun hc5 => ?_) (fun hc5 => ?_)))))))
  ·
    try dsimp only at hc5
    have hlt : x.C.length < pos + 4 := Nat.lt_of_not_le fun h => (isB_f hc5) (h1 h).2.1
    refine SR (Lm rfl (Lm rfl (Lk (e_call rfl (ct_noEOF g0 x hx er2 (h2 hlt)) .nil) ?_)))
    rintro _ _ _ - ⟨_, rfl, ⟨rfl, rfl⟩⟩
    refine Ln rfl (Lf rfl Tryz.runUnderlying400 rfl Tryz.sizeOf64 rfl (TL_k0 (e_store1 rfl rfl Tryz.sizeOf64 rfl (K0 .nil) (dc_l400_14 _) rfl (dc_s400_14 _ _ rfl)) ?_))
    rintro _ _ _ - ⟨rfl, rfl⟩
    refine nr (E_seq_ret (E_ret0 [_, _, _, _, _, _, _, _, _] rfl (.refl _) (K0 (K7 (K0 (K0 (K0 (K0 (K0 (K0 (K0 (K0 .nil)))))))))) (fun g' hl => ?_)))
    refine ⟨_, _, a, a, _, s2, h3, ?_, Nat.le_add_right _ _, .inl ?_, rfl⟩
    · exact ⟨rfl, rfl, rfl, rfl, k5, k6, k7, k8, Nat.le_refl _, k10, k11, k12⟩
    · exact ⟨rfl, by show (a - a) + (wr - rd) ≤ (wr - rd) + t.length; omega⟩
  ·
    try dsimp only at hc5
    obtain ⟨hlen, rfl, hyt⟩ := hEr.ok (isB_t hc5)
    obtain rfl := isB_t hc5
    obtain ⟨hz, hP2⟩ := hP.app (by simpa using hlen)
    replace hz : (x.C.drop pos).take 4 = _ := hz
    rw [← hyt] at hz
    simp only [List.cons.injEq, and_true] at hz
    obtain ⟨e0, e1, e2, e3⟩ := hz
    have f0 : y0.toNat = n % 256 := by { rw [e0]; simp }
    have f1 : y1.toNat = n / 256 := by { rw [e1]; simp; omega }
    have f2 : y2.toNat = 255 - n % 256 := by { rw [e2]; simp; omega }
    have f3 : y3.toNat = 255 - n / 256 := by { rw [e3]; simp; omega }
    replace hP2 : Pre x.C N (pos + 4) _ := hP2
    refine kS (T_seq (T_regionD 15 Tryz.mixed rfl Part.all (Dp 0 rfl (p_move rfl) (Dp 1 rfl (p_nilCheck rfl) (Dp 2 rfl (p_fieldAddr rfl Tryz.runUnderlying400 rfl Tryz.sizeOf350 rfl) (Dp 3 rfl (p_indexAddrA (j := 0) rfl rfl Tryz.runUnderlying350 Tryz.sizeOf5 rfl (by omega) rfl) (Dp 4 rfl (p_load rfl Tryz.isAgg5 (.head _) (dc_gq_0 _ rfl)) (Dp 5 rfl (p_conv rfl Tryz.runUnderlying5 Tryz.runUnderlying3 (wr64 (by omega) (by omega))) (Dp 6 rfl (p_move rfl) ?_)))))))))
    refine Dp 7 rfl (p_nilCheck rfl) (Dp 8 rfl (p_fieldAddr rfl Tryz.runUnderlying400 rfl Tryz.sizeOf350 rfl) (Dp 9 rfl (p_indexAddrA (j := 1) rfl rfl Tryz.runUnderlying350 Tryz.sizeOf5 rfl (by omega) rfl) (Dp 10 rfl (p_load rfl Tryz.isAgg5 (.head _) (dc_gq_1 _ rfl)) (Dp 11 rfl (p_conv rfl Tryz.runUnderlying5 Tryz.runUnderlying3 (wr64 (by omega) (by omega))) (Dp 12 rfl (p_shl (n := 8) rfl rfl (by decide) rfl rfl) ?_)))))
    refine Dp 13 rfl (p_or rfl rfl (show _ = ((n : Nat) : Int) from (or_i64 hy0 hy1).trans (by rw [f0, f1]; omega))) ?_
    refine Dp 14 rfl (p_assign rfl) (DD (E_seq (T_seq (T_regionD 15 Tryz.mixed rfl Part.all (Dp 0 rfl (p_move rfl) (Dp 1 rfl (p_nilCheck rfl) (Dp 2 rfl (p_fieldAddr rfl Tryz.runUnderlying400 rfl Tryz.sizeOf350 rfl) (Dp 3 rfl (p_indexAddrA (j := 2) rfl rfl Tryz.runUnderlying350 Tryz.sizeOf5 rfl (by omega) rfl) (Dp 4 rfl (p_load rfl Tryz.isAgg5 (.head _) (dc_gq_2 _ rfl)) ?_)))))))))
    refine Dp 5 rfl (p_conv rfl Tryz.runUnderlying5 Tryz.runUnderlying3 (wr64 (by omega) (by omega))) (Dp 6 rfl (p_move rfl) (Dp 7 rfl (p_nilCheck rfl) (Dp 8 rfl (p_fieldAddr rfl Tryz.runUnderlying400 rfl Tryz.sizeOf350 rfl) (Dp 9 rfl (p_indexAddrA (j := 3) rfl rfl Tryz.runUnderlying350 Tryz.sizeOf5 rfl (by omega) rfl) (Dp 10 rfl (p_load rfl Tryz.isAgg5 (.head _) (dc_gq_3 _ rfl)) (Dp 11 rfl (p_conv rfl Tryz.runUnderlying5 Tryz.runUnderlying3 (wr64 (by omega) (by omega))) (Dp 12 rfl (p_shl (n := 8) rfl rfl (by decide) rfl rfl) ?_)))))))
    refine Dp 13 rfl (p_or rfl rfl (show _ = ((65535 - n : Nat) : Int) from (or_i64 hy2 hy3).trans (by rw [f2, f3]; omega))) ?_
    refine Dp 14 rfl (p_assign rfl) (DD (E_seq (T_seq (SR (Lm rfl (Lp (p_conv rfl Tryz.runUnderlying3 Tryz.runUnderlying280 ((show IntKind.u16.wrap ((65535 - n : Nat) : Int) = ((65535 - n : Nat) : Int) from wrU16 (by omega) (by omega)))) (Lm rfl (Lp (p_notI rfl) (Lp (p_conv rfl Tryz.runUnderlying3 Tryz.runUnderlying280 ((not16 hn))) ?_)))))))))
    refine Lp (p_neq rfl rfl) (nS (T_condD rfl (fun hc8 => ?_) (fun hc8 => ?_)))
    ·
      try dsimp only at hc8
      exact absurd rfl hc8
    ·
      try dsimp only at hc8
      skip
      refine kS (T_seq (SR (Lm rfl (Lp (p_eql rfl rfl) (nS (T_condD rfl (fun hc9 => ?_) (fun hc9 => ?_)))))))
      ·
        try dsimp only at hc9
        obtain rfl : n = 0 := by omega
        refine SR (Lm rfl (Lm rfl (Ln rfl (Lf rfl Tryz.runUnderlying400 rfl Tryz.sizeOf396 rfl (Lk (e_call rfl (ct_readFlush g0 db _ k7 k8 k5) (K0 .nil)) ?_)))))
        rintro _ _ _ - ⟨_, rfl, ⟨wr2, fu2, rfl, hwr2, rfl⟩⟩
        refine Ln rfl (Lf rfl Tryz.runUnderlying400 rfl Tryz.sizeOf25 rfl (TL_k0 (e_store1 rfl rfl Tryz.sizeOf25 (Shp.one (k5.sl k7 k8)) (K0 .nil) (dc_l400_15 _) rfl (dc_s400_15 _ _ rfl)) ?_))
        rintro _ _ _ - ⟨rfl, rfl⟩
        refine nSR (Lm rfl (Lk (e_call rfl (ct_finishBlock g0 x hx db _ (Nat.le_refl _) (Nat.le_of_lt hwr2) k5) (K0 .nil)) ?_))
        rintro _ _ _ - ⟨_, rfl, ⟨s9, rfl, hF⟩⟩
        refine nr (E_seq_ret (E_ret0 [_, _, _, _, _, _, _, _, _] rfl (.refl _) (K0 (K7 (K0 (K0 (K0 (K0 (K0 (K0 (K0 (K0 .nil)))))))))) (fun g' hl => ?_)))
        have ht0 : t = [] := List.eq_nil_of_length_eq_zero (hfi (hn0 rfl)).symm
        have hP4 : Pre x.C N (pos + 4) X := by { have := hP2; rw [List.take_zero, hn0 rfl] at this; exact this }
        rcases hF with ⟨h, _⟩ | ⟨_, h, _⟩ | ⟨_, _, rfl⟩
        · exact absurd ((hn0 rfl).symm.trans h) (by decide)
        · exact absurd h (Nat.lt_irrefl _)
        · refine ⟨_, _, rd, wr, _, s2, h3, ?_, Nat.le_add_right _ _, .inr ⟨[], .inr ?_, ?_, .inl ?_⟩, rfl⟩
          · exact ⟨rfl, rfl, rfl, rfl, k5, k6, Nat.le_refl _, Nat.le_of_lt hwr2, k7, k8, fun _ => rfl, k5.sl k7 k8⟩
          · exact ⟨rfl, rfl, rfl, hP4⟩
          · show win hist rd wr ++ win hist wr2 wr2 ++ [] = win hist rd wr ++ t
            rw [win_nil, ht0, List.append_nil]
          · intro h; cases h
      ·
        try dsimp only at hc9
        skip
        refine kS (SR (Lm rfl (Lm rfl (Ln rfl (Lf rfl Tryz.runUnderlying400 rfl Tryz.sizeOf3 rfl (TL_k0 (e_store1 rfl rfl Tryz.sizeOf3 rfl (K0 .nil) (dc_l400_18 _) rfl (dc_s400_18 _ _ rfl)) ?_))))))
        rintro _ _ _ - ⟨rfl, rfl⟩
        refine nR (Lm rfl (Lk (e_call rfl (ct_copyData g0 x hx s2 (pos + 4) h3 N X hv' db _ hist t a ⟨rfl, rfl, rfl, rfl, k5, k6, k7, k8, k9, k10, k11, k12⟩ rfl hwr hcl hP2 hfi htl) (K0 (K7 (K0 (K0 (K0 (K0 (K0 (K0 (K0 .nil)))))))))) ?_))
        rintro _ _ _ - ⟨_, rfl, ⟨s', hist', a', b', p', st', j1, j2, j3, j4, rfl⟩⟩
        refine TL_nil (E_end0 [_, _, _, _, _, _, _, _, _] rfl (.refl _) (K0 (K0 (K0 (K0 (K0 (K0 (K0 (K0 (K0 (K0 .nil)))))))))) (fun g' hl => ?_))
        exact StepR.back ⟨s', hist', a', b', p', st', j1, j2, j3, j4, rfl⟩ rfl rfl (by omega)
end Go.Proofs.YtolddodhmeaceaaGreatDoor
namespace Go.Proofs.YtolddodhmeaceaaGreatDoor
open Go.Hl Go.Pk
theorem blocks_one (t : List UInt8) : ∃ (last : Bool) (n : Nat), n ≤ 65535 ∧ n ≤ t.length ∧ (last = true → n = t.length) ∧ (n = 0 → last = true) ∧ blocks t = blockHead last n ++ (t.take n ++ (if last = true then [] else blocks (t.drop n))) := by
  by_cases h : t.length ≤ 65535
  · refine ⟨true, t.length, h, Nat.le_refl _, fun _ => rfl, fun _ => rfl, ?_⟩
    rw [blocks_le h, List.take_length, if_pos rfl, List.append_nil]
  · refine ⟨false, 65535, Nat.le_refl _, by omega, fun h => (by cases h), fun h => (by cases h), ?_⟩
    rw [blocks_gt h, if_neg (by decide), List.append_assoc]
theorem and1 : ∀ h : Nat, h < 2 → bitsOf .and .u32 (h : Int) 1 = (h : Int) := by decide
theorem shr1 : ∀ h : Nat, h < 2 → ((h : Nat) : Int).fdiv (2 ^ 1) = 0 := by decide
theorem ct_nextBlock (g : GW) (x : Fx) (hx : FxOk g x) (s0 : St) (pos : Nat) (hs : StOk x s0 pos) (N : Nat) (X : List UInt8) (hv : Value) (db : Nat) (s : DS) (hist t : List UInt8) (a : Nat) (hok : Dk x hv s hist a a) (her : s.er = .nilIface) (hwr : s.wr < 32768)
    (hP : Pre x.C N pos (blocks t ++ X)) (htl : t.length ≤ 1000000000) :
    Ct Tryz.prog g 201 [.pointer (some ⟨db, 0, none⟩)] (dcB db s :: own hv 1 5 (bvs hist) :: stA x s0 pos) (fun _ _ H' => StepR x N X hv db s hist pos t False H') := by
  obtain ⟨k1, k2, k3, k4, k5, k6, k7, k8, k9, k10, k11, k12⟩ := hok
  obtain ⟨last, n, m1, m2, m3, m4, m5⟩ := blocks_one t
  obtain ⟨r, rb, ro, b0, nb, bt, cb, hv', wr, rd, fu, q0, q1, q2, q3, st, ss, fi, er, tr, hl, hd, cl, cd⟩ := s
  dsimp only at k1 k2 k3 k4 k7 k8 k11 k12 her hwr hP
  subst k1 k2 k3 k4 her
  obtain ⟨hh, hhe⟩ : ∃ h : Nat, h = if last = true then 1 else 0 := ⟨_, rfl⟩
  have hh2 : hh < 2 := by rw [hhe]; split <;> omega
  have hP1 : Pre x.C N pos ((if last = true then (1 : UInt8) else 0) :: ([UInt8.ofNat n, UInt8.ofNat (n / 256), UInt8.ofNat (255 - n % 256), UInt8.ofNat (255 - n / 256)] ++ (t.take n ++ ((if last = true then [] else blocks (t.drop n)) ++ X)))) := by
    rw [m5] at hP
    simpa [blockHead, List.append_assoc] using hP
  refine CI Tryz.func201 Tryz.ntmps201 rfl fun F g0 hg0 => ?_
  replace hx := hx.mono hg0
  refine T_seq (T_block (T_loop (ι := Nat × Nat × Int × St × Nat) (fun y _ => StOk x y.2.2.2.1 y.2.2.2.2 ∧ ((y.1 = 0 ∧ y.2.1 = 0 ∧ y.2.2.2.2 = pos) ∨ (y.1 = 8 ∧ y.2.1 = hh ∧ y.2.2.2.2 = pos + 1 ∧ Pre x.C N (pos + 1) ([UInt8.ofNat n, UInt8.ofNat (n / 256), UInt8.ofNat (255 - n % 256), UInt8.ofNat (255 - n / 256)] ++ (t.take n ++ ((if last = true then [] else blocks (t.drop n)) ++ X)))))) (fun y => [(0, .pointer (some ⟨db, 0, none⟩))]) (fun y => [dcB db ⟨srV x, rb, y.2.2.1, y.2.1, y.1, bt, cb, hv', wr, rd, fu, q0, q1, q2, q3, st, ss, fi, .nilIface, tr, hl, hd, cl, cd⟩, own hv' 1 5 (bvs hist), blk x.sr (.cells (srC (brV x.br) x.wv x.rb x.wb y.2.2.2.2) 170), blk x.br (.cells (brC x.cv y.2.2.2.1.rb.i y.2.2.2.1.rb.pr) 133), blk x.rb (.cells (rbC x.bv (brV x.br) y.2.2.2.1.rb.r y.2.2.2.1.rb.w .nilIface y.2.2.2.1.rb.lb y.2.2.2.1.rb.lr) 263), own x.bv 1 5 (bvs y.2.2.2.1.rb.bl), blk x.wb (.cells (bwC .nilIface x.bv2 y.2.2.2.1.bw.n x.wv) 258), own x.bv2 1 5 (bvs y.2.2.2.1.bw.bl), y.2.2.2.1.bw.S, F]) (fun y => 8 - y.1) ((0, 0, ro, s0, pos)) (fun g' hl => ⟨hs, .inl ⟨rfl, rfl, rfl⟩⟩) (by repeat (first | exact SubL.nil | refine SubL.cons rfl ?_)) (K0 (K0 (K0 (K0 (K0 (K0 (K0 (K0 (K0 (K0 .nil)))))))))) ?_))
  rintro ⟨nb1, b1, ro1, s1, p1⟩ gA hlgA ⟨hs1, hI⟩
  try dsimp only
  try dsimp only at hs1 hI
  replace hx := hx.mono hlgA
  refine T_seq (SR (Lm rfl (Ln rfl (Lf rfl Tryz.runUnderlying400 rfl Tryz.sizeOf103 rfl (Lp (p_load rfl Tryz.isAgg103 (.head _) (dc_g400_4 _ rfl)) (Lp (p_lss rfl rfl) (nS (T_condD rfl (fun hc2 => ?_) (fun hc2 => ?_)))))))))
  ·
    try dsimp only at hc2
    obtain ⟨rfl, rfl, rfl⟩ := hI.resolve_right (by omega)
    refine kS (T_block (SR (Lm rfl (Lm rfl (Lk (e_call rfl (ct_moreBits gA x hx s1 p1 hs1 db _ rfl rfl rfl) (K0 (K1 (K1 (K1 (K1 (K1 (K1 (K1 .nil))))))))) ?_)))))
    rintro _ _ _ - ⟨_, rfl, ⟨s2, p2, c, ro2, b2, nb2, h4, hle, hcase, rfl⟩⟩
    have hin := hcase.elim (fun h => (IfN.one (.inr ⟨_, _, h.1⟩))) (fun h => (IfN.one (.inl h.1)))
    have hin2 := hcase.elim (fun h => (show IfN _ from .inr ⟨_, _, h.1⟩)) (fun h => .inl h.1)
    refine Ln rfl (Lf rfl Tryz.runUnderlying400 rfl Tryz.sizeOf64 rfl (TL_k0 (e_store1 rfl rfl Tryz.sizeOf64 hin (K0 .nil) (dc_l400_14 _) rfl (dc_s400_14 _ _ rfl)) ?_))
    rintro _ _ _ - ⟨rfl, rfl⟩
    refine nSR (Lm rfl (Ln rfl (Lf rfl Tryz.runUnderlying400 rfl Tryz.sizeOf64 rfl (Lp (p_load rfl Tryz.isAgg64 (.head _) (dc_g400_14 _ rfl)) (Lp (p_neqE0 hin2 rfl Tryz.underlying64) (nS (T_condNB rfl (fun hc5 => ?_) (fun hc5 => ?_))))))))
    ·
      try dsimp only at hc5
      obtain ⟨rfl, rfl, rfl⟩ := hcase.resolve_right (fun h => (isB_f hc5) h.1)
      refine T_ret (E_block_ret (E_loop_ret (E_block_ret (E_seq_ret (E_ret0 [_, _, _, _, _, _, _, _, _] rfl hlgA (K0 (K7 (K0 (K0 (K0 (K0 (K0 (K0 (K0 (K0 .nil)))))))))) (fun g' hl => ?_))))))
      refine ⟨_, _, a, a, _, s2, h4, ?_, hle, .inl ?_, rfl⟩
      · exact ⟨rfl, rfl, rfl, rfl, k5, k6, k7, k8, Nat.le_refl _, k10, k11, k12⟩
      · exact ⟨rfl, by show (a - a) + (wr - rd) ≤ (wr - rd) + t.length; omega⟩
    ·
      try dsimp only at hc5
      obtain ⟨rfl, hlt, hc, rfl, rfl, rfl⟩ := hcase.resolve_left (fun h => by have := h.1.symm.trans (isB_t hc5); cases this)
      obtain ⟨hc1, hP3⟩ := pre_cons hP1 hlt
      have hcv : (c.toNat : Int) = (hh : Nat) := by { rw [hc] at hc1; injection hc1 with e; rw [e, hhe]; cases last <;> rfl }
      rw [hcv]
      refine T_skip (E_block (EL (.refl _) ((8, hh, ro2, s2, p1 + 1)) ?hm ?hI ((K0 (K7 (K0 (K0 (K0 (K0 (K0 (K0 (K0 (K0 .nil)))))))))))))
      case hm => exact (by dsimp only; omega)
      case hI => exact (fun g' hl => ⟨h4, .inr ⟨rfl, rfl, rfl, hP3⟩⟩)
  ·
    try dsimp only at hc2
    obtain ⟨rfl, rfl, rfl, hP2⟩ := hI.resolve_left (by omega)
    refine T_exit (E_seq_exit (E_loop_exit (E_block_hit (E_seq (SR (Lm rfl (Lm rfl (Ln rfl (Lf rfl Tryz.runUnderlying400 rfl Tryz.sizeOf29 rfl ?_)))))))))
    refine Lp (p_load rfl Tryz.isAgg29 (.head _) (dc_g400_3 _ rfl)) (Lp (p_and rfl rfl (and1 b1 hh2)) (Lp (p_eql rfl rfl) (Ln rfl (Lf rfl Tryz.runUnderlying400 rfl Tryz.sizeOf4 rfl (TL_k0 (e_store1 rfl rfl Tryz.sizeOf4 rfl (K0 .nil) (dc_l400_13 _) rfl (dc_s400_13 _ _ rfl)) ?_)))))
    rintro _ _ _ - ⟨rfl, rfl⟩
    refine nSR (Lm rfl (Ln rfl (Lf rfl Tryz.runUnderlying400 rfl Tryz.sizeOf29 rfl (Lp (p_load rfl Tryz.isAgg29 (.head _) (dc_g400_3 _ rfl)) (Lp (p_shr rfl rfl (show (0 : Int) ≤ 1 from by decide) rfl (shr1 b1 hh2)) (Ln rfl (Lf rfl Tryz.runUnderlying400 rfl Tryz.sizeOf29 rfl (TL_k0 (e_store1 rfl rfl Tryz.sizeOf29 rfl (K0 .nil) (dc_l400_3 _) rfl (dc_s400_3 _ _ rfl)) ?_))))))))
    rintro _ _ _ - ⟨rfl, rfl⟩
    refine nSR (Lm rfl (Ln rfl (Lf rfl Tryz.runUnderlying400 rfl Tryz.sizeOf29 rfl (Lp (p_load rfl Tryz.isAgg29 (.head _) (dc_g400_3 _ rfl)) (Lp (p_and rfl rfl (show bitsOf .and .u32 0 3 = 0 from by decide)) (La rfl (nSR (Lm rfl (Ln rfl ?_)))))))))
    refine Lf rfl Tryz.runUnderlying400 rfl Tryz.sizeOf29 rfl (Lp (p_load rfl Tryz.isAgg29 (.head _) (dc_g400_3 _ rfl)) (Lp (p_shr rfl rfl (show (0 : Int) ≤ 2 from by decide) rfl (show (0 : Int).fdiv (2 ^ 2) = 0 from by decide)) (Ln rfl (Lf rfl Tryz.runUnderlying400 rfl Tryz.sizeOf29 rfl (TL_k0 (e_store1 rfl rfl Tryz.sizeOf29 rfl (K0 .nil) (dc_l400_3 _) rfl (dc_s400_3 _ _ rfl)) ?_)))))
    rintro _ _ _ - ⟨rfl, rfl⟩
    refine nSR (Lm rfl (Ln rfl (Lf rfl Tryz.runUnderlying400 rfl Tryz.sizeOf103 rfl (Lp (p_load rfl Tryz.isAgg103 (.head _) (dc_g400_4 _ rfl)) (Lp (p_sub rfl rfl ((show IntKind.u64.wrap (((8 : Nat) : Int) - 3) = 5 from by decide))) (Ln rfl (Lf rfl Tryz.runUnderlying400 rfl Tryz.sizeOf103 rfl (TL_k0 (e_store1 rfl rfl Tryz.sizeOf103 rfl (K0 .nil) (dc_l400_4 _) rfl (dc_s400_4 _ _ rfl)) ?_))))))))
    rintro _ _ _ - ⟨rfl, rfl⟩
    refine nSR (Lm rfl (nS (T_block (SR (Lp (p_eql rfl rfl) (La rfl (nS (T_condD rfl (fun hc10 => ?_) (fun hc10 => ?_)))))))))
    ·
      try dsimp only at hc10
      skip
      refine T_region (Lm rfl ?_)
      refine Lk (e_call rfl (ct_dataBlock gA x hx s1 (pos + 1) hs1 N X hv' db _ hist t a n ⟨rfl, rfl, rfl, rfl, k5, k6, k7, k8, k9, k10, k11, k12⟩ rfl hwr m1 m2 (fun h => (by show decide _ = true; have := m4 h; rw [hhe, this]; rfl)) (by have e : decide (((b1 : Nat) : Int) = 1) = last := (by rw [hhe]; cases last <;> rfl); show Pre x.C N (pos + 1) (_ ++ (_ ++ ((if decide (((b1 : Nat) : Int) = 1) = true then [] else _) ++ X))); rw [e]; exact hP2) (fun h => m3 (by have e : decide (((b1 : Nat) : Int) = 1) = last := (by rw [hhe]; cases last <;> rfl); rw [← e]; exact h)) htl) (K0 (K0 (K0 (K0 (K0 (K0 (K0 (K0 (K0 .nil)))))))))) ?_
      rintro _ _ _ - ⟨_, rfl, ⟨s', hist', a', b', p', st', j1, j2, j3, j4, rfl⟩⟩
      refine TL_nil (E_block (E_end0 [_, _, _, _, _, _, _, _, _] rfl hlgA (K0 (K0 (K0 (K0 (K0 (K0 (K0 (K0 (K0 (K0 .nil)))))))))) (fun g' hl => ?_)))
      exact StepR.back ⟨s', hist', a', b', p', st', j1, j2, j3, j4, rfl⟩ rfl rfl (by omega)
    ·
      try dsimp only at hc10
      exact absurd rfl hc10
end Go.Proofs.YtolddodhmeaceaaGreatDoor
