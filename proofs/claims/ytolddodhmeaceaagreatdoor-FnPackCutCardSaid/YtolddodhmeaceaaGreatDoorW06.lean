/- Part 6 of the walk of laws.FnPackCut. -/
import Derived.Test.YtolddodhmeaceaaGreatDoorW05
set_option linter.unusedVariables false
set_option linter.unusedSimpArgs false
set_option maxRecDepth 100000
namespace Go.Proofs.YtolddodhmeaceaaGreatDoor
open Go.Hl Go.Pk
def RS (x : Fx) (N : Nat) (X : List UInt8) (hv : Value) (s : DS) (hist : List UInt8) (a b pos : Nat) (U : List UInt8) : Prop :=
  Dk x hv s hist a b ∧ U.length ≤ 1000000000 ∧ ((∃ t, (FGo x N X s pos t ∨ FEnd x N X s pos t) ∧ win hist a b ++ win hist s.rd s.wr ++ t = U) ∨ (FBad x s ∧ (b - a) + (s.wr - s.rd) ≤ U.length))
theorem StepR.weak {x : Fx} {N : Nat} {X : List UInt8} {hv : Value} {db : Nat} {s : DS} {hist : List UInt8} {pos : Nat} {t : List UInt8} {cc cc' : Prop} {H' : List Atom} (h : StepR x N X hv db s hist pos t cc H') (hc : cc → cc') : StepR x N X hv db s hist pos t cc' H' := by
  obtain ⟨s', hist', a', b', pos', st', k1, k2, k3, k4, k5⟩ := h
  refine ⟨s', hist', a', b', pos', st', k1, k2, k3, ?_, k5⟩
  rcases k4 with k4 | ⟨t', k6, k7, k8⟩
  · exact .inl k4
  · exact .inr ⟨t', k6, k7, k8.imp id (fun h => h.imp id fun h => ⟨hc h.1, h.2⟩)⟩
theorem step_ct (g : GW) (x : Fx) (hx : FxOk g x) (s0 : St) (pos : Nat) (hs : StOk x s0 pos) (N : Nat) (X : List UInt8) (hv : Value) (db : Nat) (s : DS) (hist t : List UInt8) (a : Nat) (hok : Dk x hv s hist a a) (hF : FGo x N X s pos t) (htl : t.length ≤ 1000000000) :
    ∃ f, s.st = FV f ∧ Ct Tryz.prog g f [.pointer (some ⟨db, 0, none⟩)] (dcB db s :: own hv 1 5 (bvs hist) :: stA x s0 pos) (fun _ _ H' => StepR x N X hv db s hist pos t (s.st = stepC) H') := by
  obtain ⟨h1, h2, h3⟩ := hF
  rcases h3 with ⟨h3, h4⟩ | ⟨h3, h4, h5, h6⟩
  · exact ⟨_, h3, (ct_nextBlock g x hx s0 pos hs N X hv db s hist t a hok h1 h2 h4 htl).mono fun _ _ _ _ h => h.weak (fun h => h.elim)⟩
  · exact ⟨_, h3, (ct_copyData g x hx s0 pos hs N X hv db s hist t a hok h1 h2 h4 h5 h6 htl).mono fun _ _ _ _ h => h.weak (fun _ => h3)⟩
noncomputable def mu (x : Fx) (s : DS) (p : Nat) : Nat := 3 * (x.C.length - p) + (if isB s.er .nilIface = true then (if isB s.st stepC = true then 2 else 1) else 0)
theorem mu_dec {x : Fx} {N : Nat} {X : List UInt8} {s s' : DS} {hist hist' : List UInt8} {a' b' pos pos' : Nat} {t : List UInt8} (her : s.er = .nilIface) (h1 : pos ≤ pos') (h2 : pos' ≤ x.C.length)
    (h : (FBad x s' ∧ (b' - a') + (s'.wr - s'.rd) ≤ (s.wr - s.rd) + t.length) ∨ ∃ t', (FGo x N X s' pos' t' ∨ FEnd x N X s' pos' t') ∧ win hist' a' b' ++ win hist' s'.rd s'.wr ++ t' = win hist s.rd s.wr ++ t ∧ (s'.er ≠ .nilIface ∨ pos < pos' ∨ (s.st = stepC ∧ s'.st = stepN))) : mu x s' pos' < mu x s pos := by
  have e1 : mu x s pos = 3 * (x.C.length - pos) + (if isB s.st stepC = true then 2 else 1) := by unfold mu; rw [her, isB_self, if_pos rfl]
  have e2 : s'.er ≠ .nilIface → mu x s' pos' = 3 * (x.C.length - pos') := fun h => by unfold mu; rw [isB_ne h, if_neg (by decide)]; rfl
  have e3 : mu x s' pos' ≤ 3 * (x.C.length - pos') + 2 := by unfold mu; split <;> (try split) <;> omega
  have e4 : 1 ≤ (if isB s.st stepC = true then 2 else 1) := by split <;> omega
  have hne : s'.er ≠ .nilIface → mu x s' pos' < mu x s pos := fun h => by rw [e2 h, e1]; omega
  rcases h with h | ⟨t', _, _, h | h | ⟨h3, h4⟩⟩
  · exact hne (by rw [show s'.er = _ from h.1]; intro h; cases h)
  · exact hne h
  · rw [e1]; omega
  · have : mu x s' pos' ≤ 3 * (x.C.length - pos') + 1 := by
      unfold mu
      rw [h4, isB_ne (show stepN ≠ stepC from by intro h; injection h with h; cases h)]
      split <;> simp
    rw [e1, h3, isB_self, if_pos rfl]; omega
theorem RS.step {x : Fx} {N : Nat} {X : List UInt8} {hv : Value} {s s' : DS} {hist hist' : List UInt8} {a a' b' pos' : Nat} {t U : List UInt8} {cc : Prop} (hU : U.length ≤ 1000000000) (he : win hist a a ++ win hist s.rd s.wr ++ t = U) (hl : hist.length = 32768) (hw : s.wr ≤ 32768) (hd : Dk x hv s' hist' a' b')
    (h : (FBad x s' ∧ (b' - a') + (s'.wr - s'.rd) ≤ (s.wr - s.rd) + t.length) ∨ ∃ t', (FGo x N X s' pos' t' ∨ FEnd x N X s' pos' t') ∧ win hist' a' b' ++ win hist' s'.rd s'.wr ++ t' = win hist s.rd s.wr ++ t ∧ cc) : RS x N X hv s' hist' a' b' pos' U := by
  rw [win_nil, List.nil_append] at he
  refine ⟨hd, hU, ?_⟩
  rcases h with ⟨h1, h2⟩ | ⟨t', h1, h2, h3⟩
  · refine .inr ⟨h1, ?_⟩
    rw [← he, List.length_append]
    have : (win hist s.rd s.wr).length = s.wr - s.rd := by unfold win; rw [List.length_take, List.length_drop]; omega
    omega
  · exact .inl ⟨t', h1, h2.trans he⟩
theorem RS.flush {x : Fx} {N : Nat} {X : List UInt8} {hv : Value} {s : DS} {hist : List UInt8} {a b pos w : Nat} {fu : Bool} {U : List UInt8} (h : RS x N X hv s hist a b pos U) (her : s.er ≠ .nilIface) (hb : b - a = 0) (hw : w < 32768) :
    RS x N X hv ⟨s.r, s.rb, s.ro, s.b, s.nb, s.bt, s.cb, s.hv, w, w, fu, s.q0, s.q1, s.q2, s.q3, s.st, s.ss, s.fi, s.er, sl s.hv s.rd s.wr 1, s.hl, s.hd, s.cl, s.cd⟩ hist s.rd s.wr pos U := by
  obtain ⟨hd, hU, h⟩ := h
  refine ⟨⟨hd.r, hd.nb, hd.bb, hd.hve, hd.sh, hd.hl, Nat.le_refl _, Nat.le_of_lt hw, hd.rw, hd.w, fun _ => (by show sl s.hv _ _ _ = _; rw [hd.hve]), (by show Shp (sl s.hv _ _ _) _; rw [hd.hve]; exact hd.sh.sl hd.rw hd.w)⟩, hU, ?_⟩
  have hab := hd.ab
  obtain rfl : a = b := by omega
  rcases h with ⟨t, h1, h2⟩ | ⟨h1, h2⟩
  · rcases h1 with h1 | ⟨h1, rfl, h3, h4⟩
    · exact absurd h1.1 her
    · rw [win_nil, List.nil_append] at h2
      exact .inl ⟨[], .inr ⟨h1, rfl, rfl, h4⟩, by show win hist s.rd s.wr ++ win hist w w ++ [] = U; rw [win_nil, List.append_nil]; exact h2⟩
  · exact .inr ⟨h1, by show (s.wr - s.rd) + (w - w) ≤ _; omega⟩
theorem RS.errN {g : GW} {x : Fx} (hx : FxOk g x) {N : Nat} {X : List UInt8} {hv : Value} {s : DS} {hist : List UInt8} {a b pos : Nat} {U : List UInt8} (h : RS x N X hv s hist a b pos U) : ErrN ES g s.er := by
  rcases h.2.2 with ⟨t, h1 | h1, h2⟩ | ⟨h1, h2⟩
  · exact .inl h1.1
  · exact .inr ⟨_, h1.1, hx.env.peof⟩
  · exact .inr ⟨_, h1, hx.env.pueof⟩
theorem sl_more {v : Value} {n a b k : Nat} (hv : Shp v n) (hb : b ≤ n) (h : a + k < b) : sl (sl v a b 1) k (b - a) 1 = sl v (a + k) b 1 := by
  rcases hv with ⟨p0, cap, rfl, rfl, hp0⟩ | ⟨bl, o, cap, hc, rfl⟩
  · omega
  · rw [sl_some, sl_some, sl_some, if_neg (by omega), if_neg (by omega), if_neg (by omega)]
    congr 1
    · congr 2; omega
    · omega
    · omega
theorem win_split {h : List UInt8} {a b k : Nat} (hk : a + k ≤ b) : win h a b = (win h a b).take k ++ win h (a + k) b := by
  have e : win h (a + k) b = (win h a b).drop k := by
    unfold win
    rw [List.drop_take, List.drop_drop]
    congr 1; omega
  rw [e, List.take_append_drop]
theorem win_len {h : List UInt8} {a b : Nat} (hb : b ≤ h.length) : (win h a b).length = b - a := by
  unfold win; rw [List.length_take, List.length_drop]; omega
/-- What Read leaves. -/
def ReadR (x : Fx) (N : Nat) (X : List UInt8) (hv : Value) (db : Nat) (U : List UInt8) (bd : Prop) (m pos : Nat) (A : List UInt8 → Atom) (xs : List UInt8) (v : Value) (H' : List Atom) : Prop :=
  ∃ (s' : DS) (hist' : List UInt8) (a' b' pos' : Nat) (st' : St) (n : Nat) (er : Value) (data : List UInt8), v = .tuple #[.int .i64 n, er] ∧ n ≤ m ∧ data.length = n ∧ StOk x st' pos' ∧ pos ≤ pos' ∧
    H' = A (data ++ xs.drop n) :: dcB db s' :: own hv 1 5 (bvs hist') :: stA x st' pos' ∧
    ((er = .nilIface ∧ 1 ≤ n ∧ (bd → FBad x s') ∧ ∃ U', RS x N X hv s' hist' a' b' pos' U' ∧ U'.length + n = U.length ∧ (FBad x s' ∨ U = data ++ U')) ∨ (er = EVal ES x.uE ∧ n ≤ U.length ∧ s'.er = er) ∨ (er = EVal ES x.eE ∧ U = data ∧ Pre x.C N pos' X ∧ s'.er = er ∧ ¬ bd))
theorem RS.take {x : Fx} {N : Nat} {X : List UInt8} {hv : Value} {s : DS} {hist : List UInt8} {a b pos k : Nat} {U : List UInt8} {tr : Value} (h : RS x N X hv s hist a b pos U) (hk : a + k ≤ b) (h1 : a + k < b → tr = sl hv (a + k) b 1) (h2 : Shp tr (b - (a + k))) :
    RS x N X hv ⟨s.r, s.rb, s.ro, s.b, s.nb, s.bt, s.cb, s.hv, s.wr, s.rd, s.fu, s.q0, s.q1, s.q2, s.q3, s.st, s.ss, s.fi, s.er, tr, s.hl, s.hd, s.cl, s.cd⟩ hist (a + k) b pos (U.drop k) ∧ (U.drop k).length + k = U.length ∧ (FBad x s ∨ U = (win hist a b).take k ++ U.drop k) := by
  obtain ⟨hd, hU, h⟩ := h
  have hl := win_len (h := hist) (a := a) (b := b) (by rw [hd.hl]; exact hd.bl)
  have hd2 : Dk x hv ⟨s.r, s.rb, s.ro, s.b, s.nb, s.bt, s.cb, s.hv, s.wr, s.rd, s.fu, s.q0, s.q1, s.q2, s.q3, s.st, s.ss, s.fi, s.er, tr, s.hl, s.hd, s.cl, s.cd⟩ hist (a + k) b :=
    ⟨hd.r, hd.nb, hd.bb, hd.hve, hd.sh, hd.hl, hd.rw, hd.w, hk, hd.bl, h1, h2⟩
  rcases h with ⟨t, h3, h4⟩ | ⟨h3, h4⟩
  · have e1 := win_split (h := hist) hk
    have e2 : ((win hist a b).take k).length = k := by rw [List.length_take]; omega
    have e3 : U = (win hist a b).take k ++ (win hist (a + k) b ++ win hist s.rd s.wr ++ t) := by
      rw [← h4]
      conv => lhs; rw [e1]
      simp only [List.append_assoc]
    have e4 : U.drop k = win hist (a + k) b ++ win hist s.rd s.wr ++ t := by
      rw [e3, List.drop_append_of_le_length (by omega), List.drop_of_length_le (by omega), List.nil_append]
    refine ⟨⟨hd2, by rw [List.length_drop]; omega, .inl ⟨t, h3, e4.symm⟩⟩, ?_, .inr (by rw [e4]; exact e3)⟩
    rw [e4, e3]; simp only [List.length_append] at e2 ⊢; omega
  · refine ⟨⟨hd2, by rw [List.length_drop]; omega, .inr ⟨h3, ?_⟩⟩, by rw [List.length_drop]; omega, .inl h3⟩
    show (b - (a + k)) + (s.wr - s.rd) ≤ _
    rw [List.length_drop]; omega
theorem read_part {x : Fx} {bd : Prop} (hne : x.eE ≠ x.uE) {N : Nat} {X : List UInt8} {hv : Value} {db : Nat} {s : DS} {hist U : List UInt8} {a b pos p k m : Nat} {s0 : St} {A : List UInt8 → Atom} {xs : List UInt8} {tr : Value} {H' : List Atom} (hR : RS x N X hv s hist a b p U) (hbd : bd → FBad x s) (hs : StOk x s0 p) (hp : pos ≤ p) (hab : a < b) (hk : a + k < b) (hk1 : 1 ≤ k) (hkm : k ≤ m) (hkd : ((win hist a b).take k).length = k)
    (h1 : tr = sl hv (a + k) b 1) (h2 : Shp tr (b - a - k))
    (hH : H' = A ((win hist a b).take k ++ xs.drop k) :: dcB db ⟨s.r, s.rb, s.ro, s.b, s.nb, s.bt, s.cb, s.hv, s.wr, s.rd, s.fu, s.q0, s.q1, s.q2, s.q3, s.st, s.ss, s.fi, s.er, tr, s.hl, s.hd, s.cl, s.cd⟩ :: own hv 1 5 (bvs hist) :: stA x s0 p) :
    ReadR x N X hv db U bd m pos A xs (.tuple #[.int .i64 k, .nilIface]) H' := by
  obtain ⟨q1, q2, q3⟩ := hR.take (k := k) (by omega) (fun _ => h1) (by rw [← Nat.sub_sub]; exact h2)
  exact ⟨_, hist, a + k, b, p, s0, k, _, _, rfl, hkm, hkd, hs, hp, hH, .inl ⟨rfl, hk1, hbd, _, q1, q2, q3⟩⟩
theorem read_all {x : Fx} {bd : Prop} (hne : x.eE ≠ x.uE) {N : Nat} {X : List UInt8} {hv : Value} {db : Nat} {s : DS} {hist U : List UInt8} {a b pos p k m : Nat} {s0 : St} {A : List UInt8 → Atom} {xs : List UInt8} {tr : Value} {H' : List Atom} (hR : RS x N X hv s hist a b p U) (hbd : bd → FBad x s) (hs : StOk x s0 p) (hp : pos ≤ p) (hab : a < b) (hk : k = b - a) (hkm : k ≤ m) (hkd : ((win hist a b).take k).length = k)
    (h2 : Shp tr (b - a - k))
    (hH : H' = A ((win hist a b).take k ++ xs.drop k) :: dcB db ⟨s.r, s.rb, s.ro, s.b, s.nb, s.bt, s.cb, s.hv, s.wr, s.rd, s.fu, s.q0, s.q1, s.q2, s.q3, s.st, s.ss, s.fi, s.er, tr, s.hl, s.hd, s.cl, s.cd⟩ :: own hv 1 5 (bvs hist) :: stA x s0 p) :
    ReadR x N X hv db U bd m pos A xs (.tuple #[.int .i64 k, s.er]) H' := by
  obtain ⟨q1, q2, q3⟩ := hR.take (k := k) (tr := tr) (by omega) (fun h => by omega) (by rw [← Nat.sub_sub]; exact h2)
  refine ⟨_, hist, a + k, b, p, s0, k, _, _, rfl, hkm, hkd, hs, hp, hH, ?_⟩
  rcases hR.2.2 with ⟨t, h1 | h1, h3⟩ | ⟨h1, h3⟩
  · exact .inl ⟨h1.1, by omega, hbd, _, q1, q2, q3⟩
  · obtain ⟨e1, rfl, e3, e4⟩ := h1
    refine .inr (.inr ⟨e1, ?_, e4, rfl, fun h => hne (EVal_inj.1 (e1.symm.trans (hbd h)))⟩)
    rw [← h3, e3, win_nil, List.append_nil, List.append_nil, List.take_of_length_le]
    rw [win_len (by rw [hR.1.hl]; exact hR.1.bl)]; omega
  · exact .inr (.inl ⟨h1, by omega, rfl⟩)
theorem read_end {x : Fx} {bd : Prop} (hne : x.eE ≠ x.uE) {N : Nat} {X : List UInt8} {hv : Value} {db : Nat} {s : DS} {hist U : List UInt8} {a pos p m : Nat} {s0 : St} {A : List UInt8 → Atom} {xs : List UInt8} {H' : List Atom} (hR : RS x N X hv s hist a a p U) (hbd : bd → FBad x s) (hs : StOk x s0 p) (hp : pos ≤ p) (her : s.er ≠ .nilIface)
    (hH : H' = A xs :: dcB db s :: own hv 1 5 (bvs hist) :: stA x s0 p) :
    ReadR x N X hv db U bd m pos A xs (.tuple #[.int .i64 0, s.er]) H' := by
  refine ⟨s, hist, a, a, p, s0, 0, _, [], rfl, Nat.zero_le _, rfl, hs, hp, hH, ?_⟩
  rcases hR.2.2 with ⟨t, h1 | h1, h3⟩ | ⟨h1, h3⟩
  · exact absurd h1.1 her
  · obtain ⟨e1, rfl, e3, e4⟩ := h1
    refine .inr (.inr ⟨e1, ?_, e4, rfl, fun h => hne (EVal_inj.1 (e1.symm.trans (hbd h)))⟩)
    rw [← h3, e3, win_nil, win_nil]; rfl
  · exact .inr (.inl ⟨h1, Nat.zero_le _, rfl⟩)
theorem ct_flRead (g : GW) (x : Fx) (hx : FxOk g x) (s0 : St) (pos : Nat) (hs : StOk x s0 pos) (N : Nat) (X : List UInt8) (hv : Value) (db : Nat) (s : DS) (hist U : List UInt8) (a b : Nat) (hR : RS x N X hv s hist a b pos U) (pv : Value) (m : Nat) (A : List UInt8 → Atom) (xs : List UInt8) (hB : Bf pv m A) (hxs : xs.length = m) (hm : 1 ≤ m) (hm2 : m ≤ 1000000000) :
    Ct Tryz.prog g 311 [.pointer (some ⟨db, 0, none⟩), pv] (A xs :: dcB db s :: own hv 1 5 (bvs hist) :: stA x s0 pos) (fun v _ H' => ReadR x N X hv db U (FBad x s) m pos A xs v H') := by
  refine CI Tryz.func311 Tryz.ntmps311 rfl fun F g0 hg0 => ?_
  replace hx := hx.mono hg0
  refine SR (La rfl (La rfl (nS (T_block (T_loop (ι := DS × List UInt8 × Nat × Nat × St × Nat) (fun y _ => StOk x y.2.2.2.2.1 y.2.2.2.2.2 ∧ pos ≤ y.2.2.2.2.2 ∧ RS x N X hv y.1 y.2.1 y.2.2.1 y.2.2.2.1 y.2.2.2.2.2 U ∧ (FBad x s → FBad x y.1)) (fun y => [(0, .pointer (some ⟨db, 0, none⟩)), (1, pv)]) (fun y => [A xs, dcB db y.1, own hv 1 5 (bvs y.2.1), blk x.sr (.cells (srC (brV x.br) x.wv x.rb x.wb y.2.2.2.2.2) 170), blk x.br (.cells (brC x.cv y.2.2.2.2.1.rb.i y.2.2.2.2.1.rb.pr) 133), blk x.rb (.cells (rbC x.bv (brV x.br) y.2.2.2.2.1.rb.r y.2.2.2.2.1.rb.w .nilIface y.2.2.2.2.1.rb.lb y.2.2.2.2.1.rb.lr) 263), own x.bv 1 5 (bvs y.2.2.2.2.1.rb.bl), blk x.wb (.cells (bwC .nilIface x.bv2 y.2.2.2.2.1.bw.n x.wv) 258), own x.bv2 1 5 (bvs y.2.2.2.2.1.bw.bl), y.2.2.2.2.1.bw.S, F]) (fun y => mu x y.1 y.2.2.2.2.2) ((s, hist, a, b, s0, pos)) (fun g' hl => ⟨hs, Nat.le_refl _, hR, id⟩) (by repeat (first | exact SubL.nil | refine SubL.cons rfl ?_)) (K0 (K0 (K0 (K0 (K0 (K0 (K0 (K0 (K0 (K0 (K0 .nil))))))))))) ?_)))))
  rintro ⟨s, hist, a, b, s0, p⟩ gA hlgA ⟨hs, hpp, hR, hbd⟩
  try dsimp only
  try dsimp only at hs hpp hR hbd
  replace hx := hx.mono hlgA
  have hd := hR.1
  have hdab := hd.ab
  have hdbl := hd.bl
  have hdw := hd.w
  have hdrw := hd.rw
  have hpl := hs.le
  refine T_block (T_seq (SR (Lm rfl (Ln rfl (Lf rfl Tryz.runUnderlying400 rfl Tryz.sizeOf25 rfl (Lp (p_load rfl Tryz.isAgg25 (.tail _ (.head _)) (dc_g400_15 _ rfl)) (Lp (p_len hd.sp rfl rfl Tryz.runUnderlying25) (Lp (p_gtr rfl rfl) (nS (T_condD rfl (fun hc2 => ?_) (fun hc2 => ?_)))))))))))
  ·
    try dsimp only at hc2
    have hab : a < b := by omega
    have htr := hd.tr hab
    refine SR (Lm rfl (Lm rfl (Ln rfl (Lf rfl Tryz.runUnderlying400 rfl Tryz.sizeOf25 rfl (Lp (p_load rfl Tryz.isAgg25 (.tail _ (.head _)) ((dc_g400_15 _ rfl).trans (congrArg some htr))) (Lk (e_copyB (A := A) rfl rfl rfl Tryz.runUnderlying25 Tryz.sizeOf5 (src_bfSl (A := fun ys => own hv 1 5 (bvs ys)) (Bf.own 5 hd.sh) hd.hl (.tail _ (.tail _ (.head _))) hdab hdbl rfl) (hB) hxs (K0 .nil)) ?_))))))
    rintro _ _ _ - ⟨rfl, rfl⟩
    obtain ⟨k, hk⟩ : ∃ k, k = min (b - a) m := ⟨_, rfl⟩
    rw [← hk]
    have hkd : ((win hist a b).take k).length = k := by { rw [List.length_take, win_len (by rw [hd.hl]; exact hdbl)]; omega }
    refine La rfl (nSR (Lm rfl (Lm rfl (Ln rfl (Lf rfl Tryz.runUnderlying400 rfl Tryz.sizeOf25 rfl (Lp (p_load rfl Tryz.isAgg25 (.tail _ (.head _)) ((dc_g400_15 _ rfl).trans (congrArg some htr))) (Lm rfl (Lp (p_slL (n := b - a) (a := k) (hd.sh.sl hdab hdbl) rfl Tryz.runUnderlying25 Tryz.sizeOf5 rfl rfl (by omega) rfl) (Ln rfl ?_)))))))))
    refine Lf rfl Tryz.runUnderlying400 rfl Tryz.sizeOf25 rfl (TL_k0 (e_store1 rfl rfl Tryz.sizeOf25 (Shp.one ((hd.sh.sl hdab hdbl).sl (show k ≤ b - a from by omega) (Nat.le_refl _))) (K1 .nil) (dc_l400_15 _) rfl (dc_s400_15 _ _ rfl)) ?_)
    rintro _ _ _ - ⟨rfl, rfl⟩
    refine nS (T_seq (SR (Lm rfl (Ln rfl (Lf rfl Tryz.runUnderlying400 rfl Tryz.sizeOf25 rfl (Lp (p_load rfl Tryz.isAgg25 (.head _) (dc_g400_15 _ rfl)) (Lp (p_len ((hd.sh.sl hdab hdbl).sl (show k ≤ b - a from by omega) (Nat.le_refl _)) rfl rfl Tryz.runUnderlying25) (Lp (p_eql rfl rfl) (nS (T_condD rfl (fun hc5 => ?_) (fun hc5 => ?_)))))))))))
    ·
      try dsimp only at hc5
      skip
      refine T_seq (T_regionD 7 Tryz.mixed rfl Part.all (Dp 0 rfl (p_move rfl) (Dp 1 rfl (p_move rfl) (Dp 2 rfl (p_nilCheck rfl) (Dp 3 rfl (p_fieldAddr rfl Tryz.runUnderlying400 rfl Tryz.sizeOf64 rfl) (Dp 4 rfl (p_load rfl Tryz.isAgg64 (.head _) (dc_g400_14 _ rfl)) (Dp 5 rfl (p_assign rfl) (Dp 6 rfl (p_assign rfl) (DD ?_)))))))))
      refine E_seq (T_ret (E_seq_ret (E_seq_ret (E_block_ret (E_loop_ret (E_block_ret (E_ret2 [_, _, _, _, _, _, _, _, _, _] rfl hlgA rfl rfl (K1 (K0 (K0 (K0 (K0 (K0 (K0 (K0 (K0 (K0 (K0 .nil))))))))))) (fun g' hl => ?_))))))))
      exact read_all hx.env.ne hR hbd hs hpp hab (by omega) (show k ≤ m from by omega) hkd ((hd.sh.sl hdab hdbl).sl (show k ≤ b - a from by omega) (Nat.le_refl _)) rfl
    ·
      try dsimp only at hc5
      skip
      refine kS (SR (Lm rfl (La rfl (La rfl (nr (E_seq_ret (E_block_ret (E_loop_ret (E_block_ret (E_ret2 [_, _, _, _, _, _, _, _, _, _] rfl hlgA rfl rfl (K1 (K0 (K0 (K0 (K0 (K0 (K0 (K0 (K0 (K0 (K0 .nil))))))))))) (fun g' hl => ?_)))))))))))
      exact read_part hx.env.ne hR hbd hs hpp hab (by omega) (by omega) (show k ≤ m from by omega) hkd (sl_more hd.sh hdbl (by omega)) ((hd.sh.sl hdab hdbl).sl (show k ≤ b - a from by omega) (Nat.le_refl _)) rfl
  ·
    try dsimp only at hc2
    obtain rfl : a = b := by omega
    refine kS (T_seq (SR (Lm rfl (Ln rfl (Lf rfl Tryz.runUnderlying400 rfl Tryz.sizeOf64 rfl (Lp (p_load rfl Tryz.isAgg64 (.tail _ (.head _)) (dc_g400_14 _ rfl)) (Lp (p_neqE0 (hR.errN hx).ifn rfl Tryz.underlying64) (nS (T_condNB rfl (fun hc6 => ?_) (fun hc6 => ?_))))))))))
    ·
      try dsimp only at hc6
      have her := isB_f hc6
      refine T_seq (T_regionD 6 Tryz.mixed rfl Part.all (Dp 0 rfl (p_move rfl) (Dp 1 rfl (p_nilCheck rfl) (Dp 2 rfl (p_fieldAddr rfl Tryz.runUnderlying400 rfl Tryz.sizeOf64 rfl) (Dp 3 rfl (p_load rfl Tryz.isAgg64 (.tail _ (.head _)) (dc_g400_14 _ rfl)) (Dp 4 rfl (p_assign rfl) (Dp 5 rfl (p_assign rfl) (DD (E_seq ?_)))))))))
      refine T_ret (E_seq_ret (E_block_ret (E_loop_ret (E_block_ret (E_ret2 [_, _, _, _, _, _, _, _, _, _] rfl hlgA rfl rfl (K0 (K0 (K0 (K0 (K0 (K0 (K0 (K0 (K0 (K0 (K0 .nil))))))))))) (fun g' hl => ?_))))))
      exact read_end hx.env.ne hR hbd hs hpp her rfl
    ·
      try dsimp only at hc6
      have her := isB_t hc6
      obtain ⟨t, hF, hUe⟩ := hR.2.2.resolve_right (fun h => by have h1 := (show s.er = _ from h.1).symm.trans her; cases h1)
      replace hF := hF.resolve_right (fun h => by have h1 := h.1.symm.trans her; cases h1)
      have htl : t.length ≤ 1000000000 := by { have := hR.2.1; rw [← hUe] at this; simp only [List.length_append] at this; omega }
      obtain ⟨f, hf, hct⟩ := step_ct gA x hx s0 p hs N X hv db s hist t a hd hF htl
      refine kS (SR (Lm rfl (Ln rfl (Lf rfl Tryz.runUnderlying400 rfl Tryz.sizeOf397 rfl (Lp (p_load rfl Tryz.isAgg397 (.tail _ (.head _)) ((dc_g400_11 _ rfl).trans (congrArg some hf))) (Lm rfl (Lk (e_callV rfl rfl (hct) (K1 (K1 (K1 (K1 (K1 (K1 (K1 (K1 (K1 .nil)))))))))) ?_)))))))
      rintro _ _ _ - ⟨_, rfl, ⟨s', hist', a', b', p', st', j1, j2, j3, j4, rfl⟩⟩
      refine nSR ?_
      have hRS := RS.step hR.2.1 hUe hd.hl hdw j2 j4
      have hmu := mu_dec her j3 j1.le j4
      refine Lm rfl (Ln rfl (Lf rfl Tryz.runUnderlying400 rfl Tryz.sizeOf64 rfl (Lp (p_load rfl Tryz.isAgg64 (.head _) (dc_g400_14 _ rfl)) (Lp (p_neqE0 (hRS.errN hx).ifn rfl Tryz.underlying64) (Lm rfl (TL_splitNB 60 rfl (fun hg8 => ?_) (fun hg8 => ?_)))))))
      ·
        try dsimp only at hg8
        refine Lg (p_move rfl) (Lg (p_nilCheck rfl) (Lg (p_fieldAddr rfl Tryz.runUnderlying400 rfl Tryz.sizeOf25 rfl) (Lg (p_load rfl Tryz.isAgg25 (.head _) (dc_g400_15 _ rfl)) (Lg (p_len j2.sp rfl rfl Tryz.runUnderlying25) (Lg (p_eql rfl rfl) (Lp (p_pickT rfl rfl) (nS (T_condD rfl (fun hc9 => ?_) (fun hc9 => ?_)))))))))
        ·
          try dsimp only at hc9
          skip
          refine T_region (Lm rfl (Lm rfl (Ln rfl (Lf rfl Tryz.runUnderlying400 rfl Tryz.sizeOf396 rfl ?_))))
          refine Lk (e_call rfl (ct_readFlush gA db _ j2.rw j2.w (by rw [j2.hve]; exact j2.sh)) (K0 .nil)) ?_
          rintro _ _ _ - ⟨_, rfl, ⟨wr2, fu2, rfl, hwr2, rfl⟩⟩
          refine Ln rfl (Lf rfl Tryz.runUnderlying400 rfl Tryz.sizeOf25 rfl ?_)
          refine TL_k0 (e_store1 rfl rfl Tryz.sizeOf25 (Shp.one ((show Shp s'.hv 32768 from by rw [j2.hve]; exact j2.sh).sl j2.rw j2.w)) (K0 .nil) (dc_l400_15 _) rfl (dc_s400_15 _ _ rfl)) ?_
          rintro _ _ _ - ⟨rfl, rfl⟩
          refine TL_nil (E_block (EL (.refl _) ((_, hist', s'.rd, s'.wr, st', p')) ?hm ?hI ((.cons (.there (.there (.there (.there (.there (.there (.there (.there (.there .here))))))))) (K0 (K0 (K0 (K0 (K0 (K0 (K0 (K0 (K0 (K0 .nil))))))))))))))
          case hm => exact (hmu)
          case hI => exact (fun g' hl => ⟨j1, by dsimp only; omega, hRS.flush (isB_f (by simpa using (by assumption))) (by omega) hwr2, fun h => absurd ((show s.er = _ from hbd h).symm.trans her) (fun h => by cases h)⟩)
        ·
          try dsimp only at hc9
          skip
          refine T_skip (E_block (EL (.refl _) ((s', hist', a', b', st', p')) ?hm ?hI ((.cons (.there (.there (.there (.there (.there (.there (.there (.there (.there .here))))))))) (K0 (K0 (K0 (K0 (K0 (K0 (K0 (K0 (K0 (K0 .nil))))))))))))))
          case hm => exact (hmu)
          case hI => exact (fun g' hl => ⟨j1, by dsimp only; omega, hRS, fun h => absurd ((show s.er = _ from hbd h).symm.trans her) (fun h => by cases h)⟩)
      ·
        try dsimp only at hg8
        refine Ls (Ls (Ls (Ls (Ls (Ls (Lp (p_pickF rfl rfl) (nS (T_condF rfl (T_skip ?_)))))))))
        refine E_block (EL (.refl _) ((s', hist', a', b', st', p')) ?hm ?hI ((.cons (.there (.there (.there (.there (.there (.there (.there (.there (.there .here))))))))) (K0 (K0 (K0 (K0 (K0 (K0 (K0 (K0 (K0 (K0 .nil)))))))))))))
        case hm => exact (hmu)
        case hI => exact (fun g' hl => ⟨j1, by dsimp only; omega, hRS, fun h => absurd ((show s.er = _ from hbd h).symm.trans her) (fun h => by cases h)⟩)
end Go.Proofs.YtolddodhmeaceaaGreatDoor
namespace Go.Proofs.YtolddodhmeaceaaGreatDoor
open Go.Hl Go.Pk
theorem orU {k : IntKind} (hk : k.signed = false) (i a b : Nat) (ha : a < 2 ^ i) (hb : b * 2 ^ i + a < 2 ^ k.bits) : bitsOf .or k (a : Int) ((b * 2 ^ i : Nat) : Int) = ((b * 2 ^ i + a : Nat) : Int) := by
  rw [bitsOf_orN hk a (b * 2 ^ i) (by omega) (by omega)]
  have := Nat.two_pow_add_eq_or_of_lt ha b
  rw [Nat.or_comm, Nat.mul_comm, ← this]
theorem ct_be16 (g : GW) (v : Value) (m : Nat) (A : List UInt8 → Atom) (xs : List UInt8) (hB : Bf v m A) (hx : xs.length = m) (y0 y1 : UInt8) (h0 : xs[0]? = some y0) (h1 : xs[1]? = some y1) :
    Ct Tryz.prog g 187 [.agg #[], v] [A xs] (fun r _ H' => r = .int .u16 ((y0.toNat * 256 + y1.toNat : Nat) : Int) ∧ H' = [A xs]) := by
  have hm : 1 < m := by rw [← hx]; exact (List.getElem?_eq_some_iff.1 h1).1
  have e0 := u8lt y0
  have e1 := u8lt y1
  refine CI Tryz.func187 Tryz.ntmps187 rfl fun F g0 hg0 => ?_
  refine SR (Lk (e_box rfl rfl) ?_)
  rintro _ _ _ - ⟨e, rfl, rfl⟩
  refine La rfl (nSR (Lm rfl (Lp (p_ix (hB.shp) (j := 1) rfl rfl Tryz.runUnderlying25 Tryz.sizeOf5 rfl (by omega) rfl) (Lp (p_ldBf (j := 1) hB hx rfl Tryz.isAgg5 (.tail _ (.head _)) h1) (nS (T_seq (T_regionD 11 Tryz.mixed rfl Part.all (Dp 0 rfl (p_move rfl) (Dp 1 rfl (p_ix (hB.shp) (j := 1) rfl rfl Tryz.runUnderlying25 Tryz.sizeOf5 rfl (by omega) rfl) ?_)))))))))
  refine Dp 2 rfl (p_ldBf (j := 1) hB hx rfl Tryz.isAgg5 (.tail _ (.head _)) h1) (Dp 3 rfl (p_conv rfl Tryz.runUnderlying5 Tryz.runUnderlying280 (wrU16 (by omega) (by omega))) (Dp 4 rfl (p_move rfl) (Dp 5 rfl (p_ix (hB.shp) (j := 0) rfl rfl Tryz.runUnderlying25 Tryz.sizeOf5 rfl (by omega) rfl) (Dp 6 rfl (p_ldBf (j := 0) hB hx rfl Tryz.isAgg5 (.tail _ (.head _)) h0) (Dp 7 rfl (p_conv rfl Tryz.runUnderlying5 Tryz.runUnderlying280 (wrU16 (by omega) (by omega))) ?_)))))
  refine Dp 8 rfl (p_shl rfl rfl (by decide) rfl (show IntKind.u16.wrap ((y0.toNat : Int) * 2 ^ 8) = ((y0.toNat * 2 ^ 8 : Nat) : Int) from by rw [wrU16 (by omega) (by omega)]; omega)) ?_
  refine Dp 9 rfl (p_or rfl rfl (orU rfl 8 y1.toNat y0.toNat (by omega) (by show _ < 65536; omega))) ?_
  refine Dp 10 rfl (p_assign rfl) (DD (E_seq (T_ret (E_ret1 [_] rfl (.refl _) rfl (K1 (K1 .nil)) (fun g' hl => ?_)))))
  exact ⟨rfl, rfl⟩
theorem ct_be32 (g : GW) (v : Value) (m : Nat) (A : List UInt8 → Atom) (xs : List UInt8) (hB : Bf v m A) (hx : xs.length = m) (y0 y1 y2 y3 : UInt8) (h0 : xs[0]? = some y0) (h1 : xs[1]? = some y1) (h2 : xs[2]? = some y2) (h3 : xs[3]? = some y3) :
    Ct Tryz.prog g 188 [.agg #[], v] [A xs] (fun r _ H' => r = .int .u32 ((y0.toNat * 2 ^ 24 + (y1.toNat * 2 ^ 16 + (y2.toNat * 2 ^ 8 + y3.toNat)) : Nat) : Int) ∧ H' = [A xs]) := by
  have hm : 3 < m := by rw [← hx]; exact (List.getElem?_eq_some_iff.1 h3).1
  have e0 := u8lt y0
  have e1 := u8lt y1
  have e2 := u8lt y2
  have e3 := u8lt y3
  refine CI Tryz.func188 Tryz.ntmps188 rfl fun F g0 hg0 => ?_
  refine SR (Lk (e_box rfl rfl) ?_)
  rintro _ _ _ - ⟨e, rfl, rfl⟩
  refine La rfl (nSR (Lm rfl (Lp (p_ix (hB.shp) (j := 3) rfl rfl Tryz.runUnderlying25 Tryz.sizeOf5 rfl (by omega) rfl) (Lp (p_ldBf (j := 3) hB hx rfl Tryz.isAgg5 (.tail _ (.head _)) h3) (nS (T_seq (T_regionD 23 Tryz.mixed rfl Part.all (Dp 0 rfl (p_move rfl) (Dp 1 rfl (p_ix (hB.shp) (j := 3) rfl rfl Tryz.runUnderlying25 Tryz.sizeOf5 rfl (by omega) rfl) ?_)))))))))
  refine Dp 2 rfl (p_ldBf (j := 3) hB hx rfl Tryz.isAgg5 (.tail _ (.head _)) h3) (Dp 3 rfl (p_conv rfl Tryz.runUnderlying5 Tryz.runUnderlying29 (wrU32 (by omega) (by omega))) (Dp 4 rfl (p_move rfl) (Dp 5 rfl (p_ix (hB.shp) (j := 2) rfl rfl Tryz.runUnderlying25 Tryz.sizeOf5 rfl (by omega) rfl) (Dp 6 rfl (p_ldBf (j := 2) hB hx rfl Tryz.isAgg5 (.tail _ (.head _)) h2) (Dp 7 rfl (p_conv rfl Tryz.runUnderlying5 Tryz.runUnderlying29 (wrU32 (by omega) (by omega))) ?_)))))
  refine Dp 8 rfl (p_shl rfl rfl (by decide) rfl (show IntKind.u32.wrap ((y2.toNat : Int) * 2 ^ 8) = ((y2.toNat * 2 ^ 8 : Nat) : Int) from by rw [wrU32 (by omega) (by omega)]; omega)) ?_
  refine Dp 9 rfl (p_or rfl rfl (orU rfl 8 y3.toNat y2.toNat (by omega) (by show _ < 4294967296; omega))) ?_
  refine Dp 10 rfl (p_move rfl) (Dp 11 rfl (p_ix (hB.shp) (j := 1) rfl rfl Tryz.runUnderlying25 Tryz.sizeOf5 rfl (by omega) rfl) (Dp 12 rfl (p_ldBf (j := 1) hB hx rfl Tryz.isAgg5 (.tail _ (.head _)) h1) (Dp 13 rfl (p_conv rfl Tryz.runUnderlying5 Tryz.runUnderlying29 (wrU32 (by omega) (by omega))) ?_)))
  refine Dp 14 rfl (p_shl rfl rfl (by decide) rfl (show IntKind.u32.wrap ((y1.toNat : Int) * 2 ^ 16) = ((y1.toNat * 2 ^ 16 : Nat) : Int) from by rw [wrU32 (by omega) (by omega)]; omega)) ?_
  refine Dp 15 rfl (p_or rfl rfl (orU rfl 16 (y2.toNat * 2 ^ 8 + y3.toNat) y1.toNat (by omega) (by show _ < 4294967296; omega))) ?_
  refine Dp 16 rfl (p_move rfl) (Dp 17 rfl (p_ix (hB.shp) (j := 0) rfl rfl Tryz.runUnderlying25 Tryz.sizeOf5 rfl (by omega) rfl) (Dp 18 rfl (p_ldBf (j := 0) hB hx rfl Tryz.isAgg5 (.tail _ (.head _)) h0) (Dp 19 rfl (p_conv rfl Tryz.runUnderlying5 Tryz.runUnderlying29 (wrU32 (by omega) (by omega))) ?_)))
  refine Dp 20 rfl (p_shl rfl rfl (by decide) rfl (show IntKind.u32.wrap ((y0.toNat : Int) * 2 ^ 24) = ((y0.toNat * 2 ^ 24 : Nat) : Int) from by rw [wrU32 (by omega) (by omega)]; omega)) ?_
  refine Dp 21 rfl (p_or rfl rfl (orU rfl 24 (y1.toNat * 2 ^ 16 + (y2.toNat * 2 ^ 8 + y3.toNat)) y0.toNat (by omega) (by show _ < 4294967296; omega))) ?_
  refine Dp 22 rfl (p_assign rfl) (DD (E_seq (T_ret (E_ret1 [_] rfl (.refl _) rfl (K1 (K1 .nil)) (fun g' hl => ?_)))))
  exact ⟨rfl, rfl⟩
def adV (s : Nat × Nat) : Value := .int .u32 ((s.2 * 65536 + s.1 : Nat) : Int)
theorem ct_adReset (g : GW) (b : Nat) (z : Int) (e : TypeId) : Ct Tryz.prog g 203 [.pointer (some ⟨b, 0, none⟩)] [blk b (.cells #[.int .u32 z] e)] (fun r _ H' => H' = [blk b (.cells #[adV (1, 0)] e)]) := by
  refine CI Tryz.func203 Tryz.ntmps203 rfl fun F g0 hg0 => ?_
  refine T_region (Lm rfl (Ln rfl (TL_k0 (e_store1 rfl rfl Tryz.sizeOf387 rfl (K0 .nil) rfl rfl rfl) ?_)))
  rintro _ _ _ - ⟨rfl, rfl⟩
  refine TL_nil (E_end0 [_] rfl (.refl _) (K0 (K0 .nil)) (fun g' hl => ?_))
  exact rfl
theorem ct_adNew (g : GW) : Ct Tryz.prog g 192 [] [] (fun r _ H' => ∃ b, r = .iface 405 (.pointer (some ⟨b, 0, none⟩)) ∧ H' = [blk b (.cells #[adV (1, 0)] 387)]) := by
  refine CI Tryz.func192 Tryz.ntmps192 rfl fun F g0 hg0 => ?_
  refine SR (La rfl (nSR (Lk (e_alloc Tryz.zeroValue387 (show _ = #[Value.int .u32 0] from rfl)) ?_)))
  rintro _ _ _ - ⟨b, rfl, rfl⟩
  refine La rfl (nSR (Lm rfl (Lk (e_call rfl (ct_adReset g0 b 0 _) (K0 .nil)) ?_)))
  rintro _ _ _ - ⟨_, rfl, rfl⟩
  refine nSR (Lm rfl (Lp (p_mkIface rfl Tryz.runUnderlying405 (fun _ h => by cases h)) (La rfl (nr (E_ret1 [_] rfl (.refl _) rfl (K0 (K0 .nil)) (fun g' hl => ?_))))))
  exact ⟨b, rfl, rfl⟩
theorem ct_adSum (g : GW) (b : Nat) (s : Nat × Nat) (e : TypeId) : Ct Tryz.prog g 316 [.pointer (some ⟨b, 0, none⟩)] [blk b (.cells #[adV s] e)] (fun r _ H' => r = adV s ∧ H' = [blk b (.cells #[adV s] e)]) := by
  refine CI Tryz.func316 Tryz.ntmps316 rfl fun F g0 hg0 => ?_
  refine SR (La rfl (nSR (Lm rfl (Ln rfl (Lp (p_load rfl Tryz.isAgg387 (.head _) rfl) (La rfl (nr (E_ret1 [_] rfl (.refl _) rfl (K0 (K0 .nil)) (fun g' hl => ?_)))))))))
  exact ⟨rfl, rfl⟩
theorem ct_adWrite (g : GW) (b : Nat) (s : Nat × Nat) (h1 : s.1 < 65521) (h2 : s.2 < 65521) (e : TypeId) (pv : Value) (p : List UInt8) (hp : Bytes g pv p) (hl : p.length ≤ 1000000000) : Ct Tryz.prog g 317 [.pointer (some ⟨b, 0, none⟩), pv] [blk b (.cells #[adV s] e)] (fun r _ H' => r = .tuple #[.int .i64 p.length, .nilIface] ∧ H' = [blk b (.cells #[adV (adFold s p)] e)]) := by
  refine CI Tryz.func317 Tryz.ntmps317 rfl fun F g0 hg0 => ?_
  replace hp := hp.mono hg0
  refine SR (La rfl (La rfl (nSR (Lm rfl (Lm rfl (Ln rfl (Lp (p_load rfl Tryz.isAgg387 (.head _) rfl) (Lm rfl (Lk (e_call rfl (ct_adUpdate g0 pv p s.1 s.2 hp (by omega) h1 h2) .nil) ?_)))))))))
  rintro _ _ _ - ⟨_, rfl, ⟨rfl, rfl⟩⟩
  refine Ln rfl (TL_k0 (e_store1 rfl rfl Tryz.sizeOf387 rfl (K0 .nil) rfl rfl rfl) ?_)
  rintro _ _ _ - ⟨rfl, rfl⟩
  refine nSR (Lm rfl (Lp (p_len (hp.1) rfl rfl Tryz.runUnderlying25) (La rfl (La rfl (nr (E_ret2 [_] rfl (.refl _) rfl rfl (K0 (K0 .nil)) (fun g' hl => ?_)))))))
  exact ⟨rfl, rfl⟩
theorem ct_makeReader (g : GW) (x : Fx) (db : Nat) (s : DS) : Ct Tryz.prog g 200 [.pointer (some ⟨db, 0, none⟩), srV x] [dcB db s] (fun r _ H' => H' = [dcB db { s with r := srV x, rb := .pointer none }]) := by
  refine CI Tryz.func200 Tryz.ntmps200 rfl fun F g0 hg0 => ?_
  refine T_seq (SR (Lm rfl (Lp (p_assertI rfl (fun w => by kernel_rfl)) (Lm rfl (Lx rfl rfl (Lx rfl rfl (La rfl (La rfl (nSR ?_)))))))))
  refine Lm rfl (nS (T_condT rfl (SR (Lm rfl (Ln rfl (Lf rfl Tryz.runUnderlying400 rfl Tryz.sizeOf165 rfl (TL_k0 (e_store1 rfl rfl Tryz.sizeOf165 rfl (K0 .nil) (dc_l400_1 _) rfl (dc_s400_1 _ _ rfl)) ?_)))))))
  rintro _ _ _ - ⟨rfl, rfl⟩
  refine nSR (Lm rfl (Lm rfl (Ln rfl (Lf rfl Tryz.runUnderlying400 rfl Tryz.sizeOf349 rfl (TL_k0 (e_store1 rfl rfl Tryz.sizeOf349 rfl (K0 .nil) (dc_l400_0 _) rfl (dc_s400_0 _ _ rfl)) ?_)))))
  rintro _ _ _ - ⟨rfl, rfl⟩
  refine nr (E_seq_ret (E_ret0 [_] rfl (.refl _) (K0 (K0 .nil)) (fun g' hl => ?_)))
  exact rfl
theorem ct_flNew (g : GW) (x : Fx) : Ct Tryz.prog g 191 [srV x] [] (fun r _ H' => ∃ (db : Nat) (hv : Value) (s : DS) (hist : List UInt8), r = .iface 403 (.pointer (some ⟨db, 0, none⟩)) ∧ Dk x hv s hist 0 0 ∧ s.er = .nilIface ∧ s.wr = 0 ∧ s.rd = 0 ∧ s.st = stepN ∧ H' = [dcB db s, own hv 1 5 (bvs hist)]) := by
  refine CI Tryz.func191 Tryz.ntmps191 rfl fun F g0 hg0 => ?_
  refine SR (La rfl (nSR (Lk (e_alloc Tryz.zeroValue400 (show Value.cells (.agg Tryz.zeroCells400) = _ from dc_zero)) ?_)))
  rintro _ _ _ - ⟨d, rfl, rfl⟩
  refine nSR (Lm rfl (Lk (e_call rfl (ct_makeReader g0 x d _) (K0 .nil)) ?_))
  rintro _ _ _ - ⟨_, rfl, rfl⟩
  refine nSR (Lk (e_alloc Tryz.zeroValue401 rfl) ?_)
  rintro _ _ _ - ⟨e1, rfl, rfl⟩
  refine Lf rfl Tryz.runUnderlying400 rfl Tryz.sizeOf393 rfl (TL_k0 (e_store1 rfl rfl Tryz.sizeOf393 rfl (K1 .nil) (dc_l400_7 _) rfl (dc_s400_7 _ _ rfl)) ?_)
  rintro _ _ _ - ⟨rfl, rfl⟩
  refine nSR (Lk (e_alloc Tryz.zeroValue402 rfl) ?_)
  rintro _ _ _ - ⟨e2, rfl, rfl⟩
  refine Lf rfl Tryz.runUnderlying400 rfl Tryz.sizeOf394 rfl (TL_k0 (e_store1 rfl rfl Tryz.sizeOf394 rfl (K1 .nil) (dc_l400_8 _) rfl (dc_s400_8 _ _ rfl)) ?_)
  rintro _ _ _ - ⟨rfl, rfl⟩
  refine nSR (Lf rfl Tryz.runUnderlying400 rfl Tryz.sizeOf397 rfl (TL_k0 (e_store1 rfl rfl Tryz.sizeOf397 rfl (K0 .nil) (dc_l400_11 _) rfl (dc_s400_11 _ _ rfl)) ?_))
  rintro _ _ _ - ⟨rfl, rfl⟩
  refine nSR (Lf rfl Tryz.runUnderlying400 rfl Tryz.sizeOf396 rfl (Lk (e_call rfl (ct_dictInit g0 d ⟨srV x, .pointer none, 0, 0, 0, .pointer (some ⟨e1, 0, none⟩), .pointer (some ⟨e2, 0, none⟩), .slice none 0 0, 0, 0, false, 0, 0, 0, 0, stepN, 0, false, .nilIface, .slice none 0 0, .pointer none, .pointer none, 0, 0⟩ 32768 rfl) (K0 .nil)) ?_))
  rintro _ _ _ - ⟨_, rfl, ⟨hv, hist, hhv, hhl, rfl⟩⟩
  refine nSR (Lp (p_mkIface rfl Tryz.runUnderlying403 (fun _ h => by cases h)) (La rfl (nr (E_ret1 [_, _] rfl (.refl _) rfl (K0 (K0 (K2 .nil))) (fun g' hl => ?_)))))
  exact ⟨d, hv, _, hist, rfl, ⟨rfl, rfl, rfl, rfl, hhv, hhl, Nat.le_refl _, Nat.zero_le _, Nat.le_refl _, Nat.zero_le _, fun h => absurd h (Nat.lt_irrefl _), Shp.nil⟩, rfl, rfl, rfl, rfl, rfl⟩
theorem ct_flClose (g : GW) (x : Fx) (hx : FxOk g x) (db : Nat) (s : DS) (he : ErrN ES g s.er) : Ct Tryz.prog g 310 [.pointer (some ⟨db, 0, none⟩)] [dcB db s] (fun r _ H' => ((s.er = EVal ES x.eE ∧ r = .nilIface) ∨ r = s.er) ∧ H' = [dcB db s]) := by
  obtain ⟨f1, f2, hf1, hf2, hf3, hf4⟩ := es_facts
  refine CI Tryz.func310 Tryz.ntmps310 rfl fun F g0 hg0 => ?_
  replace hx := hx.mono hg0
  replace he := he.mono hg0
  refine SR (La rfl (nS (T_seq (T_seq (T_regionD 6 Tryz.mixed rfl Part.all (Dp 0 rfl (p_move rfl) (Dp 1 rfl (p_nilCheck rfl) (Dp 2 rfl (p_fieldAddr rfl Tryz.runUnderlying400 rfl Tryz.sizeOf64 rfl) (Dp 3 rfl (p_load rfl Tryz.isAgg64 (.head _) (dc_g400_14 _ rfl)) ?_)))))))))
  refine Dp 4 rfl (p_loadF rfl Tryz.isAgg64 hx.env.eof) (Dp 5 rfl (p_eqlER (t := ES) he hx.env.peof rfl rfl Tryz.underlying64 Tryz.underlying272 hf1 hf2 hf3 hf4) (DD (E_seq (T_cond rfl (fun hc1 => ?_) (fun hc1 => ?_)))))
  ·
    try dsimp only at hc1
    have hee := isB_t hc1
    refine SR (La rfl (nr (E_seq_ret (E_ret1 [_] rfl (.refl _) rfl (K0 (K0 .nil)) (fun g' hl => ?_)))))
    exact ⟨.inl ⟨hee, rfl⟩, rfl⟩
  ·
    try dsimp only at hc1
    skip
    refine kS (SR (Lm rfl (Ln rfl (Lf rfl Tryz.runUnderlying400 rfl Tryz.sizeOf64 rfl (Lp (p_load rfl Tryz.isAgg64 (.head _) (dc_g400_14 _ rfl)) (La rfl (nr (E_ret1 [_] rfl (.refl _) rfl (K0 (K0 .nil)) (fun g' hl => ?_)))))))))
    exact ⟨.inr rfl, rfl⟩
end Go.Proofs.YtolddodhmeaceaaGreatDoor
namespace Go.Hl
variable {P : Program}
theorem permAt (pre post K : List Atom) (F : Atom) : ((pre ++ (post ++ [F])) ++ K).Perm (pre ++ (K ++ post) ++ [F]) := by
  simp only [List.append_assoc]
  refine List.Perm.append_left _ ?_
  rw [← List.append_assoc]
  exact List.perm_append_comm
theorem Sat.foldAt {pre K post : List Atom} {F : Atom} {g : GW} (h : Sat (pre ++ (K ++ post) ++ [F]) g) : Sat (pre ++ (Hl.many K :: post) ++ [F]) g :=
  ((h.perm (permAt pre post K F).symm).fold).perm (permAt pre post [Hl.many K] F)
theorem Sat.unfoldAt {pre K post : List Atom} {F : Atom} {g : GW} (h : Sat (pre ++ (Hl.many K :: post) ++ [F]) g) : Sat (pre ++ (K ++ post) ++ [F]) g :=
  ((h.perm (permAt pre post [Hl.many K] F).symm).unfold).perm (permAt pre post K F)
theorem Ct.pack {g f args} {pre K post : List Atom} {R : Value → GW → List Atom → Prop} (h : Ct P g f args (pre ++ (K ++ post)) R) : Ct P g f args (pre ++ (Hl.many K :: post)) R :=
  ⟨h.1, fun F g' hl hs => h.2 F g' hl hs.unfoldAt⟩
end Go.Hl
namespace Go.Proofs.YtolddodhmeaceaaGreatDoor
open Go.Hl Go.Pk
def zC (r dec dig er : Value) (q0 q1 q2 q3 : UInt8) : Array Value := #[r, dec, dig, er, .int .u8 q0.toNat, .int .u8 q1.toNat, .int .u8 q2.toNat, .int .u8 q3.toNat]
abbrev zB (zb : Nat) (r dec dig er : Value) (q0 q1 q2 q3 : UInt8) : Atom := blk zb (.cells (zC r dec dig er q0 q1 q2 q3) 352)
def zW (zb : Nat) (r dec dig er : Value) (q : List UInt8) : Atom := blk zb (.cells (#[r, dec, dig, er] ++ (bvs q).toArray) 352)
theorem zW_eq (zb : Nat) (r dec dig er : Value) (q0 q1 q2 q3 : UInt8) : zW zb r dec dig er [q0, q1, q2, q3] = zB zb r dec dig er q0 q1 q2 q3 := rfl
theorem zW_eq2 (zb : Nat) (r dec dig er : Value) (q0 q1 q2 q3 : UInt8) : zW zb r dec dig er ([q0, q1] ++ [q2, q3]) = zB zb r dec dig er q0 q1 q2 q3 := rfl
theorem zW_eq4 (zb : Nat) (r dec dig er : Value) (q0 q1 q2 q3 : UInt8) : zW zb r dec dig er ([q0, q1, q2, q3] ++ []) = zB zb r dec dig er q0 q1 q2 q3 := rfl
abbrev dgB (dg : Nat) (v : Value) : Atom := blk dg (.cells #[v] 387)
abbrev decV (db : Nat) : Value := .iface 403 (.pointer (some ⟨db, 0, none⟩))
abbrev digV (dg : Nat) : Value := .iface 405 (.pointer (some ⟨dg, 0, none⟩))
theorem bf_z {zb m : Nat} (r dec dig er : Value) (post : List UInt8) (hm : m ≤ 4) : Bf (.slice (some ⟨zb, 4, none⟩) m 4) m (fun ys => zW zb r dec dig er (ys ++ post)) := by
  have h := Bf.mid (b := zb) (e := 352) #[r, dec, dig, er] (bvs post).toArray hm
  have e : (fun xs => blk zb (.cells (#[r, dec, dig, er] ++ (bvs xs).toArray ++ (bvs post).toArray) 352)) = (fun ys => zW zb r dec dig er (ys ++ post)) := by
    funext ys
    unfold zW
    rw [bvs_append]
    simp
  rw [e] at h
  exact h
theorem two_ {ys : List UInt8} (h : ys.length = 2) : ∃ a b, ys = [a, b] := by
  match ys, h with
  | [a, b], _ => exact ⟨a, b, rfl⟩
/-- A reader of a stream: what it is made of. -/
def ZOk (x : Fx) (N : Nat) (X : List UInt8) (zb pos : Nat) (U : List UInt8) (Z : Atom) : Prop :=
  ∃ (db : Nat) (hv : Value) (s : DS) (hist : List UInt8) (a b dg : Nat) (T D : List UInt8) (q0 q1 q2 q3 : UInt8), Z = many [zB zb (srV x) (decV db) (digV dg) .nilIface q0 q1 q2 q3, dcB db s, own hv 1 5 (bvs hist), dgB dg (adV (adFold (1, 0) D))] ∧
    RS x N (put32N (adN T) ++ X) hv s hist a b pos U ∧ (FBad x s ∨ D ++ U = T)
theorem rs_start {x : Fx} {N : Nat} {X : List UInt8} {hv : Value} {s : DS} {hist : List UInt8} {pos : Nat} {t : List UInt8} (hd : Dk x hv s hist 0 0) (her : s.er = .nilIface) (hw : s.wr = 0) (hr : s.rd = 0) (hst : s.st = stepN) (hP : Pre x.C N pos (blocks t ++ X)) (hl : t.length ≤ 1000000000) : RS x N X hv s hist 0 0 pos t := by
  refine ⟨hd, hl, .inl ⟨t, .inl ⟨her, by omega, .inl ⟨hst, hP⟩⟩, ?_⟩⟩
  rw [hr, hw, win_nil]; rfl
theorem ct_zReset (g : GW) (x : Fx) (hx : FxOk g x) (s0 : St) (pos : Nat) (hs : StOk x s0 pos) (zb : Nat) (N : Nat) (t X : List UInt8) (htl : t.length ≤ 1000000000) (hP : Pre x.C N pos (Pk.stored t ++ X)) :
    Ct Tryz.prog g 167 [.pointer (some ⟨zb, 0, none⟩), srV x, .slice none 0 0] (zB zb .nilIface .nilIface .nilIface .nilIface 0 0 0 0 :: stA x s0 pos)
      (fun v g' H' => ∃ (s' : St) (p' : Nat), StOk x s' p' ∧ ((IsE g' v ∧ H' = stA x s' p') ∨ (v = .nilIface ∧ ∃ (db : Nat) (hv : Value) (s : DS) (hist : List UInt8) (dg : Nat) (q0 q1 q2 q3 : UInt8), RS x N (put32N (adN t) ++ X) hv s hist 0 0 p' t ∧
        H' = zB zb (srV x) (decV db) (digV dg) .nilIface q0 q1 q2 q3 :: dcB db s :: own hv 1 5 (bvs hist) :: dgB dg (adV (1, 0)) :: stA x s' p'))) := by
  obtain ⟨f1, f2, hf1, hf2, hf3, hf4⟩ := es_facts
  have hP1 : Pre x.C N pos ([120, 1] ++ (blocks t ++ (put32N (adN t) ++ X))) := by simpa [Pk.stored, List.append_assoc] using hP
  refine CI Tryz.func167 Tryz.ntmps167 rfl fun F g0 hg0 => ?_
  replace hx := hx.mono hg0
  refine SR (La rfl (nSR (Lm rfl (Lm rfl (Ln rfl (Lf rfl Tryz.runUnderlying352 rfl Tryz.sizeOf184 rfl (Lp (p_load rfl Tryz.isAgg184 (.head _) rfl) (Lp (p_build (cells := zC .nilIface .nilIface .nilIface .nilIface 0 0 0 0) rfl (by kernel_rfl)) (Ln rfl ?_)))))))))
  refine TL_k0 (e_storeW rfl rfl Tryz.sizeOf352 rfl rfl (by simp [Value.cells, zC, Value.oneCell']) (K0 .nil) rfl) ?_
  rintro _ _ _ - ⟨rfl, rfl⟩
  refine nS (T_seq (SR (Lm rfl (Lp (p_assertI rfl (fun w => by kernel_rfl)) (Lm rfl (Lx rfl rfl (Lx rfl rfl (La rfl (La rfl ?_)))))))))
  refine nSR (Lm rfl (nS (T_condT rfl (T_region (Lm rfl (Lm rfl (Ln rfl (Lf rfl Tryz.runUnderlying352 rfl Tryz.sizeOf349 rfl (TL_k0 (e_store1 rfl rfl Tryz.sizeOf349 rfl (K0 .nil) rfl rfl rfl) ?_)))))))))
  rintro _ _ _ - ⟨rfl, rfl⟩
  refine nS (T_seq (T_regionD 9 Tryz.mixed rfl Part.all (Dq 0 rfl (fun _ => p_move rfl) (Dq 1 rfl (fun _ => p_move rfl) (Dq 2 rfl (fun _ => p_nilCheck rfl) (Dq 3 rfl (fun _ => p_fieldAddr rfl Tryz.runUnderlying352 rfl Tryz.sizeOf349 rfl) (Dp 4 rfl (p_load rfl Tryz.isAgg349 (.head _) rfl) (Dq 5 rfl (fun _ => p_move rfl) (Dq 6 rfl (fun _ => p_nilCheck rfl) ?_)))))))))
  refine Dq 7 rfl (fun _ => p_fieldAddr rfl Tryz.runUnderlying352 rfl Tryz.sizeOf350 rfl) (Dp 8 rfl (p_slALH rfl Tryz.runUnderlying350 Tryz.sizeOf5 rfl rfl (by rfl) (by rfl) (Nat.zero_le _) (by decide) (show sl (.slice (some ⟨zb, 0 + 4, none⟩) 4 4) 0 2 1 = .slice (some ⟨zb, 4, none⟩) 2 4 from rfl)) (DB rfl (e_call rfl (ct_readFull g0 x hx s0 pos hs _ 2 _ [0, 0] (bf_z (srV x) .nilIface .nilIface .nilIface [0, 0] (by decide)) rfl (by omega)) (K0 (K0 (K0 (K0 (K0 (K0 (K0 (K0 .nil))))))))) ?_))
  rintro _ _ _ - ⟨_, rfl, ⟨s2, k, er2, ys, rfl, hyl, h1, h2, h3, rfl⟩⟩
  obtain ⟨y0, y1, rfl⟩ := two_ hyl
  rw [zW_eq2]
  have hEr := Er.of hx (n := pos + 2) (Q := k = 2 ∧ [y0, y1] = (x.C.drop pos).take 2) (fun h => ⟨(h1 h).2.1, (h1 h).1, (h1 h).2.2⟩) h2
  refine AP 10 rfl (fun _ => p_move rfl) (AP 11 rfl (fun _ => p_extractL rfl rfl) (AP 12 rfl (fun _ => p_extractL rfl rfl) (AP 13 rfl (fun _ => p_nilCheck rfl) (AP 14 rfl (fun _ => p_fieldAddr rfl Tryz.runUnderlying352 rfl Tryz.sizeOf64 rfl) (TA_k (i := 15) rfl rfl (by kernel_rfl) rfl rfl (e_store1 rfl rfl Tryz.sizeOf64 (IfN.one hEr.ifn) (K0 .nil) rfl rfl rfl) ?_)))))
  rintro _ _ _ - ⟨rfl, rfl⟩
  refine TA_done (by kernel_rfl) (E_seq (T_seq (SR (Lm rfl (Ln rfl (Lf rfl Tryz.runUnderlying352 rfl Tryz.sizeOf64 rfl (Lp (p_load rfl Tryz.isAgg64 (.head _) rfl) (Lp (p_neqE0 hEr.ifn rfl Tryz.underlying64) (nS (T_condNB rfl (fun hc5 => ?_) (fun hc5 => ?_)))))))))))
  ·
    have hee := hEr.bad (isB_f hc5)
    refine T_seq (T_seq (T_regionD 6 Tryz.mixed rfl Part.all (Dp 0 rfl (p_move rfl) (Dp 1 rfl (p_nilCheck rfl) (Dp 2 rfl (p_fieldAddr rfl Tryz.runUnderlying352 rfl Tryz.sizeOf64 rfl) (Dp 3 rfl (p_load rfl Tryz.isAgg64 (.head _) rfl) (Dp 4 rfl (p_loadF rfl Tryz.isAgg64 hx.env.eof) (Dp 5 rfl (p_eqlER (t := ES) hEr.errN hx.env.peof rfl rfl Tryz.underlying64 Tryz.underlying272 hf1 hf2 hf3 hf4) (DD ?_)))))))))
    refine E_seq (T_cond rfl (fun hc6 => ?_) (fun hc6 => ?_))
    ·
      skip
      refine T_region (Lm rfl (Lp (p_loadF rfl Tryz.isAgg64 hx.env.ueof) (Ln rfl (Lf rfl Tryz.runUnderlying352 rfl Tryz.sizeOf64 rfl (TL_k0 (e_store1 rfl rfl Tryz.sizeOf64 rfl (K0 .nil) rfl rfl rfl) ?_)))))
      rintro _ _ _ - ⟨rfl, rfl⟩
      refine nSR (Lm rfl (Ln rfl (Lf rfl Tryz.runUnderlying352 rfl Tryz.sizeOf64 rfl (Lp (p_load rfl Tryz.isAgg64 (.head _) rfl) (La rfl (nr (E_seq_ret (E_ret1 [_, _, _, _, _, _, _] rfl (.refl _) rfl (K1 (K1 (K1 (K1 (K1 (K1 (K1 (K1 .nil)))))))) (fun g' hl => ?_)))))))))
      exact ⟨s2, _, h3, .inl ⟨⟨_, rfl, hx.env.pueof.mono hl⟩, rfl⟩⟩
    ·
      skip
      refine kS (SR (Lm rfl (Ln rfl (Lf rfl Tryz.runUnderlying352 rfl Tryz.sizeOf64 rfl (Lp (p_load rfl Tryz.isAgg64 (.head _) rfl) (La rfl (nr (E_seq_ret (E_ret1 [_, _, _, _, _, _, _] rfl (.refl _) rfl (K1 (K1 (K1 (K1 (K1 (K1 (K1 (K1 .nil)))))))) (fun g' hl => ?_))))))))))
      exact ⟨s2, _, h3, .inl ⟨hee.mono hl, rfl⟩⟩
  ·
    obtain ⟨hlen, rfl, hyt⟩ := hEr.ok (isB_t hc5)
    obtain rfl := isB_t hc5
    obtain ⟨hz, hP2⟩ := hP1.app (by simpa using hlen)
    replace hz : (x.C.drop pos).take 2 = [120, 1] := hz
    rw [hz] at hyt
    injection hyt with e0 e1
    injection e1 with e1 e2
    subst e0 e1
    replace hP2 : Pre x.C N (pos + 2) _ := hP2
    refine kS (T_seq (T_regionD 5 Tryz.mixed rfl Part.all (Dp 0 rfl (p_loadFN (b := 22) (vs := []) rfl Tryz.isAgg370 Tryz.sizeOf370 (fun i v h => by cases h) rfl) (Dq 1 rfl (fun _ => p_move rfl) (Dq 2 rfl (fun _ => p_nilCheck rfl) (Dq 3 rfl (fun _ => p_fieldAddr rfl Tryz.runUnderlying352 rfl Tryz.sizeOf350 rfl) (Dp 4 rfl (p_slAH (b := 2) rfl Tryz.runUnderlying350 Tryz.sizeOf5 rfl (by rfl) (by decide) (show sl (.slice (some ⟨zb, 0 + 4, none⟩) 4 4) 0 2 1 = .slice (some ⟨zb, 4, none⟩) 2 4 from rfl)) (DB rfl (e_call rfl (ct_be16 g0 _ 2 _ [120, 1] (bf_z (srV x) .nilIface .nilIface .nilIface [0, 0] (by decide)) rfl 120 1 rfl rfl) (K0 .nil)) ?_))))))))
    rintro _ _ _ - ⟨_, rfl, ⟨rfl, rfl⟩⟩
    rw [zW_eq2]
    refine AP 6 rfl (fun _ => p_assign rfl) (TA_done (by kernel_rfl) (E_seq (T_seq (SR (Lm rfl (Ln rfl (Lf rfl Tryz.runUnderlying352 rfl Tryz.sizeOf350 rfl (Lp (p_indexAddrA (j := 0) rfl rfl Tryz.runUnderlying350 Tryz.sizeOf5 rfl (by omega) rfl) (Lp (p_load rfl Tryz.isAgg5 (.head _) rfl) ?_)))))))))
    refine Lp (p_and rfl rfl rfl) (Lp (p_neq rfl rfl) (Lm rfl (TL_splitD 82 rfl (fun hg9 => ?_) (fun hg9 => ?_))))
    ·
      exact absurd (by decide) hg9
    ·
      refine Lg (p_move rfl) (Lg (p_nilCheck rfl) (Lg (p_fieldAddr rfl Tryz.runUnderlying352 rfl Tryz.sizeOf350 rfl) (Lg (p_indexAddrA (j := 0) rfl rfl Tryz.runUnderlying350 Tryz.sizeOf5 rfl (by omega) rfl) (Lg (p_load rfl Tryz.isAgg5 (.head _) rfl) (Lg (p_shr (n := 4) rfl rfl (by decide) rfl rfl) (Lg (p_gtr rfl rfl) (Lp (p_pickF rfl rfl) (Lm rfl (TL_splitD 91 rfl (fun hg10 => ?_) (fun hg10 => ?_))))))))))
      ·
        exact absurd hg10 (by decide)
      ·
        refine Lg (p_move rfl) (Lg (p_rem rfl rfl (by decide) rfl) (Lg (p_neq rfl rfl) (Lp (p_pickF rfl rfl) (nS (T_condD rfl (fun hc11 => ?_) (fun hc11 => ?_))))))
        ·
          exact absurd hc11 (by decide)
        ·
          skip
          refine kS (SR (Lm rfl (Ln rfl (Lf rfl Tryz.runUnderlying352 rfl Tryz.sizeOf350 rfl (Lp (p_indexAddrA (j := 1) rfl rfl Tryz.runUnderlying350 Tryz.sizeOf5 rfl (by omega) rfl) (Lp (p_load rfl Tryz.isAgg5 (.head _) rfl) (Lp (p_and rfl rfl rfl) (Lp (p_neq rfl rfl) (La rfl ?_)))))))))
          refine nS (T_seq (SR (Lm rfl (nS (T_condD rfl (fun hc12 => ?_) (fun hc12 => ?_))))))
          ·
            exact absurd hc12 (by decide)
          ·
            skip
            refine kS (T_seq (SR (Lm rfl (Ln rfl (Lf rfl Tryz.runUnderlying352 rfl Tryz.sizeOf184 rfl (Lp (p_load rfl Tryz.isAgg184 (.head _) rfl) (Lp (p_eqlNN rfl Tryz.underlying184) (nS (T_condT rfl ?_)))))))))
            refine SR (Lm rfl (nS (T_condD rfl (fun hc13 => ?_) (fun hc13 => ?_))))
            ·
              exact absurd hc13 (by decide)
            ·
              skip
              refine T_region (Lm rfl (Lm rfl (Ln rfl (Lf rfl Tryz.runUnderlying352 rfl Tryz.sizeOf349 rfl (Lp (p_load rfl Tryz.isAgg349 (.head _) rfl) (Lk (e_call rfl (ct_flNew g0 x) .nil) ?_))))))
              rintro _ _ _ - ⟨_, rfl, ⟨db, hv, sd, hist, rfl, hd, d1, d2, d3, d4, rfl⟩⟩
              refine Ln rfl (Lf rfl Tryz.runUnderlying352 rfl Tryz.sizeOf184 rfl (TL_k0 (e_store1 rfl rfl Tryz.sizeOf184 rfl (K2 .nil) rfl rfl rfl) ?_))
              rintro _ _ _ - ⟨rfl, rfl⟩
              refine nSR (Lm rfl (Lk (e_call rfl (ct_adNew g0) .nil) ?_))
              rintro _ _ _ - ⟨_, rfl, ⟨dg, rfl, rfl⟩⟩
              refine Ln rfl (Lf rfl Tryz.runUnderlying352 rfl Tryz.sizeOf129 rfl (TL_k0 (e_store1 rfl rfl Tryz.sizeOf129 rfl (K1 .nil) rfl rfl rfl) ?_))
              rintro _ _ _ - ⟨rfl, rfl⟩
              refine nSR (La rfl (nr (E_ret1 [_, _, _, _, _, _, _, _, _, _, _] rfl (.refl _) rfl (K0 (K1 (K1 (K0 (K0 (K0 (K0 (K0 (K0 (K0 (K0 (K0 .nil)))))))))))) (fun g' hl => ?_))))
              exact ⟨s2, _, h3, .inr ⟨rfl, db, hv, sd, hist, dg, 120, 1, 0, 0, rs_start hd d1 d2 d3 d4 hP2 htl, rfl⟩⟩
end Go.Proofs.YtolddodhmeaceaaGreatDoor
namespace Go.Proofs.YtolddodhmeaceaaGreatDoor
open Go.Hl Go.Pk
theorem adV_ok (l : List UInt8) : (adFold (1, 0) l).1 < 65521 ∧ (adFold (1, 0) l).2 < 65521 := adFold_lt (by decide) l
theorem put32N_val {n : Nat} (h : n < 4294967296) {y0 y1 y2 y3 : UInt8} (he : [y0, y1, y2, y3] = put32N n) : y0.toNat * 2 ^ 24 + (y1.toNat * 2 ^ 16 + (y2.toNat * 2 ^ 8 + y3.toNat)) = n := by
  have := beN_put h
  rw [← he] at this
  simp [beN] at this
  omega
def ErS (x : Fx) (e : Value) : Prop := e = .nilIface ∨ e = EVal ES x.eE ∨ e = EVal ES x.uE
theorem ErS.errN {g : GW} {x : Fx} (hx : FxOk g x) {e : Value} (h : ErS x e) : ErrN ES g e := by
  rcases h with h | h | h
  · exact .inl h
  · exact .inr ⟨_, h, hx.env.peof⟩
  · exact .inr ⟨_, h, hx.env.pueof⟩
/-- What Read of a zlib reader leaves. -/
def ZRead (x : Fx) (N : Nat) (X : List UInt8) (zb : Nat) (hv : Value) (db dg : Nat) (U T D : List UInt8) (m pos : Nat) (A : List UInt8 → Atom) (xs : List UInt8) (v : Value) (H' : List Atom) : Prop :=
  ∃ (s' : DS) (hist' : List UInt8) (p' : Nat) (st' : St) (n : Nat) (er er' : Value) (data : List UInt8) (dv : Nat × Nat) (q0 q1 q2 q3 : UInt8), v = .tuple #[.int .i64 n, er] ∧ n ≤ m ∧ data.length = n ∧ StOk x st' p' ∧
    H' = A (data ++ xs.drop n) :: zB zb (srV x) (decV db) (digV dg) er' q0 q1 q2 q3 :: dcB db s' :: own hv 1 5 (bvs hist') :: dgB dg (adV dv) :: stA x st' p' ∧ ErS x s'.er ∧
    ((er = .nilIface ∧ er' = .nilIface ∧ 1 ≤ n ∧ ∃ a' b' U', RS x N (put32N (adN T) ++ X) hv s' hist' a' b' p' U' ∧ U'.length + n = U.length ∧ dv = adFold (1, 0) (D ++ data) ∧ (FBad x s' ∨ (D ++ data) ++ U' = T)) ∨
      (er = EVal ES x.uE ∧ er' = er ∧ n ≤ U.length) ∨ (er = EVal ES x.eE ∧ er' = er ∧ n = U.length ∧ Pre x.C N p' X))
theorem z_fst {x : Fx} {N : Nat} {X : List UInt8} {hv : Value} {s s' : DS} {hist' U T D data : List UInt8} {a' b' p' n : Nat} {er : Value}
    (j4 : (er = .nilIface ∧ 1 ≤ n ∧ (FBad x s → FBad x s') ∧ ∃ U', RS x N (put32N (adN T) ++ X) hv s' hist' a' b' p' U' ∧ U'.length + n = U.length ∧ (FBad x s' ∨ U = data ++ U')) ∨ (er = EVal ES x.uE ∧ n ≤ U.length ∧ s'.er = er) ∨ (er = EVal ES x.eE ∧ U = data ∧ Pre x.C N p' (put32N (adN T) ++ X) ∧ s'.er = er ∧ ¬ FBad x s))
    (hT : FBad x s ∨ D ++ U = T) (hee : er ≠ EVal ES x.eE) :
    (er = .nilIface ∧ er = .nilIface ∧ 1 ≤ n ∧ ∃ a' b' U', RS x N (put32N (adN T) ++ X) hv s' hist' a' b' p' U' ∧ U'.length + n = U.length ∧ adFold (1, 0) (D ++ data) = adFold (1, 0) (D ++ data) ∧ (FBad x s' ∨ (D ++ data) ++ U' = T)) ∨
      (er = EVal ES x.uE ∧ er = er ∧ n ≤ U.length) ∨ (er = EVal ES x.eE ∧ er = er ∧ n = U.length ∧ Pre x.C N p' X) := by
  rcases j4 with ⟨h1, h2, hb, U', h3, h4, h5⟩ | h | h
  · refine .inl ⟨h1, h1, h2, a', b', U', h3, h4, rfl, ?_⟩
    rcases h5 with h5 | h5
    · exact .inl h5
    · rcases hT with hT | hT
      · exact .inl (hb hT)
      · exact .inr (by rw [List.append_assoc, ← h5]; exact hT)
  · exact .inr (.inl ⟨h.1, rfl, h.2.1⟩)
  · exact absurd h.1 hee
theorem ct_zReadX (g : GW) (x : Fx) (hx : FxOk g x) (s0 : St) (pos : Nat) (hs : StOk x s0 pos) (N : Nat) (X : List UInt8) (zb : Nat) (hv : Value) (db dg : Nat) (s : DS) (hist U T D : List UInt8) (a b : Nat) (q0 q1 q2 q3 : UInt8)
    (hR : RS x N (put32N (adN T) ++ X) hv s hist a b pos U) (hT : FBad x s ∨ D ++ U = T) (pv : Value) (m : Nat) (A : List UInt8 → Atom) (xs : List UInt8) (hB : Bf pv m A) (hxs : xs.length = m) (hm : 1 ≤ m) (hm2 : m ≤ 1000000000) :
    Ct Tryz.prog g 304 [.pointer (some ⟨zb, 0, none⟩), pv] (A xs :: zB zb (srV x) (decV db) (digV dg) .nilIface q0 q1 q2 q3 :: dcB db s :: own hv 1 5 (bvs hist) :: dgB dg (adV (adFold (1, 0) D)) :: stA x s0 pos)
      (fun v _ H' => ZRead x N X zb hv db dg U T D m pos A xs v H') := by
  obtain ⟨f1, f2, hf1, hf2, hf3, hf4⟩ := es_facts
  refine CI Tryz.func304 Tryz.ntmps304 rfl fun F g0 hg0 => ?_
  replace hx := hx.mono hg0
  refine SR (La rfl (La rfl (nS (T_seq (SR (Lm rfl (Ln rfl (Lf rfl Tryz.runUnderlying352 rfl Tryz.sizeOf64 rfl (Lp (p_load rfl Tryz.isAgg64 (.tail _ (.head _)) rfl) ?_)))))))))
  refine Lp (p_neqNN rfl Tryz.underlying64) (nS (T_condF rfl (kS (SR (La rfl (nSR (Lm rfl (Lm rfl (Ln rfl ?_)))))))))
  refine Lf rfl Tryz.runUnderlying352 rfl Tryz.sizeOf184 rfl (Lp (p_load rfl Tryz.isAgg184 (.tail _ (.head _)) rfl) (Lm rfl (Lk (e_invoke rfl (fun w => by kernel_rfl) rfl (ct_flRead g0 x hx s0 pos hs N _ hv db s hist U a b hR pv m A xs hB hxs hm hm2) (K0 (K1 (K1 (K2 (K2 (K2 (K2 (K2 (K2 (K2 .nil))))))))))) ?_)))
  rintro _ _ _ - ⟨_, rfl, ⟨s', hist', a', b', p', st', n, er, data, rfl, hn, hdl, j1, j2, rfl, j4⟩⟩
  have hes : ErS x er := by { rcases j4 with h | h | h; exact .inl h.1; exact .inr (.inr h.1); exact .inr (.inl h.1) }
  have hes2 : ErS x s'.er := by { rcases j4 with ⟨_, _, _, U', h, _⟩ | h | h; (rcases h.2.2 with ⟨t, h1 | h1, _⟩ | ⟨h1, _⟩; exact .inl h1.1; exact .inr (.inl h1.1); exact .inr (.inr h1)); exact .inr (.inr (h.2.2.trans h.1)); exact .inr (.inl (h.2.2.2.1.trans h.1)) }
  have hlen : (data ++ xs.drop n).length = m := by { rw [List.length_append, List.length_drop]; omega }
  have hadv := adV_ok D
  refine Lm rfl (Lx rfl rfl (Lx rfl rfl (La rfl (Ln rfl (Lf rfl Tryz.runUnderlying352 rfl Tryz.sizeOf64 rfl (TL_k0 (e_store1 rfl rfl Tryz.sizeOf64 (IfN.one (hes.errN hx).ifn) (.cons (.there (.there (.there (.there (.there (.there (.there (.there (.there (.there .here)))))))))) .nil) rfl rfl rfl) ?_))))))
  rintro _ _ _ - ⟨rfl, rfl⟩
  refine nS (T_seq (T_regionD 10 Tryz.mixed rfl (K0 (K1 (K1 (K1 (K1 (K1 (K1 (K1 (K1 (K1 (K2 .nil))))))))))) (Dp 0 rfl (p_move rfl) (Dp 1 rfl (p_nilCheck rfl) (Dp 2 rfl (p_fieldAddr rfl Tryz.runUnderlying352 rfl Tryz.sizeOf129 rfl) (Dp 3 rfl (p_load rfl Tryz.isAgg129 (.head _) rfl) (Dp 4 rfl (p_move rfl) (Dp 5 rfl (p_move rfl) (Dp 6 rfl (p_slLH (a := 0) (b := n) hB.shp rfl Tryz.runUnderlying25 Tryz.sizeOf5 rfl rfl rfl rfl (Nat.zero_le _) hn rfl) ?_)))))))))
  refine Dp 7 rfl (p_nilCheckI rfl) (Dp 8 rfl (p_move rfl) ?_)
  refine DK 9 rfl (e_invoke rfl (fun w => by kernel_rfl) rfl (Ct.thaw (A := A (data ++ xs.drop n)) ⟨_, Tryz.func317, by kernel_rfl, by kernel_rfl⟩ (fun g1 hl1 hst => ct_adWrite g1 dg (adFold (1, 0) D) hadv.1 hadv.2 _ _ _ (Still.sub (c := 0) (d := n) hB hlen hst (Nat.zero_le _) hn) (by rw [List.length_take, List.length_drop]; omega))) (.cons (.there (.there (.there (.there (.there (.there (.there (.there (.there (.there (.there .here))))))))))) (.cons (.there (.there (.there (.there (.there (.there (.there (.there (.there (.there (.there .here))))))))))) .nil))) ?_
  rintro _ _ _ - ⟨_, rfl, ⟨_, rfl, rfl, rfl⟩⟩
  refine ⟨_, (K2 (K2 (K2 (K2 (K2 (K2 (K2 (K2 (K2 (K2 (K2 .nil))))))))))), ?_⟩
  refine DD (E_seq (T_seq (T_seq (T_regionD 6 Tryz.mixed rfl Part.all ?_))))
  have hdt : ((data ++ xs.drop n).drop 0).take (n - 0) = data := by { rw [List.drop_zero, Nat.sub_zero, List.take_append_of_le_length (by omega), List.take_of_length_le (by omega)] }
  rw [hdt, ← adFold_app]
  refine Dp 0 rfl (p_move rfl) (Dp 1 rfl (p_nilCheck rfl) (Dp 2 rfl (p_fieldAddr rfl Tryz.runUnderlying352 rfl Tryz.sizeOf64 rfl) (Dp 3 rfl (p_load rfl Tryz.isAgg64 (.head _) rfl) (Dp 4 rfl (p_loadF rfl Tryz.isAgg64 hx.env.eof) (Dp 5 rfl (p_neqER (t := ES) (hes.errN hx) hx.env.peof rfl rfl Tryz.underlying64 Tryz.underlying272 hf1 hf2 hf3 hf4) (DD (E_seq (T_condNB rfl (fun hc4 => ?_) (fun hc4 => ?_)))))))))
  ·
    have hee := isB_f hc4
    refine T_seq (T_regionD 7 Tryz.mixed rfl Part.all (Dp 0 rfl (p_move rfl) (Dp 1 rfl (p_move rfl) (Dp 2 rfl (p_nilCheck rfl) (Dp 3 rfl (p_fieldAddr rfl Tryz.runUnderlying352 rfl Tryz.sizeOf64 rfl) (Dp 4 rfl (p_load rfl Tryz.isAgg64 (.head _) rfl) (Dp 5 rfl (p_assign rfl) (Dp 6 rfl (p_assign rfl) (DD ?_)))))))))
    refine E_seq (T_ret (E_seq_ret (E_ret2 [_, _, _, _, _, _, _, _, _, _, _, _] rfl (.refl _) rfl rfl (.cons (.there (.there (.there (.there (.there (.there (.there (.there (.there (.there (.there .here))))))))))) (K0 (K0 (K0 (K8 (K0 (K0 (K0 (K0 (K0 (K0 (K0 (K0 .nil))))))))))))) (fun g' hl => ?_))))
    exact ⟨s', hist', p', st', n, er, er, data, _, q0, q1, q2, q3, rfl, hn, hdl, j1, rfl, hes2, z_fst j4 hT hee⟩
  ·
    obtain rfl := isB_t hc4
    obtain ⟨-, hUd, hP, -, hnb⟩ := (j4.resolve_left (fun h => by cases h.1)).resolve_left (fun h => hx.env.ne (EVal_inj.1 h.1))
    have hT2 := hT.resolve_left hnb
    subst hUd
    refine kS (T_seq (T_seq (T_regionD 8 Tryz.mixed rfl Part.all (Dq 0 rfl (fun _ => p_move rfl) (Dq 1 rfl (fun _ => p_nilCheck rfl) (Dq 2 rfl (fun _ => p_fieldAddr rfl Tryz.runUnderlying352 rfl Tryz.sizeOf349 rfl) (Dp 3 rfl (p_load rfl Tryz.isAgg349 (.head _) rfl) (Dq 4 rfl (fun _ => p_move rfl) (Dq 5 rfl (fun _ => p_nilCheck rfl) ?_)))))))))
    refine Dq 6 rfl (fun _ => p_fieldAddr rfl Tryz.runUnderlying352 rfl Tryz.sizeOf350 rfl) (Dp 7 rfl (p_slALH rfl Tryz.runUnderlying350 Tryz.sizeOf5 rfl rfl (by rfl) (by rfl) (Nat.zero_le _) (Nat.le_refl _) (show sl (.slice (some ⟨zb, 0 + 4, none⟩) 4 4) 0 4 1 = .slice (some ⟨zb, 4, none⟩) 4 4 from rfl)) (DB rfl (e_call rfl (ct_readFull g0 x hx st' p' j1 _ 4 _ [q0, q1, q2, q3] (bf_z (srV x) (decV db) (digV dg) (EVal ES x.eE) [] (by decide)) rfl (by omega)) (K0 (K2 (K2 (K2 (K2 (K2 (K2 (K2 .nil))))))))) ?_))
    rintro _ _ _ - ⟨_, rfl, ⟨s2, k, er2, ys, rfl, hyl, h1, h2, h3, rfl⟩⟩
    obtain ⟨y0, y1, y2, y3, rfl⟩ := four_ hyl
    rw [zW_eq4]
    have hEr := Er.of hx (n := p' + 4) (Q := k = 4 ∧ [y0, y1, y2, y3] = (x.C.drop p').take 4) (fun h => ⟨(h1 h).2.1, (h1 h).1, (h1 h).2.2⟩) h2
    refine AP 9 rfl (fun _ => p_move rfl) (AP 10 rfl (fun _ => p_extractL rfl rfl) (AP 11 rfl (fun _ => p_extractL rfl rfl) (AP 12 rfl (fun _ => p_assign rfl) (AP 13 rfl (fun _ => p_assign rfl) (TA_done (by kernel_rfl) (E_seq (SR (Lm rfl (Lp (p_neqE0 hEr.ifn rfl Tryz.underlying64) ?_)))))))))
    refine nS (T_condNB rfl (fun hc6 => ?_) (fun hc6 => ?_))
    ·
      have hlt : x.C.length < p' + 4 := Nat.lt_of_not_le fun h => (isB_f hc6) (h1 h).2.1
      refine T_seq (SR (Lm rfl (Lp (p_loadF rfl Tryz.isAgg64 hx.env.eof) (Lp (p_eqlER (t := ES) hEr.errN hx.env.peof rfl rfl Tryz.underlying64 Tryz.underlying272 hf1 hf2 hf3 hf4) (nS (T_cond rfl (fun hc7 => ?_) (fun hc7 => ?_)))))))
      ·
        skip
        refine T_region (Lp (p_loadF rfl Tryz.isAgg64 hx.env.ueof) (La rfl (nSR (Lm rfl (Lm rfl (Ln rfl (Lf rfl Tryz.runUnderlying352 rfl Tryz.sizeOf64 rfl (TL_k0 (e_store1 rfl rfl Tryz.sizeOf64 rfl (K0 .nil) rfl rfl rfl) ?_))))))))
        rintro _ _ _ - ⟨rfl, rfl⟩
        refine nS (T_seq (T_regionD 7 Tryz.mixed rfl Part.all (Dp 0 rfl (p_move rfl) (Dp 1 rfl (p_move rfl) (Dp 2 rfl (p_nilCheck rfl) (Dp 3 rfl (p_fieldAddr rfl Tryz.runUnderlying352 rfl Tryz.sizeOf64 rfl) (Dp 4 rfl (p_load rfl Tryz.isAgg64 (.head _) rfl) (Dp 5 rfl (p_assign rfl) (Dp 6 rfl (p_assign rfl) ?_)))))))))
        refine DD (E_seq (T_ret (E_seq_ret (E_ret2 [_, _, _, _, _, _, _, _, _, _, _, _] rfl (.refl _) rfl rfl (.cons (.there (.there (.there (.there (.there (.there (.there (.there (.there (.there (.there .here))))))))))) (K0 (K7 (K7 (K8 (K0 (K0 (K0 (K0 (K0 (K0 (K0 (K0 .nil))))))))))))) (fun g' hl => ?_)))))
        exact ⟨s', hist', _, s2, n, _, _, U, _, y0, y1, y2, y3, rfl, hn, hdl, h3, rfl, hes2, .inr (.inl ⟨rfl, rfl, by omega⟩)⟩
      ·
        obtain rfl : er2 = EVal ES x.uE := (h2 hlt).resolve_left (isB_f hc7)
        refine kS (SR (Lm rfl (Lm rfl (Ln rfl (Lf rfl Tryz.runUnderlying352 rfl Tryz.sizeOf64 rfl (TL_k0 (e_store1 rfl rfl Tryz.sizeOf64 rfl (K0 .nil) rfl rfl rfl) ?_))))))
        rintro _ _ _ - ⟨rfl, rfl⟩
        refine nS (T_seq (T_regionD 7 Tryz.mixed rfl Part.all (Dp 0 rfl (p_move rfl) (Dp 1 rfl (p_move rfl) (Dp 2 rfl (p_nilCheck rfl) (Dp 3 rfl (p_fieldAddr rfl Tryz.runUnderlying352 rfl Tryz.sizeOf64 rfl) (Dp 4 rfl (p_load rfl Tryz.isAgg64 (.head _) rfl) (Dp 5 rfl (p_assign rfl) (Dp 6 rfl (p_assign rfl) ?_)))))))))
        refine DD (E_seq (T_ret (E_seq_ret (E_ret2 [_, _, _, _, _, _, _, _, _, _, _, _] rfl (.refl _) rfl rfl (.cons (.there (.there (.there (.there (.there (.there (.there (.there (.there (.there (.there .here))))))))))) (K0 (K7 (K7 (K8 (K0 (K0 (K0 (K0 (K0 (K0 (K0 (K0 .nil))))))))))))) (fun g' hl => ?_)))))
        exact ⟨s', hist', _, s2, n, _, _, U, _, y0, y1, y2, y3, rfl, hn, hdl, h3, rfl, hes2, .inr (.inl ⟨rfl, rfl, by omega⟩)⟩
    ·
      obtain ⟨hlen4, rfl, hyt⟩ := hEr.ok (isB_t hc6)
      obtain rfl := isB_t hc6
      obtain ⟨hz, hP2⟩ := hP.app (show p' + (put32N (adN T)).length ≤ _ from hlen4)
      replace hz : (x.C.drop p').take 4 = put32N (adN T) := hz
      replace hP2 : Pre x.C N (p' + 4) X := hP2
      have hval := put32N_val (adN_lt T) (hyt.trans hz)
      refine kS (T_seq (T_regionD 5 Tryz.mixed rfl Part.all (Dp 0 rfl (p_loadFN (b := 22) (vs := []) rfl Tryz.isAgg370 Tryz.sizeOf370 (fun i v h => by cases h) rfl) (Dq 1 rfl (fun _ => p_move rfl) (Dq 2 rfl (fun _ => p_nilCheck rfl) (Dq 3 rfl (fun _ => p_fieldAddr rfl Tryz.runUnderlying352 rfl Tryz.sizeOf350 rfl) (Dp 4 rfl (p_slAH (b := 4) rfl Tryz.runUnderlying350 Tryz.sizeOf5 rfl (by rfl) (by decide) (show sl (.slice (some ⟨zb, 0 + 4, none⟩) 4 4) 0 4 1 = .slice (some ⟨zb, 4, none⟩) 4 4 from rfl)) (DB rfl (e_call rfl (ct_be32 g0 _ 4 _ [y0, y1, y2, y3] (bf_z (srV x) (decV db) (digV dg) (EVal ES x.eE) [] (by decide)) rfl y0 y1 y2 y3 rfl rfl rfl rfl) (K0 .nil)) ?_))))))))
      rintro _ _ _ - ⟨_, rfl, ⟨rfl, rfl⟩⟩
      rw [zW_eq4, hval]
      refine AP 6 rfl (fun _ => p_assign rfl) (TA_done (by kernel_rfl) (E_seq (T_seq (SR (Lm rfl (Lm rfl (Ln rfl (Lf rfl Tryz.runUnderlying352 rfl Tryz.sizeOf129 rfl (Lp (p_load rfl Tryz.isAgg129 (.head _) rfl) ?_)))))))))
      refine Lk (e_invoke rfl (fun w => by kernel_rfl) rfl (ct_adSum g0 dg _ _) (.cons (.there (.there (.there (.there (.there (.there (.there (.there (.there (.there (.there (.there .here)))))))))))) .nil)) ?_
      rintro _ _ _ - ⟨_, rfl, ⟨rfl, rfl⟩⟩
      refine Lp (p_neq rfl rfl) (nS (T_condD rfl (fun hc12 => ?_) (fun hc12 => ?_)))
      ·
        exact absurd (by rw [← hT2]; rfl) hc12
      ·
        skip
        refine kS (T_seq (T_regionD 4 Tryz.mixed rfl Part.all (Dp 0 rfl (p_move rfl) (Dp 1 rfl (p_loadF rfl Tryz.isAgg64 hx.env.eof) (Dp 2 rfl (p_assign rfl) (Dp 3 rfl (p_assign rfl) (DD (E_seq (T_ret (E_ret2 [_, _, _, _, _, _, _, _, _, _, _, _] rfl (.refl _) rfl rfl (.cons (.there (.there (.there (.there (.there (.there (.there (.there (.there (.there (.there (.there .here)))))))))))) (K1 (K8 (K8 (K0 (K0 (K0 (K0 (K0 (K0 (K0 (K0 (K0 .nil))))))))))))) (fun g' hl => ?_)))))))))))
        exact ⟨s', hist', _, s2, n, _, _, U, _, y0, y1, y2, y3, rfl, hn, hdl, h3, rfl, hes2, .inr (.inr ⟨rfl, rfl, by omega, hP2⟩)⟩
end Go.Proofs.YtolddodhmeaceaaGreatDoor
namespace Go.Proofs.YtolddodhmeaceaaGreatDoor
open Go.Hl Go.Pk
/-- A zlib reader that may be closed. -/
def ZC (x : Fx) (zb : Nat) (Z : Atom) : Prop :=
  ∃ (db : Nat) (hv : Value) (s : DS) (hist : List UInt8) (dg : Nat) (v e : Value) (q0 q1 q2 q3 : UInt8), Z = Hl.many [zB zb (srV x) (decV db) (digV dg) e q0 q1 q2 q3, dcB db s, own hv 1 5 (bvs hist), dgB dg v] ∧ ErS x e ∧ ErS x s.er
theorem rs_ers {x : Fx} {N : Nat} {X : List UInt8} {hv : Value} {s : DS} {hist : List UInt8} {a b pos : Nat} {U : List UInt8} (h : RS x N X hv s hist a b pos U) : ErS x s.er := by
  rcases h.2.2 with ⟨t, h1 | h1, _⟩ | ⟨h1, _⟩
  · exact .inl h1.1
  · exact .inr (.inl h1.1)
  · exact .inr (.inr h1)
theorem ZOk.zc {x : Fx} {N : Nat} {X : List UInt8} {zb pos : Nat} {U : List UInt8} {Z : Atom} (h : ZOk x N X zb pos U Z) : ZC x zb Z := by
  obtain ⟨db, hv, s, hist, a, b, dg, T, D, q0, q1, q2, q3, rfl, h1, h2⟩ := h
  exact ⟨db, hv, s, hist, dg, _, _, q0, q1, q2, q3, rfl, .inl rfl, rs_ers h1⟩
def ZRd (x : Fx) (N : Nat) (X : List UInt8) (zb : Nat) (U : List UInt8) (m pos : Nat) (A : List UInt8 → Atom) (xs : List UInt8) (v : Value) (H' : List Atom) : Prop :=
  ∃ (st' : St) (p' : Nat) (Z' : Atom) (n : Nat) (er : Value) (data : List UInt8), v = .tuple #[.int .i64 n, er] ∧ n ≤ m ∧ data.length = n ∧ StOk x st' p' ∧ H' = A (data ++ xs.drop n) :: Z' :: stA x st' p' ∧ ZC x zb Z' ∧
    ((er = .nilIface ∧ 1 ≤ n ∧ ∃ U', ZOk x N X zb p' U' Z' ∧ U'.length + n = U.length) ∨ (er = EVal ES x.uE ∧ n ≤ U.length) ∨ (er = EVal ES x.eE ∧ n = U.length ∧ Pre x.C N p' X))
theorem ct_zRead (g : GW) (x : Fx) (hx : FxOk g x) (s0 : St) (pos : Nat) (hs : StOk x s0 pos) (N : Nat) (X : List UInt8) (zb : Nat) (U : List UInt8) (Z : Atom) (hZ : ZOk x N X zb pos U Z) (pv : Value) (m : Nat) (A : List UInt8 → Atom) (xs : List UInt8) (hB : Bf pv m A) (hxs : xs.length = m) (hm : 1 ≤ m) (hm2 : m ≤ 1000000000) :
    Ct Tryz.prog g 304 [.pointer (some ⟨zb, 0, none⟩), pv] (A xs :: Z :: stA x s0 pos) (fun v _ H' => ZRd x N X zb U m pos A xs v H') := by
  obtain ⟨db, hv, s, hist, a, b, dg, T, D, q0, q1, q2, q3, rfl, h1, h2⟩ := hZ
  have h := ct_zReadX g x hx s0 pos hs N X zb hv db dg s hist U T D a b q0 q1 q2 q3 h1 h2 pv m A xs hB hxs hm hm2
  refine (Ct.pack (pre := [A xs]) (K := [zB zb (srV x) (decV db) (digV dg) .nilIface q0 q1 q2 q3, dcB db s, own hv 1 5 (bvs hist), dgB dg (adV (adFold (1, 0) D))]) (post := stA x s0 pos) h).conv fun v g' H' F _ hR hsat => ?_
  obtain ⟨s', hist', p', st', n, er, er', data, dv, r0, r1, r2, r3, e1, e2, e3, e4, rfl, e5, e6⟩ := hR
  refine ⟨A (data ++ xs.drop n) :: Hl.many [zB zb (srV x) (decV db) (digV dg) er' r0 r1 r2 r3, dcB db s', own hv 1 5 (bvs hist'), dgB dg (adV dv)] :: stA x st' p', ?_,
    Sat.foldAt (pre := [A (data ++ xs.drop n)]) (K := [zB zb (srV x) (decV db) (digV dg) er' r0 r1 r2 r3, dcB db s', own hv 1 5 (bvs hist'), dgB dg (adV dv)]) (post := stA x st' p') hsat⟩
  refine ⟨st', p', _, n, er, data, e1, e2, e3, e4, rfl, ⟨db, hv, s', hist', dg, _, er', r0, r1, r2, r3, rfl, ?_, e5⟩, ?_⟩
  · rcases e6 with ⟨_, h, _⟩ | ⟨h, h', _⟩ | ⟨h, h', _⟩
    · exact .inl h
    · exact .inr (.inr (h'.trans h))
    · exact .inr (.inl (h'.trans h))
  · rcases e6 with ⟨h3, h4, h5, a', b', U', h6, h7, h8, h9⟩ | ⟨h, h', h3⟩ | ⟨h, h', h3, h4⟩
    · subst h4 h8
      exact .inl ⟨h3, h5, U', ⟨db, hv, s', hist', a', b', dg, T, D ++ data, r0, r1, r2, r3, rfl, h6, h9⟩, h7⟩
    · exact .inr (.inl ⟨h, h3⟩)
    · exact .inr (.inr ⟨h, h3, h4⟩)
theorem ct_zCloseX (g : GW) (x : Fx) (hx : FxOk g x) (zb db dg : Nat) (s : DS) (e : Value) (q0 q1 q2 q3 : UInt8) (he : ErS x e) (hes : ErS x s.er) :
    Ct Tryz.prog g 303 [.pointer (some ⟨zb, 0, none⟩)] [zB zb (srV x) (decV db) (digV dg) e q0 q1 q2 q3, dcB db s] (fun r _ H' => ErS x r ∧ ∃ e', ErS x e' ∧ H' = [zB zb (srV x) (decV db) (digV dg) e' q0 q1 q2 q3, dcB db s]) := by
  obtain ⟨f1, f2, hf1, hf2, hf3, hf4⟩ := es_facts
  refine CI Tryz.func303 Tryz.ntmps303 rfl fun F g0 hg0 => ?_
  replace hx := hx.mono hg0
  refine SR (La rfl (nS (T_seq (T_seq (T_regionD 13 Tryz.mixed rfl Part.all (Dp 0 rfl (p_move rfl) (Dp 1 rfl (p_nilCheck rfl) (Dp 2 rfl (p_fieldAddr rfl Tryz.runUnderlying352 rfl Tryz.sizeOf64 rfl) (Dp 3 rfl (p_load rfl Tryz.isAgg64 (.head _) rfl) ?_)))))))))
  refine Dp 4 rfl (p_neqE0 (he.errN hx).ifn rfl Tryz.underlying64) (Dp 5 rfl (p_move rfl) (TD_split 8 rfl (fun hg1 => ?_) (fun hg1 => ?_)))
  ·
    refine Dg 6 rfl (p_move rfl) (Dg 7 rfl (p_nilCheck rfl) (Dg 8 rfl (p_fieldAddr rfl Tryz.runUnderlying352 rfl Tryz.sizeOf64 rfl) (Dg 9 rfl (p_load rfl Tryz.isAgg64 (.head _) rfl) (Dg 10 rfl (p_loadF rfl Tryz.isAgg64 hx.env.eof) (Dg 11 rfl (p_neqER (t := ES) (he.errN hx) hx.env.peof rfl rfl Tryz.underlying64 Tryz.underlying272 hf1 hf2 hf3 hf4) (Dp 12 rfl (p_pickT rfl rfl) (DD (E_seq (T_condNB rfl (fun hc2 => ?_) (fun hc2 => ?_))))))))))
    ·
      skip
      refine SR (Lm rfl (Ln rfl (Lf rfl Tryz.runUnderlying352 rfl Tryz.sizeOf64 rfl (Lp (p_load rfl Tryz.isAgg64 (.head _) rfl) (La rfl (nr (E_seq_ret (E_ret1 [_, _] rfl (.refl _) rfl (K0 (K0 (K0 .nil))) (fun g' hl => ?_)))))))))
      exact ⟨he, e, he, rfl⟩
    ·
      skip
      refine kS (SR (Lm rfl (Lm rfl (Ln rfl (Lf rfl Tryz.runUnderlying352 rfl Tryz.sizeOf184 rfl (Lp (p_load rfl Tryz.isAgg184 (.head _) rfl) (Lk (e_invoke rfl (fun w => by kernel_rfl) rfl (ct_flClose g0 x hx db s (hes.errN hx)) (K1 .nil)) ?_)))))))
      rintro _ _ _ - ⟨_, rfl, ⟨hc, rfl⟩⟩
      obtain ⟨rr, hrr, hrs⟩ : ∃ rr, rr = _ ∧ ErS x rr := ⟨_, rfl, hc.elim (fun h => .inl h.2) (fun h => h ▸ hes)⟩
      subst hrr
      refine Ln rfl (Lf rfl Tryz.runUnderlying352 rfl Tryz.sizeOf64 rfl (TL_k0 (e_store1 rfl rfl Tryz.sizeOf64 (IfN.one (hrs.errN hx).ifn) (K1 .nil) rfl rfl rfl) ?_))
      rintro _ _ _ - ⟨rfl, rfl⟩
      refine nSR (Lm rfl (Ln rfl (Lf rfl Tryz.runUnderlying352 rfl Tryz.sizeOf64 rfl (Lp (p_load rfl Tryz.isAgg64 (.head _) rfl) (La rfl (nr (E_ret1 [_, _] rfl (.refl _) rfl (K0 (K0 (K0 .nil))) (fun g' hl => ?_))))))))
      exact ⟨hrs, _, hrs, rfl⟩
  ·
    refine Ds 6 rfl (Ds 7 rfl (Ds 8 rfl (Ds 9 rfl (Ds 10 rfl (Ds 11 rfl (Dp 12 rfl (p_pickF rfl rfl) (DD (E_seq (T_condF rfl ?_)))))))))
    refine kS (SR (Lm rfl (Lm rfl (Ln rfl (Lf rfl Tryz.runUnderlying352 rfl Tryz.sizeOf184 rfl (Lp (p_load rfl Tryz.isAgg184 (.head _) rfl) (Lk (e_invoke rfl (fun w => by kernel_rfl) rfl (ct_flClose g0 x hx db s (hes.errN hx)) (K1 .nil)) ?_)))))))
    rintro _ _ _ - ⟨_, rfl, ⟨hc, rfl⟩⟩
    obtain ⟨rr, hrr, hrs⟩ : ∃ rr, rr = _ ∧ ErS x rr := ⟨_, rfl, hc.elim (fun h => .inl h.2) (fun h => h ▸ hes)⟩
    subst hrr
    refine Ln rfl (Lf rfl Tryz.runUnderlying352 rfl Tryz.sizeOf64 rfl (TL_k0 (e_store1 rfl rfl Tryz.sizeOf64 (IfN.one (hrs.errN hx).ifn) (K1 .nil) rfl rfl rfl) ?_))
    rintro _ _ _ - ⟨rfl, rfl⟩
    refine nSR (Lm rfl (Ln rfl (Lf rfl Tryz.runUnderlying352 rfl Tryz.sizeOf64 rfl (Lp (p_load rfl Tryz.isAgg64 (.head _) rfl) (La rfl (nr (E_ret1 [_, _] rfl (.refl _) rfl (K0 (K0 (K0 .nil))) (fun g' hl => ?_))))))))
    exact ⟨hrs, _, hrs, rfl⟩
end Go.Proofs.YtolddodhmeaceaaGreatDoor
namespace Go.Hl
variable {P : Program}
theorem Ct.freeze {g f args H} {R R' : Value → GW → List Atom → Prop} (h : Ct P g f args H R)
    (hr : ∀ v g' H', R v g' H' → ∃ A H'', H' = A :: H'' ∧ ∀ I, (∀ b, g'.I b → I b) → (∀ b, A.dom b → I b) → A.holds g'.w → R' v ⟨g'.w, I⟩ H'') : Ct P g f args H R' := by
  refine ⟨h.1, fun F g' hl hs => (h.2 F g' hl hs).mono ?_⟩
  rintro e w' ⟨v, I, H', he, hl', hR, hs'⟩
  obtain ⟨A, H'', rfl, hk⟩ := hr v _ H' hR
  have hs0 : Sat (A :: (H'' ++ [F])) ⟨w', I⟩ := hs'
  obtain ⟨hf1, hf2⟩ := hs0.freeze
  exact ⟨v, _, H'', he, hl'.trans hf2, hk _ (fun b hb => .inl hb) (fun b hb => .inr hb) (hs0.holds A (by simp)), hf1⟩
end Go.Hl
namespace Go.Proofs.YtolddodhmeaceaaGreatDoor
open Go.Hl Go.Pk
theorem ct_errNew0 (g : GW) (s : List UInt8) : Ct Tryz.prog g 84 [str s] [] (fun v g' H' => ∃ b, v = EVal ES (b, 0) ∧ H' = [blk b (.cells #[str s] 274)]) := by
  refine CI Tryz.func84 Tryz.ntmps84 rfl fun F g0 hg0 => ?_
  refine SR (La rfl (nSR (Lm rfl (Lp (p_build (cells := #[str s]) rfl (by kernel_rfl)) (Lk (e_box rfl rfl) ?_)))))
  rintro _ _ _ - ⟨b, rfl, rfl⟩
  refine Lp (p_mkIface rfl Tryz.runUnderlying272 (fun _ h => by cases h)) (La rfl (nr (E_ret1 [_] rfl (.refl _) rfl (K0 (K0 .nil)) (fun g' hl => ?_))))
  exact ⟨b, rfl, rfl⟩
theorem ct_errNew (g : GW) (s : List UInt8) : Ct Tryz.prog g 84 [str s] [] (fun v g' H' => IsE g' v ∧ H' = []) :=
  (ct_errNew0 g s).freeze fun v g' H' hR => by
    obtain ⟨b, rfl, rfl⟩ := hR
    exact ⟨_, [], rfl, fun I h1 h2 h3 => ⟨⟨(b, 0), rfl, h2 b rfl, _, _, h3⟩, rfl⟩⟩
theorem ct_zReset2 (g : GW) (x : Fx) (hx : FxOk g x) (s0 : St) (pos : Nat) (hs : StOk x s0 pos) (zb : Nat) (N : Nat) (t X : List UInt8) (htl : t.length ≤ 1000000000) (hP : Pre x.C N pos (Pk.stored t ++ X)) :
    Ct Tryz.prog g 167 [.pointer (some ⟨zb, 0, none⟩), srV x, .slice none 0 0] (zB zb .nilIface .nilIface .nilIface .nilIface 0 0 0 0 :: stA x s0 pos)
      (fun v g' H' => ∃ (s' : St) (p' : Nat) (Z : Atom), StOk x s' p' ∧ ((IsE g' v ∧ Z = Hl.many []) ∨ (v = .nilIface ∧ ZOk x N X zb p' t Z)) ∧ H' = Z :: stA x s' p') := by
  refine (ct_zReset g x hx s0 pos hs zb N t X htl hP).conv fun v g' H' F _ hR hsat => ?_
  obtain ⟨s', p', h1, ⟨h2, rfl⟩ | ⟨h2, db, hv, s, hist, dg, q0, q1, q2, q3, h3, rfl⟩⟩ := hR
  · exact ⟨Hl.many [] :: stA x s' p', ⟨s', p', _, h1, .inl ⟨h2, rfl⟩, rfl⟩, Sat.foldAt (pre := []) (K := []) (post := stA x s' p') hsat⟩
  · exact ⟨_, ⟨s', p', _, h1, .inr ⟨h2, db, hv, s, hist, 0, 0, dg, t, [], q0, q1, q2, q3, rfl, h3, .inr rfl⟩, rfl⟩, Sat.foldAt (pre := []) (K := [zB zb (srV x) (decV db) (digV dg) .nilIface q0 q1 q2 q3, dcB db s, own hv 1 5 (bvs hist), dgB dg (adV (1, 0))]) (post := stA x s' p') hsat⟩
abbrev zrV (zb : Nat) : Value := .iface 347 (.pointer (some ⟨zb, 0, none⟩))
def ZGot (g : GW) (x : Fx) (N : Nat) (X t : List UInt8) (p' : Nat) (rv er : Value) (Z : Atom) : Prop :=
  (IsE g er ∧ rv = .nilIface ∧ Z = Hl.many []) ∨ (er = .nilIface ∧ ∃ zb, rv = zrV zb ∧ ZOk x N X zb p' t Z)
theorem ZGot.mono {g g' : GW} {x : Fx} {N : Nat} {X t : List UInt8} {p' : Nat} {rv er : Value} {Z : Atom} (h : ZGot g x N X t p' rv er Z) (hl : Le g g') : ZGot g' x N X t p' rv er Z := h.imp (fun h => ⟨h.1.mono hl, h.2⟩) id
theorem ct_zNewDict (g : GW) (x : Fx) (hx : FxOk g x) (s0 : St) (pos : Nat) (hs : StOk x s0 pos) (N : Nat) (t X : List UInt8) (htl : t.length ≤ 1000000000) (hP : Pre x.C N pos (Pk.stored t ++ X)) :
    Ct Tryz.prog g 154 [srV x, .slice none 0 0] (stA x s0 pos)
      (fun v g' H' => ∃ (s' : St) (p' : Nat) (Z : Atom) (rv er : Value), v = .tuple #[rv, er] ∧ StOk x s' p' ∧ ZGot g' x N X t p' rv er Z ∧ H' = Z :: stA x s' p') := by
  refine CI Tryz.func154 Tryz.ntmps154 rfl fun F g0 hg0 => ?_
  replace hx := hx.mono hg0
  refine SR (La rfl (La rfl (nSR (Lk (e_alloc Tryz.zeroValue352 (show _ = zC .nilIface .nilIface .nilIface .nilIface 0 0 0 0 from rfl)) ?_))))
  rintro _ _ _ - ⟨z, rfl, rfl⟩
  refine La rfl (nSR (Lm rfl (Lm rfl (Lm rfl (LE (e_call rfl (ct_zReset2 g0 x hx s0 pos hs z N t X htl hP) (K0 (K0 (K0 (K0 (K0 (K0 (K0 (K0 .nil))))))))) ?_)))))
  rintro _ gB _ hlgB ⟨_, rfl, ⟨s2, p2, Z, h1, h2, rfl⟩⟩
  refine La rfl (nS (T_seq (SR ?_)))
  obtain ⟨er, her, hin⟩ : ∃ er, er = _ ∧ IfN er := ⟨_, rfl, h2.elim (fun h => h.1.ifn) (fun h => .inl h.1)⟩
  subst her
  refine Lm rfl (Lp (p_neqE0 hin rfl Tryz.underlying64) (nS (T_condNB rfl (fun hc3 => ?_) (fun hc3 => ?_))))
  ·
    obtain ⟨h3, h4⟩ := h2.resolve_right (fun h => isB_f hc3 h.1)
    refine SR (Lm rfl (La rfl (La rfl (nr (E_seq_ret (E_ret2 [_, _, _, _, _, _, _, _] rfl hlgB rfl rfl (K0 (K0 (K0 (K0 (K0 (K0 (K0 (K0 (K0 .nil))))))))) (fun g' hl => ?_)))))))
    exact ⟨s2, p2, Z, _, _, rfl, h1, .inl ⟨h3.mono hl, rfl, h4⟩, rfl⟩
  ·
    obtain ⟨h3, h4⟩ := h2.resolve_left (fun h => h.1.ne (isB_t hc3))
    refine kS (SR (Lm rfl (Lp (p_mkIface rfl Tryz.runUnderlying347 (fun _ h => by cases h)) (La rfl (La rfl (nr (E_ret2 [_, _, _, _, _, _, _, _] rfl hlgB rfl rfl (K0 (K0 (K0 (K0 (K0 (K0 (K0 (K0 (K0 .nil))))))))) (fun g' hl => ?_))))))))
    exact ⟨s2, p2, Z, _, _, rfl, h1, .inr ⟨rfl, z, rfl, h4⟩, rfl⟩
theorem ct_zNew (g : GW) (x : Fx) (hx : FxOk g x) (s0 : St) (pos : Nat) (hs : StOk x s0 pos) (N : Nat) (t X : List UInt8) (htl : t.length ≤ 1000000000) (hP : Pre x.C N pos (Pk.stored t ++ X)) :
    Ct Tryz.prog g 132 [srV x] (stA x s0 pos)
      (fun v g' H' => ∃ (s' : St) (p' : Nat) (Z : Atom) (rv er : Value), v = .tuple #[rv, er] ∧ StOk x s' p' ∧ ZGot g' x N X t p' rv er Z ∧ H' = Z :: stA x s' p') := by
  refine CI Tryz.func132 Tryz.ntmps132 rfl fun F g0 hg0 => ?_
  replace hx := hx.mono hg0
  refine SR (La rfl (La rfl (nSR (Lm rfl (LE (e_call rfl (ct_zNewDict g0 x hx s0 pos hs N t X htl hP) (K0 (K0 (K0 (K0 (K0 (K0 (K0 .nil)))))))) ?_)))))
  rintro _ gB _ hlgB ⟨_, rfl, ⟨s2, p2, Z, rv, er, rfl, h1, h2, rfl⟩⟩
  refine Lx rfl rfl (Lx rfl rfl (La rfl (La rfl (nr (E_ret2 [_, _, _, _, _, _, _, _] rfl hlgB rfl rfl (K0 (K0 (K0 (K0 (K0 (K0 (K0 (K0 (K0 .nil))))))))) (fun g' hl => ?_))))))
  exact ⟨s2, p2, Z, _, _, rfl, h1, h2.mono hl, rfl⟩
theorem ZGot.ifn {g : GW} {x : Fx} {N : Nat} {X t : List UInt8} {p' : Nat} {rv er : Value} {Z : Atom} (h : ZGot g x N X t p' rv er Z) : IfN rv ∧ IfN er := by
  rcases h with ⟨h1, h2, _⟩ | ⟨h1, zb, h2, _⟩
  · exact ⟨.inl h2, h1.ifn⟩
  · exact ⟨.inr ⟨_, _, h2⟩, .inl h1⟩
theorem ct_getZ (g : GW) (x : Fx) (hx : FxOk g x) (s0 : St) (pos : Nat) (hs : StOk x s0 pos) (N : Nat) (t X : List UInt8) (htl : t.length ≤ 1000000000) (hP : Pre x.C N pos (Pk.stored t ++ X)) :
    Ct Tryz.prog g 82 [srV x] (stA x s0 pos)
      (fun v g' H' => ∃ (s' : St) (p' : Nat) (Z : Atom) (rv er : Value), v = .tuple #[.agg #[rv], er] ∧ StOk x s' p' ∧ ZGot g' x N X t p' rv er Z ∧ H' = Z :: stA x s' p') := by
  refine CI Tryz.func82 Tryz.ntmps82 rfl fun F g0 hg0 => ?_
  replace hx := hx.mono hg0
  refine SR (Lk (e_alloc Tryz.zeroValue186 (show _ = #[Value.nilIface] from rfl)) ?_)
  rintro _ _ _ - ⟨e, rfl, rfl⟩
  refine La rfl (nSR (Lm rfl (LE (e_call rfl (ct_zNew g0 x hx s0 pos hs N t X htl hP) (K1 (K1 (K1 (K1 (K1 (K1 (K1 .nil)))))))) ?_)))
  rintro _ gB _ hlgB ⟨_, rfl, ⟨s2, p2, Z, rv, er, rfl, h1, h2, rfl⟩⟩
  refine Lm rfl (Lx rfl rfl (Lx rfl rfl (La rfl (La rfl (nSR (Lm rfl ?_))))))
  refine Lp (p_build (cells := #[rv]) rfl (by rcases h2.ifn.1 with h | ⟨_, _, h⟩ <;> rw [h] <;> kernel_rfl)) ?_
  refine Lm rfl ?_
  refine TL_k0 (e_storeW rfl rfl Tryz.sizeOf186 rfl rfl (by intro u hu; simp [Value.cells] at hu; subst hu; exact IfN.one h2.ifn.1) (K8 .nil) rfl) ?_
  rintro _ _ _ - ⟨rfl, rfl⟩
  refine La rfl (nr (E_retV [_, _, _, _, _, _, _, _] rfl hlgB (.cons (.whole (cs := #[rv]) rfl Tryz.isAgg186 Tryz.sizeOf186 (.head _) rfl) (.cons (.tmp rfl) .nil)) (K1 (K1 (K1 (K1 (K1 (K1 (K1 (K1 (K1 .nil))))))))) (fun g' hl => ?_)))
  exact ⟨s2, p2, Z, _, _, rfl, h1, h2.mono hl, rfl⟩
theorem ct_zClose (g : GW) (x : Fx) (hx : FxOk g x) (zb : Nat) (Z : Atom) (hZ : ZC x zb Z) : Ct Tryz.prog g 303 [.pointer (some ⟨zb, 0, none⟩)] [Z] (fun r _ H' => ErS x r ∧ ∃ Z', ZC x zb Z' ∧ H' = [Z']) := by
  obtain ⟨db, hv, s, hist, dg, v, e, q0, q1, q2, q3, rfl, h1, h2⟩ := hZ
  refine (((ct_zCloseX g x hx zb db dg s e q0 q1 q2 q3 h1 h2).frame [own hv 1 5 (bvs hist), dgB dg v]).many).mono fun r g' H' _ hR => ?_
  obtain ⟨H0, rfl, H1, rfl, h3, e', h4, rfl⟩ := hR
  exact ⟨h3, _, ⟨db, hv, s, hist, dg, v, e', q0, q1, q2, q3, rfl, h4, h2⟩, rfl⟩
end Go.Proofs.YtolddodhmeaceaaGreatDoor
namespace Go.Proofs.YtolddodhmeaceaaGreatDoor
open Go.Hl Go.Pk
theorem ct_putZ0 (g : GW) : CtD Tryz.prog g 83 [.agg #[.nilIface]] [] (fun _ H' => H' = []) := by
  refine CtD_intro Tryz.func83 rfl (by kernel_rfl) Tryz.ntmps83 rfl ?_
  intro F g0 hg0
  refine SR (Lk (e_box rfl rfl) ?_)
  rintro _ _ _ - ⟨e, rfl, rfl⟩
  refine nSR (Lf rfl Tryz.runUnderlying186 rfl Tryz.sizeOf184 rfl (Lp (p_load rfl Tryz.isAgg184 (.head _) rfl) (Lp (p_neqNN rfl Tryz.underlying184) (nS (T_condF rfl (T_skip (E_end0 [] rfl (.refl _) (K1 .nil) (fun g' hl => ?_))))))))
  exact rfl
theorem ct_putZ1 (g : GW) (x : Fx) (hx : FxOk g x) (zb : Nat) (Z : Atom) (hZ : ZC x zb Z) : CtD Tryz.prog g 83 [.agg #[zrV zb]] [Z] (fun _ H' => ∃ Z', ZC x zb Z' ∧ H' = [Z']) := by
  refine CtD_intro Tryz.func83 rfl (by kernel_rfl) Tryz.ntmps83 rfl ?_
  intro F g0 hg0
  replace hx := hx.mono hg0
  refine SR (Lk (e_box rfl rfl) ?_)
  rintro _ _ _ - ⟨e, rfl, rfl⟩
  refine nSR (Lf rfl Tryz.runUnderlying186 rfl Tryz.sizeOf184 rfl (Lp (p_load rfl Tryz.isAgg184 (.head _) rfl) (Lp (p_neqIN rfl rfl Tryz.underlying184) (nS (T_condT rfl (T_region (Lf rfl Tryz.runUnderlying186 rfl Tryz.sizeOf184 rfl (Lp (p_load rfl Tryz.isAgg184 (.head _) rfl) (Lk (e_invoke rfl (fun w => by kernel_rfl) rfl (ct_zClose g0 x hx zb Z hZ) (K1 .nil)) ?_)))))))))
  rintro _ _ _ - ⟨_, rfl, ⟨hr, Z', hZ', rfl⟩⟩
  refine TL_nil (E_end0 [_] rfl (.refl _) (K0 (K1 .nil)) (fun g' hl => ?_))
  exact ⟨Z', hZ', rfl⟩
theorem ct_checkClose (g : GW) (x : Fx) (hx : FxOk g x) (zb eb : Nat) (Z : Atom) (er : Value) (he : IfN er) (ty : TypeId) (hZ : ZC x zb Z) :
    CtD Tryz.prog g 85 [zrV zb, .pointer (some ⟨eb, 0, none⟩)] [Z, blk eb (.cells #[er] ty)] (fun _ H' => ∃ Z' er', ZC x zb Z' ∧ (er ≠ .nilIface → er' = er) ∧ (er = .nilIface → ErS x er') ∧ H' = [Z', blk eb (.cells #[er'] ty)]) := by
  refine CtD_intro Tryz.func85 rfl (by kernel_rfl) Tryz.ntmps85 rfl ?_
  intro F g0 hg0
  replace hx := hx.mono hg0
  refine SR (Lm rfl (Lk (e_invoke rfl (fun w => by kernel_rfl) rfl (ct_zClose g0 x hx zb Z hZ) (K0 .nil)) ?_))
  rintro _ _ _ - ⟨_, rfl, ⟨hr, Z', hZ', rfl⟩⟩
  refine La rfl (nSR (Lm rfl (Lp (p_neqE0 (hr.errN hx).ifn rfl Tryz.underlying64) (Lm rfl (TL_splitNB 9 rfl (fun hg2 => ?_) (fun hg2 => ?_))))))
  ·
    refine Lg (p_move rfl) (Lg (p_nilCheck rfl) (Lg (p_load rfl Tryz.isAgg64 (.tail _ (.head _)) rfl) (Lg (p_eqlE0 he rfl Tryz.underlying64) (Lp (p_pickT rfl rfl) (nS (T_cond rfl (fun hc3 => ?_) (fun hc3 => ?_)))))))
    ·
      have h1 := isB_t hc3
      refine T_region (Lm rfl (Lm rfl (Ln rfl (TL_k0 (e_store1 rfl rfl Tryz.sizeOf64 (IfN.one (hr.errN hx).ifn) (K1 .nil) rfl rfl rfl) ?_))))
      rintro _ _ _ - ⟨rfl, rfl⟩
      refine TL_nil (E_end0 [_, _] rfl (.refl _) (K1 (K0 (K0 .nil))) (fun g' hl => ?_))
      exact ⟨Z', _, hZ', fun h => absurd h1 h, fun _ => hr, rfl⟩
    ·
      skip
      refine T_skip (E_end0 [_, _] rfl (.refl _) (K0 (K0 (K0 .nil))) (fun g' hl => ?_))
      exact ⟨Z', er, hZ', fun _ => rfl, fun h => .inl h, rfl⟩
  ·
    refine Ls (Ls (Ls (Ls (Lp (p_pickF rfl rfl) (nS (T_condF rfl (T_skip (E_end0 [_, _] rfl (.refl _) (K0 (K0 (K0 .nil))) (fun g' hl => ?_)))))))))
    exact ⟨Z', er, hZ', fun _ => rfl, fun h => .inl h, rfl⟩
def bndC (wv : Value) (M n : Nat) : Array Value := #[wv, .int .i64 M, .int .i64 n]
abbrev bndA (bw : Nat) (wv : Value) (M n : Nat) : Atom := blk bw (.cells (bndC wv M n) 195)
theorem ct_bndWrite (g : GW) (bw : Nat) (wv : Value) (M n n0 : Nat) (Sk : Nat → Atom → Prop) (hW : Wr Tryz.prog g wv Sk) (S : Atom) (hS : Sk (n0 + n) S) (pv : Value) (p : List UInt8) (hp : Bytes g pv p) (hM : n + p.length ≤ M) (hM2 : n0 + M ≤ 1000000000) :
    Ct Tryz.prog g 290 [.pointer (some ⟨bw, 0, none⟩), pv] [bndA bw wv M n, S] (fun r _ H' => r = .tuple #[.int .i64 p.length, .nilIface] ∧ ∃ S', Sk (n0 + (n + p.length)) S' ∧ H' = [bndA bw wv M (n + p.length), S']) := by
  refine CI Tryz.func290 Tryz.ntmps290 rfl fun F g0 hg0 => ?_
  replace hp := hp.mono hg0
  replace hW := hW.mono hg0
  obtain ⟨t, rv, f, rv', rfl, hm, hc⟩ := id hW
  refine SR (La rfl (La rfl (nS (T_seq (T_seq (T_regionD 12 Tryz.mixed rfl Part.all (Dp 0 rfl (p_move rfl) (Dp 1 rfl (p_nilCheck rfl) (Dp 2 rfl (p_fieldAddr rfl Tryz.runUnderlying195 rfl Tryz.sizeOf2 rfl) ?_)))))))))
  refine Dp 3 rfl (p_load rfl Tryz.isAgg2 (.head _) rfl) (Dp 4 rfl (p_move rfl) (Dp 5 rfl (p_len (hp.1) rfl rfl Tryz.runUnderlying25) (Dp 6 rfl (p_add rfl rfl (wr64 (by omega) (by omega))) (Dp 7 rfl (p_move rfl) (Dp 8 rfl (p_nilCheck rfl) (Dp 9 rfl (p_fieldAddr rfl Tryz.runUnderlying195 rfl Tryz.sizeOf2 rfl) (Dp 10 rfl (p_load rfl Tryz.isAgg2 (.head _) rfl) (Dp 11 rfl (p_gtr rfl rfl) (DD ?_)))))))))
  refine E_seq (T_condD rfl (fun hc1 => ?_) (fun hc1 => ?_))
  ·
    omega
  ·
    skip
    refine kS (SR (Lm rfl (Ln rfl (Lf rfl Tryz.runUnderlying195 rfl Tryz.sizeOf126 rfl (Lp (p_load rfl Tryz.isAgg126 (.head _) rfl) (Lm rfl (Lk (e_invoke rfl hm rfl (hc g0 (.refl _) (n0 + n) S pv p hS hp (by omega)) (K1 .nil)) ?_)))))))
    rintro _ _ _ - ⟨_, rfl, ⟨rfl, S2, rfl, hS2⟩⟩
    refine Lm rfl (Lx rfl rfl (Lx rfl rfl (La rfl (La rfl (nSR (Lm rfl (Ln rfl (Lf rfl Tryz.runUnderlying195 rfl Tryz.sizeOf2 rfl (Lp (p_load rfl Tryz.isAgg2 (.tail _ (.head _)) rfl) ?_)))))))))
    refine Lm rfl ?_
    refine Lp (p_add rfl rfl ((show IntKind.i64.wrap ((n : Int) + (p.length : Int)) = ((n + p.length : Nat) : Int) from by rw [wr64 (by omega) (by omega)]; omega))) ?_
    refine Ln rfl (Lf rfl Tryz.runUnderlying195 rfl Tryz.sizeOf2 rfl (TL_k0 (e_store1 rfl rfl Tryz.sizeOf2 rfl (K1 .nil) rfl rfl rfl) ?_))
    rintro _ _ _ - ⟨rfl, rfl⟩
    refine nSR (Lm rfl (Lm rfl (La rfl (La rfl (nr (E_ret2 [_, _] rfl (.refl _) rfl rfl (K0 (K0 (K0 .nil))) (fun g' hl => ?_)))))))
    exact ⟨rfl, S2, by rw [← Nat.add_assoc]; exact hS2, rfl⟩
theorem ct_getBS (g : GW) : Ct Tryz.prog g 86 [] [] (fun r _ H' => ∃ pb bv bs, r = .pointer (some ⟨pb, 0, none⟩) ∧ Shp bv 16384 ∧ bs.length = 16384 ∧ H' = [blk pb (.cells #[bv] 25), own bv 1 5 (bvs bs)]) := by
  obtain ⟨n, hn⟩ : ∃ n : Nat, n = 16384 := ⟨_, rfl⟩
  refine CI Tryz.func86 Tryz.ntmps86 rfl fun F g0 hg0 => ?_
  refine SR (La rfl (nSR ?_))
  refine Lk (e_make (l := 16384) (c := 16384) rfl rfl Tryz.runUnderlying25 Tryz.typeInfo5 rfl rfl rfl (by omega) (by show 1 * _ ≤ _; omega) (by omega)) ?_
  rintro _ _ _ - ⟨h, rfl, rfl⟩
  rw [rep_bvs]
  refine Lk (e_alloc Tryz.zeroValue25 (show _ = #[Value.slice none 0 0] from rfl)) ?_
  rintro _ _ _ - ⟨e, rfl, rfl⟩
  refine TL_k0 (e_store1 rfl rfl Tryz.sizeOf25 rfl (K0 .nil) rfl rfl rfl) ?_
  rintro _ _ _ - ⟨rfl, rfl⟩
  refine nSR (La rfl (nr (E_ret1 [_, _] rfl (.refl _) rfl (K0 (K0 (K0 .nil))) (fun g' hl => ?_))))
  exact ⟨e, _, List.replicate 16384 0, rfl, .inr ⟨h, 0, 16384, Nat.le_refl _, rfl⟩, List.length_replicate, rfl⟩
end Go.Proofs.YtolddodhmeaceaaGreatDoor
namespace Go.Hl
variable {P : Program}
theorem least_some {l : List String} (h : l ≠ []) : ∃ s, Instr.least l = some s := by
  cases l with
  | nil => exact absurd rfl h
  | cons a l => exact ⟨_, rfl⟩
theorem missing_some {want : Array (String × TypeId)} {got : Array Method} {p : String × TypeId} (hp : p ∈ want.toList) (h : ∀ m ∈ got.toList, m.name ≠ p.1) : ∃ s, Instr.missingMethod want got = some s := by
  unfold Instr.missingMethod
  have hne : ((want.toList.filter fun (x : String × TypeId) => !got.any fun m => m.name == x.1 && m.sig == x.2).map (·.1)) ≠ [] := by
    intro he
    have h1 : p.1 ∈ ((want.toList.filter fun (x : String × TypeId) => !got.any fun m => m.name == x.1 && m.sig == x.2).map (·.1)) := by
      refine List.mem_map.2 ⟨p, List.mem_filter.2 ⟨hp, ?_⟩, rfl⟩
      rw [Bool.not_eq_true', Bool.eq_false_iff]
      intro h2
      obtain ⟨i, hi, h3⟩ := Array.any_eq_true.1 h2
      have := h got[i] (by simp)
      simp only [Bool.and_eq_true, beq_iff_eq] at h3
      exact this h3.1
    rw [he] at h1
    cases h1
  simp only [List.partition_eq_filter_filter]
  generalize ((want.toList.filter fun (x : String × TypeId) => !got.any fun m => m.name == x.1 && m.sig == x.2).map (·.1)) = l at hne
  by_cases h1 : l.filter (not ∘ fun (x : String) => x.contains (Char.ofNat 46)) = []
  · have h2 : l.filter (fun (x : String) => x.contains (Char.ofNat 46)) ≠ [] := by
      intro h3
      refine hne ?_
      cases l with
      | nil => rfl
      | cons a l =>
        by_cases ha : a.contains (Char.ofNat 46) = true
        · rw [List.filter_cons_of_pos (by exact ha)] at h3; cases h3
        · rw [List.filter_cons_of_pos (by simp only [Function.comp_apply]; rw [Bool.not_eq_true']; exact Bool.eq_false_iff.2 ha)] at h1; cases h1
    obtain ⟨s, hs⟩ := least_some (l := (l.filter (fun (x : String) => x.contains (Char.ofNat 46))).map fun id => (id.splitOn ".").getLastD id) (by simpa using h2)
    refine ⟨s, ?_⟩
    rw [h1, hs]; rfl
  · obtain ⟨s, hs⟩ := least_some h1
    exact ⟨s, by rw [hs]; rfl⟩
/-- It lacks a method that is asked for. -/
theorem p_assertNN {d : Option Nat} {ty : TypeId} {ps : String} {af : Array Edge} {gd : Option (Nat × Bool)} {g : GW} {L : List (Nat × Value)} {H : List Atom} {x v u xt a want ti z} {p : String × TypeId} (ex : ev L x = some (.iface u v)) (hu : ∀ w, (underlying a).run P w = .ok (.interface want) w) (hi : ∀ w, (typeInfo u).run P w = .ok ti w)
    (hz : ∀ w, (zeroValue a).run P w = .ok z w) (hp : p ∈ want.toList) (hm : ∀ m ∈ ti.methods.toList, m.name ≠ p.1) :
    OpP P ⟨d, .typeAssert x xt a true, ty, ps, af, gd⟩ g L H (.tuple #[z, .bool false]) := by
  obtain ⟨s, hs⟩ := missing_some hp hm
  refine p_assert ex fun w => ?_
  unfold Instr.typeAssert
  simp only [Sem.run_bind, hu, Result.andThen_ok, hi, hs]
  simp only [if_true, Sem.run_bind, hz, Result.andThen_ok, Sem.run_pure]
end Go.Hl
namespace Go.Proofs.YtolddodhmeaceaaGreatDoor
open Go.Hl Go.Pk
abbrev bndV (bw : Nat) : Value := .iface 193 (.pointer (some ⟨bw, 0, none⟩))
theorem cb_nil {er : Value} {u e : Nat × Nat} {A B C : Prop} (h : A ∨ (er = EVal ES u ∧ B) ∨ (er = EVal ES e ∧ C)) (hn : er = .nilIface) : A := by
  rcases h with h | h | h
  · exact h
  · have := h.1.symm.trans hn; cases this
  · have := h.1.symm.trans hn; cases this
theorem ct_copyBuffer (g : GW) (x : Fx) (hx : FxOk g x) (s0 : St) (pos : Nat) (hs : StOk x s0 pos) (N : Nat) (X : List UInt8) (zb : Nat) (U : List UInt8) (Z : Atom) (hZ : ZOk x N X zb pos U Z)
    (bw : Nat) (wv : Value) (M n0 : Nat) (Sk : Nat → Atom → Prop) (hW : Wr Tryz.prog g wv Sk) (S : Atom) (hS : Sk (n0 + 0) S) (hM : U.length ≤ M) (hM2 : n0 + M ≤ 1000000000) (bv : Value) (bs : List UInt8) (hb : Shp bv 16384) (hbl : bs.length = 16384) (hbn : ∃ q l c, bv = .slice (some q) l c) :
    Ct Tryz.prog g 133 [bndV bw, zrV zb, bv] (own bv 1 5 (bvs bs) :: Z :: bndA bw wv M 0 :: S :: stA x s0 pos)
      (fun v _ H' => ∃ (st' : St) (p' : Nat) (Z' S' : Atom) (w : Nat) (er : Value) (bs' : List UInt8), v = .tuple #[.int .i64 w, er] ∧ ZC x zb Z' ∧ StOk x st' p' ∧ ((er = .nilIface ∧ w = U.length ∧ Sk (n0 + w) S' ∧ Pre x.C N p' X) ∨ er = EVal ES x.uE) ∧
        H' = own bv 1 5 (bvs bs') :: Z' :: bndA bw wv M w :: S' :: stA x st' p') := by
  obtain ⟨q, ql, qc, rfl⟩ := hbn
  obtain ⟨f1, f2, hf1, hf2, hf3, hf4⟩ := es_facts
  refine CI Tryz.func133 Tryz.ntmps133 rfl fun F g0 hg0 => ?_
  replace hx := hx.mono hg0
  replace hW := hW.mono hg0
  refine SR (La rfl (La rfl (nS (T_seq (SR (Lm rfl (Lp (p_assertNN rfl Tryz.runUnderlying320 Tryz.typeInfo347 Tryz.zeroValue320 (.head _) (by simp [Tryz.t347])) (Lm rfl (Lx rfl rfl ?_)))))))))
  refine Lx rfl rfl (La rfl (La rfl (nSR (Lm rfl (nS (T_condF rfl (kS (T_seq (SR ?_)))))))))
  refine Lm rfl (Lp (p_assertNN rfl Tryz.runUnderlying324 Tryz.typeInfo193 Tryz.zeroValue324 (.head _) (by simp [Tryz.t193])) (Lm rfl (Lx rfl rfl (Lx rfl rfl (La rfl (La rfl (nSR (Lm rfl ?_))))))))
  refine nS (T_condF rfl (kS (T_seq (SR (Lm rfl (Lp (p_eqlSN rfl rfl Tryz.underlying25) (nS (T_condF rfl (kS ?_)))))))))
  refine T_seq (T_block ?_)
  refine T_loop (ι := Nat × List UInt8 × List UInt8 × Atom × Atom × St × Nat) (fun y _ => y.1 + y.2.1.length = U.length ∧ y.2.2.1.length = 16384 ∧ ZOk x N X zb y.2.2.2.2.2.2 y.2.1 y.2.2.2.1 ∧ Sk (n0 + y.1) y.2.2.2.2.1 ∧ StOk x y.2.2.2.2.2.1 y.2.2.2.2.2.2) (fun y => [(0, bndV bw), (1, zrV zb), (2, .slice (some q) ql qc), (6, .int .i64 y.1), (7, .nilIface)]) (fun y => [own (.slice (some q) ql qc) 1 5 (bvs y.2.2.1), y.2.2.2.1, bndA bw wv M y.1, y.2.2.2.2.1, blk x.sr (.cells (srC (brV x.br) x.wv x.rb x.wb y.2.2.2.2.2.2) 170), blk x.br (.cells (brC x.cv y.2.2.2.2.2.1.rb.i y.2.2.2.2.2.1.rb.pr) 133), blk x.rb (.cells (rbC x.bv (brV x.br) y.2.2.2.2.2.1.rb.r y.2.2.2.2.2.1.rb.w .nilIface y.2.2.2.2.2.1.rb.lb y.2.2.2.2.2.1.rb.lr) 263), own x.bv 1 5 (bvs y.2.2.2.2.2.1.rb.bl), blk x.wb (.cells (bwC .nilIface x.bv2 y.2.2.2.2.2.1.bw.n x.wv) 258), own x.bv2 1 5 (bvs y.2.2.2.2.2.1.bw.bl), y.2.2.2.2.2.1.bw.S, F]) (fun y => y.2.1.length) ((0, U, bs, Z, S, s0, pos)) (fun g' hl => ⟨by dsimp only; omega, hbl, hZ, hS, hs⟩) (by repeat (first | exact SubL.nil | refine SubL.cons rfl ?_)) (K0 (K0 (K0 (K0 (K0 (K0 (K0 (K0 (K0 (K0 (K0 (K0 .nil)))))))))))) ?_
  rintro ⟨w, U1, bs, Z, S, s0, p⟩ gA hlgA ⟨hw, hbl, hZ, hS, hs⟩
  try dsimp only
  try dsimp only at hw hbl hZ hS hs
  replace hx := hx.mono hlgA
  replace hW := hW.mono hlgA
  refine T_block (SR (Lm rfl (Lm rfl (Lk (e_invoke rfl (fun w => by kernel_rfl) rfl (ct_zRead gA x hx s0 p hs N X zb U1 Z hZ _ 16384 _ bs (Bf.own 5 hb) hbl (by omega) (by omega)) (K0 (K0 (K2 (K2 (K2 (K2 (K2 (K2 (K2 .nil)))))))))) ?_))))
  rintro _ _ _ - ⟨_, rfl, ⟨st', p', Z', n, er, data, rfl, hn, hdl, h3, rfl, hzc, hcase⟩⟩
  have hnU : n ≤ U1.length := (by rcases hcase with ⟨_, _, U', _, h⟩ | ⟨_, h⟩ | ⟨_, h, _⟩ <;> omega)
  have hlen : (data ++ bs.drop n).length = 16384 := by { rw [List.length_append, List.length_drop]; omega }
  refine Lm rfl (Lx rfl rfl (Lx rfl rfl (La rfl (La rfl (nS (T_cut (ι := Atom) (fun S' _ => Sk (n0 + (w + n)) S') (fun _ => [(0, bndV bw), (1, zrV zb), (2, .slice (some q) ql qc), (6, .int .i64 ((w + n : Nat) : Int)), (7, .nilIface), (16, er)]) (fun y => [own (.slice (some q) ql qc) 1 5 (bvs (data ++ bs.drop n)), Z', bndA bw wv M (w + n), y, blk x.sr (.cells (srC (brV x.br) x.wv x.rb x.wb p') 170), blk x.br (.cells (brC x.cv st'.rb.i st'.rb.pr) 133), blk x.rb (.cells (rbC x.bv (brV x.br) st'.rb.r st'.rb.w .nilIface st'.rb.lb st'.rb.lr) 263), own x.bv 1 5 (bvs st'.rb.bl), blk x.wb (.cells (bwC .nilIface x.bv2 st'.bw.n x.wv) 258), own x.bv2 1 5 (bvs st'.bw.bl), st'.bw.S, F]) ?_ ?_))))))
  ·
    refine SR (Lm rfl (Lp (p_gtr rfl rfl) (nS (T_condD rfl (fun hc3 => ?_) (fun hc3 => ?_)))))
    ·
      skip
      refine T_seq (T_regionD 7 Tryz.mixed rfl Part.all (Dq 0 rfl (fun _ => p_move rfl) (Dq 1 rfl (fun _ => p_move rfl) (Dq 2 rfl (fun _ => p_move rfl) (Dp 3 rfl (p_slLH (a := 0) (b := n) hb rfl Tryz.runUnderlying25 Tryz.sizeOf5 rfl rfl rfl rfl (Nat.zero_le _) hn rfl) (Dq 4 rfl (fun _ => p_makeFunc rfl rfl) (Dq 5 rfl (fun _ => p_nilCheckM rfl (fun w => by kernel_rfl)) (Dp 6 rfl (p_move rfl) ?_))))))))
      refine DB rfl (e_invoke rfl (fun w => by kernel_rfl) rfl (Ct.thaw (A := own (.slice (some q) ql qc) 1 5 (bvs (data ++ bs.drop n))) ⟨_, Tryz.func290, by kernel_rfl, by kernel_rfl⟩ (fun g1 hl1 hst => ct_bndWrite g1 bw wv M w n0 Sk (hW.mono hl1) S hS _ _ (Still.sub (A := fun ys => own (.slice (some q) ql qc) 1 5 (bvs ys)) (c := 0) (d := n) (Bf.own 5 hb) hlen hst (Nat.zero_le _) hn) (by rw [List.length_take, List.length_drop, hlen]; omega) hM2)) (K0 (K8 (K8 .nil)))) ?_
      rintro _ _ _ - ⟨_, rfl, ⟨_, rfl, rfl, S2, hS2, rfl⟩⟩
      have hdn : (((data ++ bs.drop n).drop 0).take (n - 0)).length = n := by { rw [List.length_take, List.length_drop, hlen]; omega }
      rw [hdn] at hS2 ⊢
      refine AP 8 rfl (fun _ => p_move rfl) (AP 9 rfl (fun _ => p_extractL rfl rfl) (AP 10 rfl (fun _ => p_extractL rfl rfl) (AP 11 rfl (fun _ => p_assign rfl) (AP 12 rfl (fun _ => p_assign rfl) (TA_done (by kernel_rfl) (E_seq (T_seq (SR (Lm rfl ?_)))))))))
      refine Lp (p_lss rfl rfl) (Lm rfl (TL_splitD 89 rfl (fun hg5 => ?_) (fun hg5 => ?_)))
      ·
        omega
      ·
        refine Lg (p_move rfl) (Lg (p_move rfl) (Lg (p_lss rfl rfl) (Lp (p_pickF rfl rfl) (nS (T_condD rfl (fun hc6 => ?_) (fun hc6 => ?_))))))
        ·
          omega
        ·
          skip
          refine kS (SR (Lm rfl (Lm rfl ?_)))
          refine Lp (p_add rfl rfl ((show IntKind.i64.wrap ((w : Int) + (n : Int)) = ((w + n : Nat) : Int) from by rw [wr64 (by omega) (by omega)]; omega))) ?_
          refine La rfl (nS (T_seq (SR (Lm rfl (Lp (p_neqNN rfl Tryz.underlying64) (nS (T_condF rfl (kS (SR ?_)))))))))
          refine Lm rfl (Lm rfl (Lp (p_neq rfl rfl) (nS (T_condD rfl (fun hc7 => ?_) (fun hc7 => ?_)))))
          ·
            omega
          ·
            skip
            refine T_skip (EC (.refl _) (S2) ?hI (K0 (K2 (K0 (K0 (K0 (K0 (K0 (K0 (K0 (K0 (K0 (K0 .nil)))))))))))))
            case hI => intro g' hl; exact hS2
    ·
      obtain rfl : n = 0 := by omega
      refine T_skip (EC (.refl _) (S) ?hI (K0 (K0 (K7 (K7 (K0 (K0 (K0 (K0 (K0 (K0 (K0 (K0 .nil)))))))))))))
      case hI => intro g' hl; exact hS
  ·
    rintro S' gC hlgC hS'
    replace hx := hx.mono hlgC
    refine SR ?_
    have hin : IfN er := (by rcases hcase with h | h | h; exact .inl h.1; exact .inr ⟨_, _, h.1⟩; exact .inr ⟨_, _, h.1⟩)
    have hErN : ErrN ES gC er := (by rcases hcase with h | h | h; exact .inl h.1; exact .inr ⟨_, h.1, hx.env.pueof⟩; exact .inr ⟨_, h.1, hx.env.peof⟩)
    refine Lm rfl (Lp (p_neqE0 hin rfl Tryz.underlying64) (nS (T_condNB rfl (fun hc9 => ?_) (fun hc9 => ?_))))
    ·
      replace hcase := hcase.resolve_left (fun h => isB_f hc9 h.1)
      refine T_seq (SR (Lm rfl (Lp (p_loadF rfl Tryz.isAgg64 hx.env.eof) (Lp (p_neqER (t := ES) hErN hx.env.peof rfl rfl Tryz.underlying64 Tryz.underlying272 hf1 hf2 hf3 hf4) (nS (T_condNB rfl (fun hc10 => ?_) (fun hc10 => ?_)))))))
      ·
        have hee := (hcase.resolve_right (fun h => isB_f hc10 h.1)).1
        refine T_region (Lm rfl (La rfl (nS (T_exit (E_block_pass rfl (E_loop_exit (E_block_hit (E_seq (SR ?_)))))))))
        refine Lm rfl (Lm rfl (La rfl (La rfl (nr (E_ret2 [_, _, _, _, _, _, _, _, _, _, _] rfl (hlgA.trans hlgC) rfl rfl (K0 (K0 (K0 (K0 (K0 (K0 (K0 (K0 (K0 (K0 (K0 (K0 .nil)))))))))))) (fun g' hl => ?_))))))
        exact ⟨st', p', Z', S', _, _, _, rfl, hzc, h3, .inr hee, rfl⟩
      ·
        obtain rfl := isB_t hc10
        obtain ⟨-, hnl, hP⟩ := hcase.resolve_left (fun h => hx.env.ne (EVal_inj.1 h.1))
        refine kS (T_exit (E_block_pass rfl (E_loop_exit (E_block_hit (E_seq (SR (Lm rfl (Lm rfl (La rfl ?_)))))))))
        refine La rfl (nr (E_ret2 [_, _, _, _, _, _, _, _, _, _, _] rfl (hlgA.trans hlgC) rfl rfl (K0 (K0 (K0 (K0 (K0 (K0 (K0 (K0 (K0 (K0 (K0 (K0 .nil)))))))))))) (fun g' hl => ?_)))
        exact ⟨st', p', Z', S', _, _, _, rfl, hzc, h3, .inl ⟨rfl, by omega, hS', hP⟩, rfl⟩
    ·
      obtain ⟨-, h1n, U', hZ', hUl⟩ := cb_nil hcase (isB_t hc9)
      refine T_skip (E_block (EL hlgC ((w + n, U', data ++ bs.drop n, Z', S', st', p')) ?hm ?hI ((K0 (K0 (K0 (K0 (K0 (K0 (K0 (K0 (K0 (K0 (K0 (K0 .nil)))))))))))))))
      case hm => exact (by dsimp only; omega)
      case hI => exact (fun g' hl => ⟨by dsimp only; omega, hlen, hZ', hS', h3⟩)
theorem ct_CopyBuffer (g : GW) (x : Fx) (hx : FxOk g x) (s0 : St) (pos : Nat) (hs : StOk x s0 pos) (N : Nat) (X : List UInt8) (zb : Nat) (U : List UInt8) (Z : Atom) (hZ : ZOk x N X zb pos U Z)
    (bw : Nat) (wv : Value) (M n0 : Nat) (Sk : Nat → Atom → Prop) (hW : Wr Tryz.prog g wv Sk) (S : Atom) (hS : Sk (n0 + 0) S) (hM : U.length ≤ M) (hM2 : n0 + M ≤ 1000000000) (bv : Value) (bs : List UInt8) (hb : Shp bv 16384) (hbl : bs.length = 16384) :
    Ct Tryz.prog g 87 [bndV bw, zrV zb, bv] (own bv 1 5 (bvs bs) :: Z :: bndA bw wv M 0 :: S :: stA x s0 pos)
      (fun v _ H' => ∃ (st' : St) (p' : Nat) (Z' S' : Atom) (w : Nat) (er : Value) (bs' : List UInt8), v = .tuple #[.int .i64 w, er] ∧ ZC x zb Z' ∧ StOk x st' p' ∧ ((er = .nilIface ∧ w = U.length ∧ Sk (n0 + w) S' ∧ Pre x.C N p' X) ∨ er = EVal ES x.uE) ∧
        H' = own bv 1 5 (bvs bs') :: Z' :: bndA bw wv M w :: S' :: stA x st' p') := by
  obtain ⟨q, ql, qc, hbn⟩ : ∃ q l c, bv = .slice (some q) l c := by
    rcases hb with ⟨p0, cap, h, h2, _⟩ | ⟨b, o, cap, h, h2⟩
    · cases h2
    · exact ⟨_, _, _, h2⟩
  obtain ⟨qb, qo, qs⟩ := q
  have hqs : qs = none := by
    rcases hb with ⟨p0, cap, h, h2, _⟩ | ⟨b, o, cap, h, h2⟩
    · cases h2
    · rw [h2] at hbn; injection hbn with h3; injection h3 with h3; injection h3 with _ _ h3; exact h3.symm
  subst hqs
  have hql : ql = 16384 := by
    rcases hb with ⟨p0, cap, h, h2, _⟩ | ⟨b, o, cap, h, h2⟩
    · cases h2
    · rw [h2] at hbn; injection hbn with h3 h4; exact h4.symm
  subst hbn hql
  refine CI Tryz.func87 Tryz.ntmps87 rfl fun F g0 hg0 => ?_
  replace hx := hx.mono hg0
  replace hW := hW.mono hg0
  refine SR (La rfl (La rfl (nS (T_seq (SR (Lm rfl (Lp (p_neqSN rfl rfl Tryz.underlying25) (Lm rfl (Lg (p_move rfl) ?_)))))))))
  refine Lg (p_lenSl rfl rfl Tryz.runUnderlying25) (Lg (p_eql rfl rfl) (Lp (p_pickT rfl rfl) (nS (T_condF rfl (kS (SR (Lm rfl (Lm rfl (Lm rfl ?_)))))))))
  refine Lk (e_call rfl (ct_copyBuffer g0 x hx s0 pos hs N X zb U Z hZ bw wv M n0 Sk hW S hS hM hM2 _ bs hb hbl ⟨_, _, _, rfl⟩) (K0 (K0 (K0 (K0 (K0 (K0 (K0 (K0 (K0 (K0 (K0 .nil)))))))))))) ?_
  rintro _ _ _ - ⟨_, rfl, ⟨st', p', Z', S', w, er, bs', rfl, h1, h2, h3, rfl⟩⟩
  refine Lx rfl rfl (Lx rfl rfl (La rfl (La rfl (nr (E_ret2 [_, _, _, _, _, _, _, _, _, _, _] rfl (.refl _) rfl rfl (K0 (K0 (K0 (K0 (K0 (K0 (K0 (K0 (K0 (K0 (K0 (K0 .nil)))))))))))) (fun g' hl => ?_))))))
  exact ⟨st', p', Z', S', w, er, bs', rfl, h1, h2, h3, rfl⟩
end Go.Proofs.YtolddodhmeaceaaGreatDoor
namespace Go.Proofs.YtolddodhmeaceaaGreatDoor
open Go.Hl Go.Pk
theorem ct_putBS (g : GW) (v : Value) : Ct Tryz.prog g 88 [v] [] (fun _ _ H' => H' = []) := by
  refine CI Tryz.func88 Tryz.ntmps88 rfl fun F g0 hg0 => ?_
  refine T_skip (E_end0 [] rfl (.refl _) (K0 .nil) (fun g' hl => ?_))
  exact rfl
theorem cb_er {g : GW} {x : Fx} (hx : FxOk g x) {er : Value} {A : Prop} (h : (er = .nilIface ∧ A) ∨ er = EVal ES x.uE) : IfN er ∧ Er g er A := by
  rcases h with h | h
  · exact ⟨.inl h.1, .inl h⟩
  · exact ⟨.inr ⟨_, _, h⟩, .inr ⟨_, h, hx.env.pueof⟩⟩
theorem cb_end {g : GW} {x : Fx} (hx : FxOk g x) {er er' : Value} {w n : Nat} {Q R : Prop} (h : (er = .nilIface ∧ w = n ∧ Q ∧ R) ∨ er = EVal ES x.uE) (h1 : er ≠ .nilIface → er' = er) (h2 : er = .nilIface → ErS x er') {Q' : Prop} (hq : w = n → Q → Q') : Er g er' (w = n ∧ Q' ∧ R) := by
  rcases h with ⟨h3, h4, h5, h6⟩ | h3
  · rcases h2 h3 with h7 | h7 | h7
    · exact .inl ⟨h7, h4, hq h4 h5, h6⟩
    · exact .inr ⟨_, h7, hx.env.peof⟩
    · exact .inr ⟨_, h7, hx.env.pueof⟩
  · exact .inr ⟨_, (h1 (by rw [h3]; intro h; cases h)).trans h3, hx.env.pueof⟩
theorem ct_copyObject (g : GW) (x : Fx) (hx : FxOk g x) (s0 : St) (pos : Nat) (hs : StOk x s0 pos) (sn : Nat) (crc hv pend : Value) (ver obj : Int) (sk : Bool) (N : Nat) (t X : List UInt8) (hP : Pre x.C N pos (Pk.stored t ++ X))
    (wv : Value) (n0 : Nat) (Sk : Nat → Atom → Prop) (hW : Wr Tryz.prog g wv Sk) (S : Atom) (hS : Sk n0 S) (hM2 : n0 + t.length ≤ 1000000000) :
    Ct Tryz.prog g 56 [.pointer (some ⟨sn, 0, none⟩), wv, .int .i64 t.length] (S :: scA x s0 pos sn crc hv pend ver obj sk)
      (fun v g' H' => ∃ (s' : St) (p' : Nat) (S' : Atom) (w : Nat) (er : Value), v = .tuple #[.int .i64 w, er] ∧ Er g' er (w = t.length ∧ Sk (n0 + t.length) S' ∧ Pre x.C N p' X) ∧ StOk x s' p' ∧ H' = S' :: scA x s' p' sn crc hv pend ver obj sk) := by
  refine Ct_introD Tryz.func56 rfl (by kernel_rfl) Tryz.ntmps56 rfl ?_
  intro F g0 hg0
  replace hx := hx.mono hg0
  replace hW := hW.mono hg0
  obtain ⟨ti, rvi, fi, rvi', rfl, hmi, hci⟩ := id hW
  refine SR (La rfl (Lk (e_alloc Tryz.zeroValue64 (show _ = #[Value.nilIface] from rfl)) ?_))
  rintro _ _ _ - ⟨e, rfl, rfl⟩
  refine nSR (Lm rfl (Ln rfl (Lf rfl Tryz.runUnderlying131 rfl Tryz.sizeOf123 rfl (Lp (p_load rfl Tryz.isAgg123 (.tail _ (.tail _ (.head _))) rfl) (Lp (p_mkIface rfl Tryz.runUnderlying123 (fun _ h => by cases h)) (LE (e_call rfl (ct_getZ g0 x hx s0 pos hs N t X (by omega) hP) (K3 (K3 (K3 (K3 (K3 (K3 (K3 .nil)))))))) ?_))))))
  rintro _ gB _ hlgB ⟨_, rfl, ⟨s2, p2, Z, rv, er, rfl, h1, h2, rfl⟩⟩
  replace hx := hx.mono hlgB
  replace hW := hW.mono hlgB
  refine Lm rfl (Lx rfl rfl (Lx rfl rfl (Lk (e_alloc Tryz.zeroValue186 (show _ = #[Value.nilIface] from rfl)) ?_)))
  rintro _ _ _ - ⟨d, rfl, rfl⟩
  refine TL_k0 (e_storeW rfl rfl Tryz.sizeOf186 rfl rfl (by intro u hu; simp [Value.cells] at hu; subst hu; exact IfN.one h2.ifn.1) (K0 .nil) rfl) ?_
  rintro _ _ _ - ⟨rfl, rfl⟩
  refine TL_k0 (e_store1 rfl rfl Tryz.sizeOf64 (IfN.one h2.ifn.2) (.cons (.there (.there (.there (.there (.there (.there (.there (.there (.there .here))))))))) .nil) rfl rfl rfl) ?_
  rintro _ _ _ - ⟨rfl, rfl⟩
  refine nSR (Lp (p_loadW (cs := #[rv]) rfl Tryz.isAgg186 Tryz.sizeOf186 (.tail _ (.head _)) rfl) (TL_defer rfl (nS (T_seq (SR (Lp (p_load rfl Tryz.isAgg64 (.head _) rfl) (Lp (p_neqE0 h2.ifn.2 rfl Tryz.underlying64) (nS (T_condNB rfl (fun hc6 => ?_) (fun hc6 => ?_))))))))))
  ·
    obtain ⟨h3, rfl, h4⟩ := h2.resolve_right (fun h => isB_f hc6 h.1)
    refine SR (LE (e_call rfl (ct_errNew gB _) .nil) ?_)
    rintro _ gE _ hlgE ⟨_, rfl, ⟨hE, rfl⟩⟩
    refine La rfl (TL_k0 (e_store1 rfl rfl Tryz.sizeOf64 (IfN.one hE.ifn) (K0 .nil) rfl rfl rfl) ?_)
    rintro _ _ _ - ⟨rfl, rfl⟩
    refine nr (E_seq_ret (E_pop (ct_putZ0 _) .nil ?_))
    rintro gp9 _ hlgp9 rfl
    refine E_retVD [_, _, _, _, _, _, _, _, _] rfl ((hlgB.trans hlgE).trans hlgp9) (.cons (.tmp rfl) (.cons (.one rfl Tryz.isAgg64 (.head _) rfl) .nil)) (.cons (.there (.there (.there (.there (.there (.there (.there (.there (.there (.there .here)))))))))) (.cons (.there (.there (.there (.there (.there (.there (.there (.there (.there (.there .here)))))))))) (K3 (K3 (K3 (K3 (K3 (K3 (K3 (K3 .nil)))))))))) (fun g' hl => ?_)
    exact ⟨s2, p2, S, 0, _, rfl, .inr (hE.mono (.trans (by assumption) hl)), h1, rfl⟩
  ·
    obtain ⟨h3, zb, rfl, hZ⟩ := h2.resolve_left (fun h => h.1.ne (isB_t hc6))
    subst h3
    refine kS (SR (Lf rfl Tryz.runUnderlying186 rfl Tryz.sizeOf184 rfl (Lp (p_load rfl Tryz.isAgg184 (.tail _ (.head _)) rfl) (TL_defer rfl (nSR (Lm rfl (La rfl (nS (T_seq ?_)))))))))
    refine SR (Lm rfl (Lp (p_geq rfl rfl) (nS (T_condD rfl (fun hc10 => ?_) (fun hc10 => ?_)))))
    ·
      skip
      refine T_region (Lm rfl (Lm rfl (Lp (p_build (cells := bndC (.iface ti rvi) t.length 0) rfl (by kernel_rfl)) (Lk (e_box rfl rfl) ?_))))
      rintro _ _ _ - ⟨w, rfl, rfl⟩
      refine Lp (p_mkIface rfl Tryz.runUnderlying193 (fun _ h => by cases h)) (La rfl (nSR (Lk (e_call rfl (ct_getBS gB) .nil) ?_)))
      rintro _ _ _ - ⟨_, rfl, ⟨pb, bv, bs, rfl, hbv, hbl, rfl⟩⟩
      refine La rfl (nS (T_seq (T_regionD 6 Tryz.mixed rfl Part.all (Dp 0 rfl (p_move rfl) (Dq 1 rfl (fun _ => p_fieldAddr rfl Tryz.runUnderlying186 rfl Tryz.sizeOf184 rfl) (Dp 2 rfl (p_load rfl Tryz.isAgg184 (.tail _ (.tail _ (.tail _ (.tail _ (.head _))))) rfl) (Dq 3 rfl (fun _ => p_move rfl) (Dq 4 rfl (fun _ => p_nilCheck rfl) (Dp 5 rfl (p_load rfl Tryz.isAgg25 (.head _) rfl) ?_)))))))))
      refine DB rfl (e_call rfl (ct_CopyBuffer gB x hx s2 p2 h1 N X zb t Z hZ w (.iface ti rvi) t.length n0 Sk hW S hS (Nat.le_refl _) hM2 bv bs hbv hbl) (K1 (K4 (K1 (.cons (.there (.there (.there (.there (.there (.there (.there (.there (.there (.there .here)))))))))) (K3 (K3 (K3 (K3 (K3 (K3 (K3 .nil)))))))))))) ?_
      rintro _ _ _ - ⟨_, rfl, ⟨s3, p3, Z', S', wn, er2, bs2, rfl, hzc, h5, h6, rfl⟩⟩
      obtain ⟨hin2, hEr2⟩ := cb_er hx h6
      refine AP 7 rfl (fun _ => p_move rfl) (AP 8 rfl (fun _ => p_extractL rfl rfl) (AP 9 rfl (fun _ => p_extractL rfl rfl) (AP 10 rfl (fun _ => p_assign rfl) (TA_k (i := 11) rfl rfl (by kernel_rfl) rfl rfl (e_store1 rfl rfl Tryz.sizeOf64 (IfN.one hin2) (.cons (.there (.there (.there (.there (.there (.there (.there (.there (.there (.there (.there (.there .here)))))))))))) .nil) rfl rfl rfl) ?_))))
      rintro _ _ _ - ⟨rfl, rfl⟩
      refine TA_done (by kernel_rfl) (E_seq (SR (Lm rfl (Lk (e_call rfl (ct_putBS gB _) .nil) ?_))))
      rintro _ _ _ - ⟨_, rfl, rfl⟩
      refine nr (E_pop (ct_checkClose _ x hx zb e Z' er2 hin2 _ hzc) (K2 (K0 .nil)) ?_)
      rintro gp16 _ hlgp16 ⟨Z2, er3, hz2, he1, he2, rfl⟩
      refine E_pop (ct_putZ1 _ x (hx.mono (by assumption)) zb Z2 hz2) (K0 .nil) ?_
      rintro gp17 _ hlgp17 ⟨Z3, hz3, rfl⟩
      refine E_retVD [_, _, _, _, _, _, _, _, _] rfl ((hlgB.trans hlgp16).trans hlgp17) (.cons (.tmp rfl) (.cons (.one rfl Tryz.isAgg64 (.tail _ (.head _)) rfl) .nil)) (K4 (.cons (.there (.there (.there (.there (.there (.there (.there (.there (.there (.there (.there (.there (.there .here))))))))))))) (K4 (K4 (K4 (K4 (K4 (K4 (K4 (K6 .nil)))))))))) (fun g' hl => ?_)
      exact ⟨s3, p3, S', wn, er3, rfl, cb_end (hx.mono (.trans (by assumption) (.trans (by assumption) hl))) h6 he1 he2 (fun e h => e ▸ h), h5, rfl⟩
    ·
      omega
end Go.Proofs.YtolddodhmeaceaaGreatDoor
namespace Go.Proofs.YtolddodhmeaceaaGreatDoor
open Go.Hl Go.Pk
structure OH where
  t : Int
  off : Int
  len : Int
  ref : List UInt8
  oref : Int
def ref20 (r : List UInt8) : List UInt8 := (r ++ List.replicate 20 0).take 20
theorem ref20_len (r : List UInt8) : (ref20 r).length = 20 := by
  unfold ref20; rw [List.length_take, List.length_append, List.length_replicate]; omega
theorem ref20_id {r : List UInt8} (h : r.length = 20) : ref20 r = r := by
  unfold ref20; rw [List.take_append_of_le_length (by omega), List.take_of_length_le (by omega)]
def ohL (o : OH) : List Value := [.int .i8 o.t, .int .i64 o.off, .int .i64 o.len]
def ohC (o : OH) : Array Value := (ohL o ++ (bvs (ref20 o.ref) ++ [Value.int .i64 o.oref])).toArray
theorem oh_len (o : OH) : (bvs (ref20 o.ref)).length = 20 := by rw [bvs_length, ref20_len]
theorem oh_size (o : OH) : (ohC o).size = 24 := by
  unfold ohC; rw [List.size_toArray, List.length_append, List.length_append, oh_len]; rfl
theorem oh_lt (o : OH) {i : Nat} (h : i < 24) : Nat.blt i (ohC o).size = true := by rw [oh_size]; simpa [Nat.blt_eq] using h
theorem oh_glo (o : OH) {v : Value} (i : Nat) (hi : i < 3) (h : (ohL o)[i]? = some v) : (ohC o)[i]? = some v := by
  unfold ohC; rw [List.getElem?_toArray, List.getElem?_append_left (by exact hi)]; exact h
theorem oh_gref (o : OH) : ∀ i v, (bvs (ref20 o.ref))[i]? = some v → (ohC o)[3 + i]? = some v := by
  intro i v h
  have hl := (List.getElem?_eq_some_iff.1 h).1
  unfold ohC
  rw [List.getElem?_toArray, List.getElem?_append_right (by show 3 ≤ _; omega), show (3 + i - (ohL o).length) = i from by show 3 + i - 3 = i; omega, List.getElem?_append_left hl]
  exact h
theorem oh_ghi (o : OH) : (ohC o)[23]? = some (.int .i64 o.oref) := by
  unfold ohC
  rw [List.getElem?_toArray, List.getElem?_append_right (by show 3 ≤ _; omega), show (23 - (ohL o).length) = 20 from rfl, List.getElem?_append_right (by rw [oh_len]; omega), oh_len]
  rfl
theorem oh_slo (o o' : OH) {v : Value} (i : Nat) (hi : i < 3) (h : (ohL o).set i v = ohL o') (h1 : o.ref = o'.ref) (h2 : o.oref = o'.oref) : (ohC o).setIfInBounds i v = ohC o' := by
  unfold ohC; rw [List.setIfInBounds_toArray, List.set_append_left _ _ (by exact hi), h, h1, h2]
theorem oh_shi (o : OH) (z : Int) : (ohC o).setIfInBounds 23 (.int .i64 z) = ohC { o with oref := z } := by
  unfold ohC
  rw [List.setIfInBounds_toArray, List.set_append_right _ _ (by show 3 ≤ _; omega), show (23 - (ohL o).length) = 20 from rfl, List.set_append_right _ _ (by rw [oh_len]; omega), oh_len]
  rfl
theorem oh_sref (o : OH) (ys : List UInt8) (hy : ys.length = 20) : setR (ohC o) 3 (bvs ys) = ohC { o with ref := ys } := by
  apply Array.ext_getElem?
  intro i
  rw [setR_get _ _ _ _ (by rw [oh_size, bvs_length]; omega), bvs_length, hy]
  by_cases h : 3 ≤ i ∧ i < 3 + 20
  · rw [if_pos h]
    obtain ⟨c, hc⟩ := get_some (l := ys) (k := i - 3) (by omega)
    have := oh_gref { o with ref := ys } (i - 3) (bv c) (by rw [ref20_id hy]; simp [bvs, hc])
    rw [show 3 + (i - 3) = i from by omega] at this
    rw [this]
    simp [bvs, hc]
  · rw [if_neg h]
    by_cases h3 : i < 3
    · obtain ⟨v, hv⟩ : ∃ v, (ohL o)[i]? = some v := ⟨_, List.getElem?_eq_getElem (by exact h3)⟩
      rw [oh_glo o i h3 hv]
      exact (oh_glo { o with ref := ys } i h3 hv).symm
    · by_cases h4 : i = 23
      · subst h4; rw [oh_ghi]; exact (oh_ghi { o with ref := ys }).symm
      · rw [Array.getElem?_eq_none (by rw [oh_size]; omega), Array.getElem?_eq_none (by rw [oh_size]; omega)]
theorem oh_g81_0 {t off len oref : Int} {ref : List UInt8} (s : OH) (h : s = ⟨t, off, len, ref, oref⟩) : (ohC s)[0]? = some (.int .i8 t) := by subst h; exact oh_glo _ 0 (by decide) rfl
theorem oh_g81_1 {t off len oref : Int} {ref : List UInt8} (s : OH) (h : s = ⟨t, off, len, ref, oref⟩) : (ohC s)[1]? = some (.int .i64 off) := by subst h; exact oh_glo _ 1 (by decide) rfl
theorem oh_g81_2 {t off len oref : Int} {ref : List UInt8} (s : OH) (h : s = ⟨t, off, len, ref, oref⟩) : (ohC s)[2]? = some (.int .i64 len) := by subst h; exact oh_glo _ 2 (by decide) rfl
theorem oh_g81_4 {t off len oref : Int} {ref : List UInt8} (s : OH) (h : s = ⟨t, off, len, ref, oref⟩) : (ohC s)[23]? = some (.int .i64 oref) := by subst h; exact oh_ghi _
theorem oh_l81_0 (s : OH) : Nat.blt 0 (ohC s).size = true := oh_lt s (by decide)
theorem oh_l81_1 (s : OH) : Nat.blt 1 (ohC s).size = true := oh_lt s (by decide)
theorem oh_l81_2 (s : OH) : Nat.blt 2 (ohC s).size = true := oh_lt s (by decide)
theorem oh_l81_4 (s : OH) : Nat.blt 23 (ohC s).size = true := oh_lt s (by decide)
theorem oh_s81_0 {t off len oref : Int} {ref : List UInt8} (s : OH) (v : Int) (h : s = ⟨t, off, len, ref, oref⟩) : (ohC s).setIfInBounds 0 (.int .i8 v) = ohC ⟨v, off, len, ref, oref⟩ := by subst h; exact oh_slo _ _ 0 (by decide) rfl rfl rfl
theorem oh_s81_1 {t off len oref : Int} {ref : List UInt8} (s : OH) (v : Int) (h : s = ⟨t, off, len, ref, oref⟩) : (ohC s).setIfInBounds 1 (.int .i64 v) = ohC ⟨t, v, len, ref, oref⟩ := by subst h; exact oh_slo _ _ 1 (by decide) rfl rfl rfl
theorem oh_s81_2 {t off len oref : Int} {ref : List UInt8} (s : OH) (v : Int) (h : s = ⟨t, off, len, ref, oref⟩) : (ohC s).setIfInBounds 2 (.int .i64 v) = ohC ⟨t, off, v, ref, oref⟩ := by subst h; exact oh_slo _ _ 2 (by decide) rfl rfl rfl
theorem oh_s81_4 {t off len oref : Int} {ref : List UInt8} (s : OH) (v : Int) (h : s = ⟨t, off, len, ref, oref⟩) : (ohC s).setIfInBounds 23 (.int .i64 v) = ohC ⟨t, off, len, ref, v⟩ := by subst h; exact oh_shi _ v
theorem oh_srefx {t off len oref : Int} {ref : List UInt8} (s : OH) (h : s = ⟨t, off, len, ref, oref⟩) (ys : List UInt8) (hy : ys.length = 20) : setR (ohC s) 3 (bvs ys) = ohC ⟨t, off, len, ys, oref⟩ := by subst h; exact oh_sref _ ys hy
theorem oh_z : #[Value.int .i8 0, .int .i64 0, .int .i64 0, .int .u8 0, .int .u8 0, .int .u8 0, .int .u8 0, .int .u8 0, .int .u8 0, .int .u8 0, .int .u8 0, .int .u8 0, .int .u8 0, .int .u8 0, .int .u8 0, .int .u8 0, .int .u8 0, .int .u8 0, .int .u8 0, .int .u8 0, .int .u8 0, .int .u8 0, .int .u8 0, .int .i64 0] = ohC ⟨0, 0, 0, [], 0⟩ := by kernel_rfl
attribute [irreducible] ohC
abbrev ohA (ob : Nat) (o : OH) : Atom := blk ob (.cells (ohC o) 81)
theorem ct_crcReset (g : GW) (cb : Nat) (z : Int) : Ct Tryz.prog g 261 [.pointer (some ⟨cb, 0, none⟩)] [blk cb (.cells (crcC z) 119)] (fun _ _ H' => H' = [blk cb (.cells (crcC 0) 119)]) := by
  refine CI Tryz.func261 Tryz.ntmps261 rfl fun F g0 hg0 => ?_
  refine T_region (Lm rfl (Ln rfl (Lf rfl Tryz.runUnderlying119 rfl Tryz.sizeOf29 rfl (TL_k0 (e_store1 rfl rfl Tryz.sizeOf29 rfl (K0 .nil) rfl rfl rfl) ?_))))
  rintro _ _ _ - ⟨rfl, rfl⟩
  refine TL_nil (E_end0 [_] rfl (.refl _) (K0 (K0 .nil)) (fun g' hl => ?_))
  exact rfl
theorem ct_crcSum (g : GW) (cb : Nat) (z : Int) : Ct Tryz.prog g 264 [.pointer (some ⟨cb, 0, none⟩)] [blk cb (.cells (crcC z) 119)] (fun r _ H' => r = .int .u32 z ∧ H' = [blk cb (.cells (crcC z) 119)]) := by
  refine CI Tryz.func264 Tryz.ntmps264 rfl fun F g0 hg0 => ?_
  refine SR (La rfl (nSR (Lm rfl (Ln rfl (Lf rfl Tryz.runUnderlying119 rfl Tryz.sizeOf29 rfl (Lp (p_load rfl Tryz.isAgg29 (.head _) rfl) (La rfl (nr (E_ret1 [_] rfl (.refl _) rfl (K0 (K0 .nil)) (fun g' hl => ?_))))))))))
  exact ⟨rfl, rfl⟩
abbrev crcV (cb : Nat) : Value := .iface 117 (.pointer (some ⟨cb, 0, none⟩))
theorem sk_reset (g : GW) {cb hb n : Nat} {S : Atom} (h : Sk2 (SkCrc cb) (SkHash hb) n S) : Ct Tryz.prog g 261 [.pointer (some ⟨cb, 0, none⟩)] [S] (fun _ _ H' => ∃ S', Sk2 (SkCrc cb) (SkHash hb) n S' ∧ H' = [S']) := by
  obtain ⟨A, B, rfl, ⟨z, rfl⟩, hB⟩ := h
  refine (((ct_crcReset g cb z).frame [B]).many).mono fun v g' H' _ hR => ?_
  obtain ⟨H0, rfl, H1, rfl, rfl⟩ := hR
  exact ⟨_, ⟨_, B, rfl, ⟨0, rfl⟩, hB⟩, rfl⟩
theorem sk_sum (g : GW) {cb hb n : Nat} {S : Atom} (h : Sk2 (SkCrc cb) (SkHash hb) n S) : Ct Tryz.prog g 264 [.pointer (some ⟨cb, 0, none⟩)] [S] (fun r _ H' => ∃ z, r = .int .u32 z ∧ H' = [S]) := by
  obtain ⟨A, B, rfl, ⟨z, rfl⟩, hB⟩ := h
  refine (((ct_crcSum g cb z).frame [B]).many).mono fun v g' H' _ hR => ?_
  obtain ⟨H0, rfl, H1, rfl, h1, rfl⟩ := hR
  exact ⟨z, h1, rfl⟩
def skC (cb hb : Nat) : Nat → Atom → Prop := Sk2 (SkCrc cb) (SkHash hb)
theorem StOk.setS {x : Fx} {s : St} {pos : Nat} (h : StOk x s pos) {S' : Atom} (h1 : x.Sk s.bw.s S') : StOk x ⟨s.rb, ⟨s.bw.bl, s.bw.n, s.bw.s, S'⟩⟩ pos := ⟨h.rb, ⟨h.bw.len, h.bw.n, h1, h.bw.tot⟩⟩
end Go.Proofs.YtolddodhmeaceaaGreatDoor
namespace Go.Proofs.YtolddodhmeaceaaGreatDoor
open Go.Hl Go.Pk
theorem en6 {e : En} (h : e.Ok) (hk : (e.kind : Int) = 6) : BackOk e.mid := by
  rcases h.kind with h | h | h
  · omega
  · exact h.2.1
  · omega
theorem en7 {e : En} (h : e.Ok) (hk : (e.kind : Int) = 7) : e.mid.length = 20 := by
  rcases h.kind with h | h | h
  · omega
  · omega
  · exact h.2
theorem en0 {e : En} (h : e.Ok) (h6 : ¬ (e.kind : Int) = 6) (h7 : ¬ (e.kind : Int) = 7) : e.mid = [] := by
  rcases h.kind with h | h | h
  · exact h.2.2
  · omega
  · omega
theorem en_k {e : En} (h : e.Ok) : e.kind < 8 := by rcases h.kind with h | h | h <;> omega
abbrev pV (b : Nat) : Value := .pointer (some ⟨b, 0, none⟩)
def HdrR (x : Fx) (N : Nat) (X : List UInt8) (e : En) (p' : Nat) (ob : Nat) (oh : OH) (vp : Value) : Prop := vp = pV ob ∧ oh.t = e.kind ∧ oh.len = e.text.length ∧ Pre x.C N p' (Pk.stored e.text ++ X)
theorem ct_nextHdr (g : GW) (x : Fx) (hx : FxOk g x) (s0 : St) (pos : Nat) (hs : StOk x s0 pos) (sn cb hb : Nat) (hSk : x.Sk = skC cb hb) (hv pend : Value) (ver obj : Int) (sk : Bool) (N : Nat) (X : List UInt8) (e : En) (he : e.Ok) (hP : Pre x.C N pos (e.bytes ++ X)) :
    Ct Tryz.prog g 55 [pV sn] (scA x s0 pos sn (crcV cb) hv pend ver obj sk)
      (fun v g' H' => ∃ (s' : St) (p' ob : Nat) (oh : OH) (vp er : Value), v = .tuple #[vp, er] ∧ Er g' er (HdrR x N X e p' ob oh vp) ∧ StOk x s' p' ∧ H' = ohA ob oh :: scA x s' p' sn (crcV cb) hv (pV ob) ver obj sk) := by
  have hP1 : Pre x.C N pos (entryHead e.kind e.text.length ++ (e.mid ++ (Pk.stored e.text ++ X))) := by simpa [En.bytes, List.append_assoc] using hP
  refine CI Tryz.func55 Tryz.ntmps55 rfl fun F g0 hg0 => ?_
  replace hx := hx.mono hg0
  refine SR (La rfl (La rfl (nSR (Lm rfl (Ln rfl (Lf rfl Tryz.runUnderlying131 rfl Tryz.sizeOf123 rfl (Lp (p_load rfl Tryz.isAgg123 (.head _) rfl) (Lk (e_call rfl (ct_srFlush g0 x hx s0 pos hs) (K1 (K1 (K1 (K1 (K1 (K1 (K1 .nil)))))))) ?_))))))))
  rintro _ _ _ - ⟨_, rfl, ⟨rfl, s1, h1, rfl⟩⟩
  refine nSR (Lm rfl (Ln rfl (Lf rfl Tryz.runUnderlying131 rfl Tryz.sizeOf129 rfl (Lp (p_load rfl Tryz.isAgg129 (.tail _ (.tail _ (.tail _ (.tail _ (.tail _ (.tail _ (.tail _ (.head _)))))))) rfl) (Lk (e_invoke rfl (fun w => by kernel_rfl) rfl (sk_reset g0 (cb := cb) (hb := hb) (n := s1.bw.s) (show skC cb hb s1.bw.s s1.bw.S from hSk ▸ h1.bw.sk)) (K6 .nil)) ?_)))))
  rintro _ _ _ - ⟨_, rfl, ⟨S', hS', rfl⟩⟩
  refine nSR ?_
  have h2 := h1.setS (S' := S') (by rw [hSk]; exact hS')
  refine Lp (p_build (cells := ohC ⟨0, 0, 0, [], 0⟩) rfl (by rw [← oh_z]; kernel_rfl)) ?_
  refine Lk (e_box rfl rfl) ?_
  rintro _ _ _ - ⟨h, rfl, rfl⟩
  refine La rfl (nSR (Lm rfl (Lm rfl (Ln rfl (Lf rfl Tryz.runUnderlying131 rfl Tryz.sizeOf67 rfl (TL_k0 (e_store1 rfl rfl Tryz.sizeOf67 rfl (K8 .nil) rfl rfl rfl) ?_))))))
  rintro _ _ _ - ⟨rfl, rfl⟩
  refine nSR (La rfl (nSR (Lm rfl (Lm rfl (Ln rfl (Lf rfl Tryz.runUnderlying131 rfl Tryz.sizeOf123 rfl (Lp (p_load rfl Tryz.isAgg123 (.head _) rfl) (Lk (e_call rfl (ct_srSeek g0 x ⟨s1.rb, ⟨s1.bw.bl, s1.bw.n, s1.bw.s, S'⟩⟩ pos) (K3 (K3 (K3 (K3 (K3 (K3 (K2 .nil)))))))) ?_))))))))
  rintro _ _ _ - ⟨_, rfl, ⟨rfl, rfl⟩⟩
  refine Lm rfl (Lx rfl rfl (Lx rfl rfl (Ln rfl (Lf rfl Tryz.runUnderlying81 rfl Tryz.sizeOf2 rfl (TL_k0 (e_store1 rfl rfl Tryz.sizeOf2 rfl (K8 .nil) (oh_l81_1 _) rfl (oh_s81_1 _ _ rfl)) ?_)))))
  rintro _ _ _ - ⟨rfl, rfl⟩
  refine La rfl (nS (T_seq (SR (Lm rfl (Lp (p_neqNN rfl Tryz.underlying64) (nS (T_condF rfl (kS (SR ?_)))))))))
  refine Lm rfl (Lm rfl (Lm rfl (LE (e_call rfl (ct_readOTL g0 x hx ⟨s1.rb, ⟨s1.bw.bl, s1.bw.n, s1.bw.s, S'⟩⟩ pos h2 sn (crcV cb) hv (pV h) ver obj sk e.kind e.text.length N _ (en_k he) he.len hP1) (K8 (K1 (K1 (K1 (K1 (K1 (K1 (K1 .nil))))))))) ?_)))
  rintro _ gB _ hlgB ⟨_, rfl, ⟨s2, p2, t, l, er, rfl, hEr, h3, rfl⟩⟩
  replace hx := hx.mono hlgB
  refine Lm rfl (Lx rfl rfl (Lx rfl rfl (Lx rfl rfl (Ln rfl (Lf rfl Tryz.runUnderlying81 rfl Tryz.sizeOf77 rfl (TL_k0 (e_store1 rfl rfl Tryz.sizeOf77 rfl (K8 .nil) (oh_l81_0 _) rfl (oh_s81_0 _ _ rfl)) ?_))))))
  rintro _ _ _ - ⟨rfl, rfl⟩
  refine Ln rfl (Lf rfl Tryz.runUnderlying81 rfl Tryz.sizeOf2 rfl (TL_k0 (e_store1 rfl rfl Tryz.sizeOf2 rfl (K0 .nil) (oh_l81_2 _) rfl (oh_s81_2 _ _ rfl)) ?_))
  rintro _ _ _ - ⟨rfl, rfl⟩
  refine La rfl (nS (T_seq (SR (Lm rfl (Lp (p_neqE0 hEr.ifn rfl Tryz.underlying64) (nS (T_condNB rfl (fun hc10 => ?_) (fun hc10 => ?_))))))))
  ·
    try dsimp only at hc10
    have hee := hEr.bad (isB_f hc10)
    refine SR (Lm rfl (La rfl (La rfl (nr (E_seq_ret (E_ret2 [_, _, _, _, _, _, _, _, _] rfl hlgB rfl rfl (K0 (K0 (K0 (K0 (K0 (K0 (K0 (K0 (K0 (K0 .nil)))))))))) (fun g' hl => ?_)))))))
    exact ⟨s2, p2, h, _, _, _, rfl, .inr (hee.mono hl), h3, rfl⟩
  ·
    try dsimp only at hc10
    obtain ⟨rfl, rfl, hP2⟩ := hEr.ok (isB_t hc10)
    obtain rfl := isB_t hc10
    refine kS (T_seq (SR (Lm rfl (Ln rfl (Lf rfl Tryz.runUnderlying81 rfl Tryz.sizeOf77 rfl (Lp (p_load rfl Tryz.isAgg77 (.head _) (oh_g81_0 _ rfl)) (nS (T_block (SR ?_)))))))))
    refine Lp (p_eql rfl rfl) (La rfl (nS (T_condD rfl (fun hc11 => ?_) (fun hc11 => ?_))))
    ·
      try dsimp only at hc11
      have hk6 := en6 he hc11
      refine SR (Lm rfl (Ln rfl (Lf rfl Tryz.runUnderlying131 rfl Tryz.sizeOf123 rfl (Lp (p_load rfl Tryz.isAgg123 (.tail _ (.head _)) rfl) (Lp (p_mkIface rfl Tryz.runUnderlying123 (fun _ h => by cases h)) (LE (e_call rfl (ct_readVWI gB x hx s2 p2 h3 N e.mid (Pk.stored e.text ++ X) hk6 hP2) (K2 (K2 (K2 (K2 (K2 (K2 (K2 .nil)))))))) ?_))))))
      rintro _ gD _ hlgD ⟨_, rfl, ⟨s3, p3, lz, er2, rfl, hEr2, h4, rfl⟩⟩
      refine Lm rfl (Lx rfl rfl (Lx rfl rfl (La rfl (La rfl (nS (T_seq (SR (Lm rfl (Lp (p_neqE0 hEr2.ifn rfl Tryz.underlying64) ?_)))))))))
      refine nS (T_condNB rfl (fun hc13 => ?_) (fun hc13 => ?_))
      ·
        try dsimp only at hc13
        have hee := hEr2.bad (isB_f hc13)
        refine SR (Lm rfl (La rfl (La rfl (nr (E_seq_ret (E_block_ret (E_seq_ret (E_ret2 [_, _, _, _, _, _, _, _, _] rfl (hlgB.trans hlgD) rfl rfl (K7 (K7 (K0 (K0 (K0 (K0 (K0 (K0 (K0 (K0 .nil)))))))))) (fun g' hl => ?_)))))))))
        exact ⟨s3, p3, h, _, _, _, rfl, .inr (hee.mono hl), h4, rfl⟩
      ·
        try dsimp only at hc13
        have hP3 := hEr2.ok (isB_t hc13)
        refine kS (T_seq (SR (Lm rfl (Lp (p_leq rfl rfl) (Lm rfl (TL_splitD 74 rfl (fun hg14 => ?_) (fun hg14 => ?_)))))))
        ·
          try dsimp only at hg14
          refine Ls (Ls (Ls (Ls (Ls (Ls (Lp (p_pickT rfl rfl) (nS (T_condT rfl (T_seq ?_)))))))))
          refine T_regionD 3 Tryz.mixed rfl Part.all (Dp 0 rfl (p_loadF rfl Tryz.isAgg64 ((hx.mono hlgD).env.var 4 (by decide)).1) (Dp 1 rfl (p_assign rfl) (Dp 2 rfl (p_assign rfl) (DD (E_seq (T_ret (E_seq_ret (E_block_ret (E_seq_ret (E_ret2 [_, _, _, _, _, _, _, _, _] rfl (hlgB.trans hlgD) rfl rfl (K7 (K7 (K0 (K0 (K0 (K0 (K0 (K0 (K0 (K0 .nil)))))))))) (fun g' hl => ?_)))))))))))
          exact ⟨s3, p3, h, _, _, _, rfl, .inr ⟨_, rfl, ((hx.mono hlgD).env.var 4 (by decide)).2.mono hl⟩, h4, rfl⟩
        ·
          try dsimp only at hg14
          refine Lg (p_move rfl) (Lg (p_move rfl) (Lg (p_nilCheck rfl) (Lg (p_fieldAddr rfl Tryz.runUnderlying81 rfl Tryz.sizeOf2 rfl) (Lg (p_load rfl Tryz.isAgg2 (.tail _ (.tail _ (.tail _ (.tail _ (.tail _ (.tail _ (.tail _ (.head _)))))))) (oh_g81_1 _ rfl)) (Lg (p_gtr rfl rfl) (Lp (p_pickF rfl rfl) (nS (T_condD rfl (fun hc15 => ?_) (fun hc15 => ?_)))))))))
          ·
            try dsimp only at hc15
            skip
            refine T_seq (T_regionD 3 Tryz.mixed rfl Part.all (Dp 0 rfl (p_loadF rfl Tryz.isAgg64 ((hx.mono hlgD).env.var 4 (by decide)).1) (Dp 1 rfl (p_assign rfl) (Dp 2 rfl (p_assign rfl) (DD (E_seq (T_ret (E_seq_ret (E_block_ret ?_)))))))))
            refine E_seq_ret (E_ret2 [_, _, _, _, _, _, _, _, _] rfl (hlgB.trans hlgD) rfl rfl (K7 (K7 (K0 (K0 (K0 (K0 (K0 (K0 (K0 (K0 .nil)))))))))) (fun g' hl => ?_))
            exact ⟨s3, p3, h, _, _, _, rfl, .inr ⟨_, rfl, ((hx.mono hlgD).env.var 4 (by decide)).2.mono hl⟩, h4, rfl⟩
          ·
            try dsimp only at hc15
            skip
            refine kS (T_region (Lm rfl (Lm rfl (Ln rfl (Lf rfl Tryz.runUnderlying81 rfl Tryz.sizeOf2 rfl (Lp (p_load rfl Tryz.isAgg2 (.tail _ (.tail _ (.tail _ (.tail _ (.tail _ (.tail _ (.tail _ (.head _)))))))) (oh_g81_1 _ rfl)) (Lm rfl (Lp (p_sub rfl rfl (rfl)) (Ln rfl ?_)))))))))
            refine Lf rfl Tryz.runUnderlying81 rfl Tryz.sizeOf2 rfl (TL_k0 (e_store1 rfl rfl Tryz.sizeOf2 rfl (K7 .nil) (oh_l81_4 _) rfl (oh_s81_4 _ _ rfl)) ?_)
            rintro _ _ _ - ⟨rfl, rfl⟩
            refine TL_nil (E_block (E_seq (SR (Lm rfl (La rfl (La rfl (nr (E_ret2 [_, _, _, _, _, _, _, _, _] rfl (hlgB.trans hlgD) rfl rfl (K0 (K7 (K0 (K0 (K0 (K0 (K0 (K0 (K0 (K0 .nil)))))))))) (fun g' hl => ?_)))))))))
            refine ⟨s3, p3, h, _, _, _, rfl, ?_, h4, rfl⟩
            exact .inl ⟨rfl, rfl, rfl, rfl, hP3⟩
    ·
      try dsimp only at hc11
      have hk6 := hc11
      refine SR (Lp (p_eql rfl rfl) (La rfl (nS (T_condD rfl (fun hc17 => ?_) (fun hc17 => ?_)))))
      ·
        try dsimp only at hc17
        have hk7 := en7 he hc17
        refine SR (La rfl (nSR (Lm rfl (Lm rfl (Ln rfl (Lf rfl Tryz.runUnderlying131 rfl Tryz.sizeOf123 rfl (Lp (p_load rfl Tryz.isAgg123 (.tail _ (.head _)) rfl) (Lp (p_mkIface rfl Tryz.runUnderlying123 (fun _ h => by cases h)) (LE (e_call rfl (ct_readHash gB x hx s2 p2 h3 N e.mid (Pk.stored e.text ++ X) hk7 hP2) (K2 (K2 (K2 (K2 (K2 (K2 (K2 .nil)))))))) ?_)))))))))
        rintro _ gD _ hlgD ⟨_, rfl, ⟨s3, p3, ys, er2, rfl, hyl, hEr2, h4, rfl⟩⟩
        refine Lm rfl (Lx rfl rfl (Lx rfl rfl (Ln rfl (Lf rfl Tryz.runUnderlying81 rfl Tryz.sizeOf79 rfl ?_))))
        refine TL_k0 (e_storeN rfl rfl Tryz.sizeOf79 ((size_bvs _).trans hyl) (one_bvs _) (K7 .nil) (by rw [oh_size]; decide) (fun k _ _ h => by simp at h) (oh_srefx _ rfl ys hyl)) ?_
        rintro _ _ _ - ⟨rfl, rfl⟩
        refine La rfl (nSR (Lm rfl (Lp (p_neqE0 hEr2.ifn rfl Tryz.underlying64) (nS (T_condNB rfl (fun hc20 => ?_) (fun hc20 => ?_))))))
        ·
          try dsimp only at hc20
          have hee := hEr2.bad (isB_f hc20)
          refine SR (Lm rfl (La rfl (La rfl (nr (E_block_ret (E_seq_ret (E_ret2 [_, _, _, _, _, _, _, _, _] rfl (hlgB.trans hlgD) rfl rfl (K0 (K7 (K0 (K0 (K0 (K0 (K0 (K0 (K0 (K0 .nil)))))))))) (fun g' hl => ?_))))))))
          exact ⟨s3, p3, h, _, _, _, rfl, .inr (hee.mono hl), h4, rfl⟩
        ·
          try dsimp only at hc20
          have hP3 := hEr2.ok (isB_t hc20)
          refine T_skip (E_block (E_seq (SR (Lm rfl (La rfl (La rfl (nr (E_ret2 [_, _, _, _, _, _, _, _, _] rfl (hlgB.trans hlgD) rfl rfl (K0 (K7 (K0 (K0 (K0 (K0 (K0 (K0 (K0 (K0 .nil)))))))))) (fun g' hl => ?_)))))))))
          refine ⟨s3, p3, h, _, _, _, rfl, ?_, h4, rfl⟩
          exact .inl ⟨rfl, rfl, rfl, rfl, hP3⟩
      ·
        try dsimp only at hc17
        have hk7 := en0 he hk6 hc17
        refine T_skip (E_block (E_seq (SR (Lm rfl (La rfl (La rfl (nr (E_ret2 [_, _, _, _, _, _, _, _, _] rfl hlgB rfl rfl (K0 (K0 (K0 (K0 (K0 (K0 (K0 (K0 (K0 (K0 .nil)))))))))) (fun g' hl => ?_)))))))))
        refine ⟨s2, p2, h, _, _, _, rfl, ?_, h3, rfl⟩
        exact .inl ⟨rfl, rfl, rfl, rfl, by rw [hk7, List.nil_append] at hP2; exact hP2⟩
end Go.Proofs.YtolddodhmeaceaaGreatDoor
namespace Go.Proofs.YtolddodhmeaceaaGreatDoor
open Go.Hl Go.Pk
theorem ct_discard0 (g : GW) (sn : Nat) (sr : Nat) (crc hv : Value) (ver obj : Int) (sk : Bool) :
    Ct Tryz.prog g 59 [pV sn] [blk sn (.cells (scnC sr crc hv (.pointer none) ver obj sk) 131)] (fun v _ H' => v = .nilIface ∧ H' = [blk sn (.cells (scnC sr crc hv (.pointer none) ver obj sk) 131)]) := by
  refine CI Tryz.func59 Tryz.ntmps59 rfl fun F g0 hg0 => ?_
  refine SR (La rfl (nS (T_seq (SR (Lm rfl (Ln rfl (Lf rfl Tryz.runUnderlying131 rfl Tryz.sizeOf67 rfl (Lp (p_load rfl Tryz.isAgg67 (.head _) rfl) (Lp (p_eqlP0 rfl rfl Tryz.underlying67) ?_)))))))))
  refine nS (T_condT rfl (SR (La rfl (nr (E_seq_ret (E_ret1 [_] rfl (.refl _) rfl (K0 (K0 .nil)) (fun g' hl => ?_)))))))
  exact ⟨rfl, rfl⟩
theorem ct_doPending (g : GW) (sn : Nat) (sr : Nat) (crc hv : Value) (ver obj : Int) (hver : ver ≠ 0) (sk : Bool) :
    Ct Tryz.prog g 53 [pV sn] [blk sn (.cells (scnC sr crc hv (.pointer none) ver obj sk) 131)] (fun v _ H' => v = .nilIface ∧ H' = [blk sn (.cells (scnC sr crc hv (.pointer none) ver obj sk) 131)]) := by
  refine CI Tryz.func53 Tryz.ntmps53 rfl fun F g0 hg0 => ?_
  refine SR (La rfl (nS (T_seq (SR (Lm rfl (Ln rfl (Lf rfl Tryz.runUnderlying131 rfl Tryz.sizeOf29 rfl (Lp (p_load rfl Tryz.isAgg29 (.head _) rfl) (Lp (p_eql rfl rfl) ?_)))))))))
  refine nS (T_condD rfl (fun hc1 => ?_) (fun hc1 => ?_))
  ·
    exact absurd hc1 hver
  ·
    skip
    refine kS (SR (Lm rfl (Lk (e_call rfl (ct_discard0 g0 sn sr crc hv ver obj sk) (K0 .nil)) ?_)))
    rintro _ _ _ - ⟨_, rfl, ⟨rfl, rfl⟩⟩
    refine La rfl (nr (E_ret1 [_] rfl (.refl _) rfl (K0 (K0 .nil)) (fun g' hl => ?_)))
    exact ⟨rfl, rfl⟩
theorem ct_NextHdr (g : GW) (x : Fx) (hx : FxOk g x) (s0 : St) (pos : Nat) (hs : StOk x s0 pos) (sn cb hb : Nat) (hSk : x.Sk = skC cb hb) (hv : Value) (ver obj : Int) (hver : ver ≠ 0) (sk : Bool) (N : Nat) (X : List UInt8) (e : En) (he : e.Ok) (hP : Pre x.C N pos (e.bytes ++ X)) :
    Ct Tryz.prog g 26 [pV sn] (scA x s0 pos sn (crcV cb) hv (.pointer none) ver obj sk)
      (fun v g' H' => ∃ (s' : St) (p' ob : Nat) (oh : OH) (vp er : Value), v = .tuple #[vp, er] ∧ Er g' er (HdrR x N X e p' ob oh vp) ∧ StOk x s' p' ∧ H' = ohA ob oh :: scA x s' p' sn (crcV cb) hv (pV ob) ver obj sk) := by
  refine CI Tryz.func26 Tryz.ntmps26 rfl fun F g0 hg0 => ?_
  replace hx := hx.mono hg0
  refine SR (La rfl (La rfl (nS (T_seq (SR (Lm rfl (Lk (e_call rfl (ct_doPending g0 sn x.sr (crcV cb) hv ver obj hver sk) (K0 .nil)) ?_)))))))
  rintro _ _ _ - ⟨_, rfl, ⟨rfl, rfl⟩⟩
  refine La rfl (nSR (Lm rfl (Lp (p_neqNN rfl Tryz.underlying64) (nS (T_condF rfl (kS (SR (Lm rfl (Ln rfl ?_)))))))))
  refine Lf rfl Tryz.runUnderlying131 rfl Tryz.sizeOf123 rfl (Lp (p_load rfl Tryz.isAgg123 (.head _) rfl) (Lk (e_call rfl (ct_srSeek g0 x s0 pos) (K1 (K1 (K1 (K1 (K1 (K1 (K1 .nil)))))))) ?_))
  rintro _ _ _ - ⟨_, rfl, ⟨rfl, rfl⟩⟩
  refine Lm rfl (Lx rfl rfl (Lx rfl rfl (La rfl (La rfl (nS (T_seq (SR (Lm rfl (Lp (p_neqNN rfl Tryz.underlying64) ?_)))))))))
  refine nS (T_condF rfl (kS (SR (Lm rfl (LE (e_call rfl (ct_nextHdr g0 x hx s0 pos hs sn cb hb hSk hv (.pointer none) ver obj sk N X e he hP) (K7 (K0 (K0 (K0 (K0 (K0 (K0 (K0 .nil))))))))) ?_)))))
  rintro _ gB _ hlgB ⟨_, rfl, ⟨s2, p2, ob, ⟨o1, o2, o3, o4, o5⟩, vp, er, rfl, hEr, h3, rfl⟩⟩
  refine Lm rfl (Lx rfl rfl (Lx rfl rfl (La rfl (La rfl (nS (T_seq (SR (Lm rfl (Lp (p_neqE0 hEr.ifn rfl Tryz.underlying64) ?_)))))))))
  refine nS (T_condNB rfl (fun hc4 => ?_) (fun hc4 => ?_))
  ·
    try dsimp only at hc4
    have hee := hEr.bad (isB_f hc4)
    refine SR (Lm rfl (La rfl (La rfl (nr (E_seq_ret (E_ret2 [_, _, _, _, _, _, _, _, _] rfl hlgB rfl rfl (K0 (K0 (K0 (K0 (K0 (K0 (K0 (K0 (K0 (K0 .nil)))))))))) (fun g' hl => ?_)))))))
    exact ⟨s2, p2, ob, _, _, _, rfl, .inr (hee.mono hl), h3, rfl⟩
  ·
    try dsimp only at hc4
    obtain ⟨rfl, e1, e2, hP2⟩ := hEr.ok (isB_t hc4)
    refine kS (SR (Lm rfl (Lm rfl (Ln rfl (Lf rfl Tryz.runUnderlying81 rfl Tryz.sizeOf2 rfl (TL_k0 (e_store1 rfl rfl Tryz.sizeOf2 rfl (K0 .nil) (oh_l81_1 _) rfl (oh_s81_1 _ _ rfl)) ?_))))))
    rintro _ _ _ - ⟨rfl, rfl⟩
    refine nSR (Lm rfl (La rfl (La rfl (nr (E_ret2 [_, _, _, _, _, _, _, _, _] rfl hlgB rfl rfl (K0 (K0 (K0 (K0 (K0 (K0 (K0 (K0 (K0 (K0 .nil)))))))))) (fun g' hl => ?_))))))
    refine ⟨s2, p2, ob, _, _, _, rfl, ?_, h3, rfl⟩
    exact .inl ⟨rfl, rfl, e1, e2, hP2⟩
theorem ct_NextObject (g : GW) (x : Fx) (hx : FxOk g x) (s0 : St) (pos : Nat) (hs : StOk x s0 pos) (sn cb hb : Nat) (hSk : x.Sk = skC cb hb) (hv : Value) (ver obj : Int) (sk : Bool) (N : Nat) (t X : List UInt8) (hP : Pre x.C N pos (Pk.stored t ++ X)) (ob : Nat) (oh : OH) (hoh : oh.len = t.length)
    (wv : Value) (n0 : Nat) (Sk : Nat → Atom → Prop) (hW : Wr Tryz.prog g wv Sk) (S : Atom) (hS : Sk n0 S) (hM2 : n0 + t.length ≤ 1000000000) :
    Ct Tryz.prog g 27 [pV sn, wv] (S :: ohA ob oh :: scA x s0 pos sn (crcV cb) hv (pV ob) ver obj sk)
      (fun v g' H' => ∃ (s' : St) (p' : Nat) (S' : Atom) (w cs : Int) (er : Value), v = .tuple #[.int .i64 w, .int .u32 cs, er] ∧ Er g' er (w = t.length ∧ Sk (n0 + t.length) S' ∧ Pre x.C N p' X) ∧ StOk x s' p' ∧ H' = S' :: ohA ob oh :: scA x s' p' sn (crcV cb) hv (.pointer none) ver obj sk) := by
  obtain ⟨o1, o2, o3, o4, o5⟩ := oh
  dsimp only at hoh
  subst hoh
  refine CI Tryz.func27 Tryz.ntmps27 rfl fun F g0 hg0 => ?_
  replace hx := hx.mono hg0
  replace hW := hW.mono hg0
  refine SR (La rfl (La rfl (La rfl (nSR (La rfl (nS (T_seq (SR (Lm rfl ?_)))))))))
  refine Ln rfl (Lf rfl Tryz.runUnderlying131 rfl Tryz.sizeOf67 rfl (Lp (p_load rfl Tryz.isAgg67 (.tail _ (.tail _ (.head _))) rfl) (Lp (p_neqPN rfl rfl Tryz.underlying67) (nS (T_condT rfl (T_region (Lm rfl (Ln rfl (Lf rfl Tryz.runUnderlying131 rfl Tryz.sizeOf67 rfl ?_)))))))))
  refine Lp (p_load rfl Tryz.isAgg67 (.tail _ (.tail _ (.head _))) rfl) (Ln rfl (Lf rfl Tryz.runUnderlying81 rfl Tryz.sizeOf2 rfl (Lp (p_load rfl Tryz.isAgg2 (.tail _ (.head _)) (oh_g81_2 _ rfl)) (La rfl (nSR (Lm rfl (Ln rfl (Lf rfl Tryz.runUnderlying131 rfl Tryz.sizeOf67 rfl (TL_k0 (e_store1 rfl rfl Tryz.sizeOf67 rfl (K2 .nil) rfl rfl rfl) ?_)))))))))
  rintro _ _ _ - ⟨rfl, rfl⟩
  refine nSR (Lm rfl (Lm rfl (Lm rfl (LE (e_call rfl (ct_copyObject g0 x hx s0 pos hs sn (crcV cb) hv (.pointer none) ver obj sk N t X hP wv n0 Sk hW S hS hM2) (K1 (K0 (K1 (K1 (K1 (K1 (K1 (K1 (K1 .nil)))))))))) ?_))))
  rintro _ gB _ hlgB ⟨_, rfl, ⟨s1, p1, S1, w, er, rfl, hEr, h1, rfl⟩⟩
  replace hx := hx.mono hlgB
  refine Lm rfl (Lx rfl rfl (Lx rfl rfl (La rfl (La rfl (nSR (Lm rfl (Ln rfl (Lf rfl Tryz.runUnderlying131 rfl Tryz.sizeOf123 rfl (Lp (p_load rfl Tryz.isAgg123 (.tail _ (.head _)) rfl) ?_)))))))))
  refine Lk (e_call rfl (ct_srFlush gB x hx s1 p1 h1) (K2 (K2 (K2 (K2 (K2 (K2 (K2 .nil)))))))) ?_
  rintro _ _ _ - ⟨_, rfl, ⟨rfl, s2, h2, rfl⟩⟩
  refine nSR (Lm rfl (Ln rfl (Lf rfl Tryz.runUnderlying131 rfl Tryz.sizeOf129 rfl (Lp (p_load rfl Tryz.isAgg129 (.tail _ (.tail _ (.tail _ (.tail _ (.tail _ (.tail _ (.tail _ (.tail _ (.head _))))))))) rfl) (Lk (e_invoke rfl (fun w => by kernel_rfl) rfl (sk_sum gB (cb := cb) (hb := hb) (n := s2.bw.s) (show skC cb hb s2.bw.s s2.bw.S from hSk ▸ h2.bw.sk)) (K6 .nil)) ?_)))))
  rintro _ _ _ - ⟨_, rfl, ⟨z, rfl, rfl⟩⟩
  refine La rfl (nSR (Lm rfl (Ln rfl (Lf rfl Tryz.runUnderlying131 rfl Tryz.sizeOf129 rfl (Lp (p_load rfl Tryz.isAgg129 (.tail _ (.tail _ (.tail _ (.tail _ (.tail _ (.tail _ (.tail _ (.tail _ (.head _))))))))) rfl) (Lk (e_invoke rfl (fun w => by kernel_rfl) rfl (sk_reset gB (cb := cb) (hb := hb) (n := s2.bw.s) (show skC cb hb s2.bw.s s2.bw.S from hSk ▸ h2.bw.sk)) (K0 .nil)) ?_))))))
  rintro _ _ _ - ⟨_, rfl, ⟨S', hS', rfl⟩⟩
  refine nr (E_ret3 [_, _, _, _, _, _, _, _, _, _] rfl hlgB rfl rfl rfl (K7 (K8 (K7 (K1 (K1 (K1 (K1 (K1 (K1 (K0 (K0 .nil))))))))))) (fun g' hl => ?_))
  exact ⟨⟨s2.rb, ⟨s2.bw.bl, s2.bw.n, s2.bw.s, S'⟩⟩, p1, S1, _, _, er, rfl, hEr.mono hl (fun h => ⟨by rw [h.1], h.2⟩), h2.setS (S' := S') (by rw [hSk]; exact hS'), rfl⟩
end Go.Proofs.YtolddodhmeaceaaGreatDoor
