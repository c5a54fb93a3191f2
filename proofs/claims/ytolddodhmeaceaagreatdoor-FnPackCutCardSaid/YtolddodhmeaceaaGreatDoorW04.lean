/- Part 4 of the walk of laws.FnPackCut. -/
import Derived.Test.YtolddodhmeaceaaGreatDoorW03
import Derived.Test.YtolddodhmeaceaaGreatDoorW02
set_option linter.unusedVariables false
set_option linter.unusedSimpArgs false
set_option maxRecDepth 100000
namespace Go.Hl
variable {P : Program}
theorem Ct.many {g f args H} {R : Value → GW → List Atom → Prop} (h : Ct P g f args H R) : Ct P g f args [Hl.many H] (fun v g' H'' => ∃ H', H'' = [Hl.many H'] ∧ R v g' H') := by
  refine ⟨h.1, fun F g' hl hs => ?_⟩
  have h1 : Sat ([F] ++ [Hl.many H]) g' := hs.perm (List.Perm.swap _ _ _)
  have h2 : Sat (H ++ [F]) g' := h1.unfold.perm List.perm_append_comm
  refine (h.2 F g' hl h2).mono fun e w' ⟨v, I, H', he, hl', hR, hs'⟩ => ?_
  have h3 : Sat ([F] ++ H') ⟨w', I⟩ := hs'.perm List.perm_append_comm
  exact ⟨v, I, [Hl.many H'], he, hl', ⟨H', rfl, hR⟩, h3.fold.perm (List.Perm.swap _ _ _)⟩
theorem Ct.frame {g f args H} (K : List Atom) {R : Value → GW → List Atom → Prop} (h : Ct P g f args H R) : Ct P g f args (H ++ K) (fun v g' H' => ∃ H0, H' = H0 ++ K ∧ R v g' H0) := by
  refine ⟨h.1, fun F g' hl hs => ?_⟩
  have h2 : Sat (H ++ [Hl.many (K ++ [F])]) g' := Sat.fold (by rw [← List.append_assoc]; exact hs)
  refine (h.2 _ g' hl h2).mono fun e w' ⟨v, I, H', he, hl', hR, hs'⟩ => ?_
  exact ⟨v, I, H' ++ K, he, hl', ⟨H', rfl, hR⟩, by rw [List.append_assoc]; exact hs'.unfold⟩
theorem Ct.perm {g f args H H2} {R : Value → GW → List Atom → Prop} (h : Ct P g f args H R) (p : H2.Perm H) : Ct P g f args H2 R :=
  ⟨h.1, fun F g' hl hs => h.2 F g' hl (hs.perm (p.append_right _))⟩
/-- Method Write of a value of type t takes bytes and says that it took them all; Sk n S: the state that S tells, where n bytes were taken. -/
def Wr (P : Program) (g : GW) (wv : Value) (Sk : Nat → Atom → Prop) : Prop :=
  ∃ t rv f rv', wv = .iface t rv ∧ (∀ w, (method (P.types.size + Made.depth) t rv "Write").run P w = .ok (f, rv') w) ∧
    ∀ g1, Le g g1 → ∀ n S pv p, Sk n S → Bytes g1 pv p → n + p.length ≤ 1000000000 →
      Ct P g1 f [rv', pv] [S] (fun r _ H' => r = .tuple #[.int .i64 p.length, .nilIface] ∧ ∃ S', H' = [S'] ∧ Sk (n + p.length) S')
theorem Wr.mono {g g' : GW} {wv : Value} {Sk : Nat → Atom → Prop} (h : Wr P g wv Sk) (hl : Le g g') : Wr P g' wv Sk := by
  obtain ⟨t, rv, f, rv', e, hm, hc⟩ := h
  exact ⟨t, rv, f, rv', e, hm, fun g1 hl1 => hc g1 (hl.trans hl1)⟩
/-- .. of what is owned. -/
theorem Wr.bf {g : GW} {wv : Value} {Sk : Nat → Atom → Prop} (h : Wr P g wv Sk) : ∃ t rv f rv', wv = .iface t rv ∧ (∀ w, (method (P.types.size + Made.depth) t rv "Write").run P w = .ok (f, rv') w) ∧
    ∀ g1, Le g g1 → ∀ n S v m A xs a b, Sk n S → Bf v m A → xs.length = m → a ≤ b → b ≤ m → n + (b - a) ≤ 1000000000 →
      Ct P g1 f [rv', sl v a b 1] [A xs, S] (fun r _ H' => r = .tuple #[.int .i64 ((b - a : Nat) : Int), .nilIface] ∧ ∃ S', H' = [A xs, S'] ∧ Sk (n + (b - a)) S') := by
  obtain ⟨t, rv, f, rv', e, hm, hc⟩ := h
  refine ⟨t, rv, f, rv', e, hm, fun g1 hl1 n S v m A xs a b hS hB hx hab hb hn => ?_⟩
  have hlen : ((xs.drop a).take (b - a)).length = b - a := by rw [List.length_take, List.length_drop]; omega
  have hc1 := hc g1 hl1 n S .nilIface [] hS
  have hex : ∃ fn, P.funcs[f]? = some fn ∧ fn.body.isNone = false ∧ (fn.name == "runtime.NumGoroutine") = false :=
    (hc g1 hl1 n S (.slice none 0 0) [] hS (Bytes.nil _ _) (by simp; omega)).1
  have h1 := Ct.thaw (g := g1) (A := A xs) (R := fun r H' => r = .tuple #[.int .i64 ((b - a : Nat) : Int), .nilIface] ∧ ∃ S', H' = [S'] ∧ Sk (n + (b - a)) S') hex
    (fun g2 hl2 hst => (hc g2 (hl1.trans hl2) n S (sl v a b 1) ((xs.drop a).take (b - a)) hS (Still.sub hB hx hst hab hb) (by rw [hlen]; exact hn)).mono fun r g' H' _ hR => by rw [hlen] at hR; exact hR)
  exact h1.mono fun r g' H' _ hR => by
    obtain ⟨H0, rfl, hr, S', rfl, hS'⟩ := hR
    exact ⟨hr, S', rfl, hS'⟩
/-- The same of one of several writers, of which S tells all; c says how much each one took. -/
def WrAt (P : Program) (g : GW) (k : Nat) (wv : Value) (Q : (Nat → Nat) → Atom → Prop) : Prop :=
  ∃ t rv f rv', wv = .iface t rv ∧ (∀ w, (method (P.types.size + Made.depth) t rv "Write").run P w = .ok (f, rv') w) ∧
    ∀ g1, Le g g1 → ∀ c S pv p, Q c S → Bytes g1 pv p → c k + p.length ≤ 1000000000 →
      Ct P g1 f [rv', pv] [S] (fun r _ H' => r = .tuple #[.int .i64 p.length, .nilIface] ∧ ∃ S', H' = [S'] ∧ Q (fun j => if j = k then c k + p.length else c j) S')
theorem WrAt.mono {g g' : GW} {k : Nat} {wv : Value} {Q : (Nat → Nat) → Atom → Prop} (h : WrAt P g k wv Q) (hl : Le g g') : WrAt P g' k wv Q := by
  obtain ⟨t, rv, f, rv', e, hm, hc⟩ := h
  exact ⟨t, rv, f, rv', e, hm, fun g1 hl1 => hc g1 (hl.trans hl1)⟩
def Q1 (Sk : Nat → Atom → Prop) (c : Nat → Nat) (S : Atom) : Prop := Sk (c 0) S
def Q2 (Sk Sk' : Nat → Atom → Prop) (c : Nat → Nat) (S : Atom) : Prop := ∃ A B, S = many [A, B] ∧ Sk (c 0) A ∧ Sk' (c 1) B
theorem Wr.q1 {g : GW} {wv : Value} {Sk : Nat → Atom → Prop} (h : Wr P g wv Sk) : WrAt P g 0 wv (Q1 Sk) := by
  obtain ⟨t, rv, f, rv', e, hm, hc⟩ := h
  exact ⟨t, rv, f, rv', e, hm, fun g1 hl1 c S pv p hQ hp hn => (hc g1 hl1 (c 0) S pv p hQ hp hn).mono fun v g' H' _ hR => hR⟩
theorem Wr.q2a {g : GW} {wv : Value} {Sk Sk' : Nat → Atom → Prop} (h : Wr P g wv Sk) : WrAt P g 0 wv (Q2 Sk Sk') := by
  obtain ⟨t, rv, f, rv', e, hm, hc⟩ := h
  refine ⟨t, rv, f, rv', e, hm, fun g1 hl1 c S pv p hQ hp hn => ?_⟩
  obtain ⟨A, B, rfl, hA, hB⟩ := hQ
  refine (((hc g1 hl1 (c 0) A pv p hA hp hn).frame [B]).many).mono fun v g' H' _ hR => ?_
  obtain ⟨H0, rfl, H1, rfl, hv, S', rfl, hS⟩ := hR
  exact ⟨hv, _, rfl, S', B, rfl, hS, hB⟩
theorem Wr.q2b {g : GW} {wv : Value} {Sk Sk' : Nat → Atom → Prop} (h : Wr P g wv Sk') : WrAt P g 1 wv (Q2 Sk Sk') := by
  obtain ⟨t, rv, f, rv', e, hm, hc⟩ := h
  refine ⟨t, rv, f, rv', e, hm, fun g1 hl1 c S pv p hQ hp hn => ?_⟩
  obtain ⟨A, B, rfl, hA, hB⟩ := hQ
  have h1 : Ct P g1 f [rv', pv] [A, B] (fun v g' H' => ∃ H0, H' = H0 ++ [A] ∧ (v = .tuple #[.int .i64 p.length, .nilIface] ∧ ∃ S', H0 = [S'] ∧ Sk' (c 1 + p.length) S')) :=
    ((hc g1 hl1 (c 1) B pv p hB hp hn).frame [A]).perm (List.Perm.swap _ _ _)
  have h2 : Ct P g1 f [rv', pv] [A, B] (fun v g' H' => ∃ S', H' = [A, S'] ∧ v = .tuple #[.int .i64 p.length, .nilIface] ∧ Sk' (c 1 + p.length) S') :=
    h1.conv fun v g' H' F _ hR hs => by
      obtain ⟨H0, rfl, hv, S', rfl, hS⟩ := hR
      exact ⟨[A, S'], ⟨S', rfl, hv, hS⟩, hs.perm (List.Perm.swap _ _ _)⟩
  refine h2.many.mono fun v g' H' _ hR => ?_
  obtain ⟨H1, rfl, S', rfl, hv, hS⟩ := hR
  exact ⟨hv, _, rfl, A, S', rfl, hA, hS⟩
section
variable {dd : Option Nat} {ty : TypeId} {ps : String} {af : Array Edge} {gd : Option (Nat × Bool)} {g : GW} {L : List (Nat × Value)} {H Hr : List Atom}
/-- copy into a part of a window. -/
theorem e_copyBs {x y at_ dT e m k c d} {ys xs : List UInt8} {v u : Value} {A : List UInt8 → Atom} (ex : ev L x = some (sl v c d 1)) (ey : ev L y = some u) (ha : at_[0]? = some dT) (hd : ∀ w, (underlying dT).run P w = .ok (.slice e) w) (hz : ∀ w, (sizeOf e).run P w = .ok 1 w)
    (src : Src P g H u 1 m (bvs ys)) (hB : Bf v k A) (hx : xs.length = k) (hcd : c ≤ d) (hdk : d ≤ k) (p : Part H [A xs] Hr) :
    Op1 P ⟨dd, .call ⟨.builtin .copy, #[x, y], at_⟩, ty, ps, af, gd⟩ g L H (fun r g' H' => r = .int .i64 (min m (d - c) : Nat) ∧ H' = A (xs.take c ++ (ys.take (min m (d - c)) ++ ((xs.drop c).take (d - c)).drop (min m (d - c))) ++ xs.drop d) :: Hr) :=
  e_copyB (A := fun ys => A (xs.take c ++ ys ++ xs.drop d)) (xs := (xs.drop c).take (d - c)) ex ey ha hd hz src (hB.sub hx hcd hdk) (by rw [List.length_take, List.length_drop]; omega) (by rw [parts xs c d hcd]; exact p)
theorem copy_len {xs ys : List UInt8} {m k c d : Nat} (hx : xs.length = k) (hcd : c ≤ d) (hd : d ≤ k) (hy : min m (d - c) ≤ ys.length) : (xs.take c ++ (ys.take (min m (d - c)) ++ ((xs.drop c).take (d - c)).drop (min m (d - c))) ++ xs.drop d).length = k := by
  simp only [List.length_append, List.length_take, List.length_drop]; omega
end
end Go.Hl
namespace Go.Proofs.YtolddodhmeaceaaGreatDoor
open Go.Hl Go.Pk
theorem ct_slicingUpdate (g : GW) (b : Nat) (cs : Array Value) (e : TypeId) (s : Int) (u : Value) (t : List UInt8) (hU : U32s cs) (hu : Bytes g u t) (ht : t.length ≤ 1000000000) :
    Ct Tryz.prog g 267 [.int .u32 s, .pointer (some ⟨b, 0, none⟩), u] [blk b (.cells cs e)] (fun r g' H' => ∃ z, r = .int .u32 z ∧ H' = [blk b (.cells cs e)]) := by
  refine CI Tryz.func267 Tryz.ntmps267 rfl fun F g0 hg0 => ?_
  replace hu := hu.mono hg0
  refine SR (La rfl (nS (T_cut (ι := Int × Value × List UInt8) (fun x g' => Bytes g' x.2.1 x.2.2 ∧ x.2.2.length ≤ 1000000000) (fun x => [(0, .int .u32 x.1), (1, .pointer (some ⟨b, 0, none⟩)), (2, x.2.1)]) (fun _ => [blk b (.cells cs e), F]) ?_ ?_)))
  ·
    refine SR (Lm rfl (Lp (p_len (hu.1) rfl rfl Tryz.runUnderlying25) (Lp (p_geq rfl rfl) (nS (T_condD rfl (fun hc1 => ?_) (fun hc1 => ?_))))))
    ·
      refine SR (Lm rfl (Lp (p_notU rfl) (La rfl (nS (T_seq (T_block (T_loop (ι := Int × Value × List UInt8) (fun x g' => Bytes g' x.2.1 x.2.2 ∧ x.2.2.length ≤ 1000000000) (fun x => [(0, .int .u32 x.1), (1, .pointer (some ⟨b, 0, none⟩)), (2, x.2.1)]) (fun _ => [blk b (.cells cs e), F]) (fun x => x.2.2.length) ((_, u, t)) (fun g' hl => ⟨hu.mono hl, ht⟩) (by repeat (first | exact SubL.nil | refine SubL.cons rfl ?_)) (K0 (K0 .nil)) ?_)))))))
      rintro ⟨s, u, t⟩ gA hlgA ⟨hu, ht⟩
      try dsimp only
      try dsimp only at hu ht
      refine T_seq (SR (Lm rfl (Lp (p_len (hu.1) rfl rfl Tryz.runUnderlying25) (Lp (p_gtr rfl rfl) (nS (T_condD rfl (fun hc3 => ?_) (fun hc3 => ?_)))))))
      ·
        replace hc3 : 8 < t.length := by omega
        refine kS (T_block (SR (Lm rfl (Lm rfl (Lk (e_call rfl (ct_leUint32 gA u t hu (by omega)) .nil) ?_)))))
        rintro _ _ _ - ⟨_, rfl, ⟨z, rfl, rfl⟩⟩
        obtain ⟨n, hn, hxe⟩ := xorU32 s z
        refine Lp (p_xor rfl rfl hxe) (La rfl (nS (T_seq (T_regionD 70 Tryz.mixed rfl Part.all ?_))))
        obtain ⟨c4, h4⟩ := get_some (l := t) (k := 4) (by omega)
        obtain ⟨c5, h5⟩ := get_some (l := t) (k := 5) (by omega)
        obtain ⟨c6, h6⟩ := get_some (l := t) (k := 6) (by omega)
        obtain ⟨c7, h7⟩ := get_some (l := t) (k := 7) (by omega)
        have b4 := u8lt c4
        have b5 := u8lt c5
        have b6 := u8lt c6
        have b7 := u8lt c7
        obtain ⟨z0, hz0⟩ := hU.2 (0 * 256 + c7.toNat) (by omega)
        obtain ⟨z1, hz1⟩ := hU.2 (1 * 256 + c6.toNat) (by omega)
        obtain ⟨z2, hz2⟩ := hU.2 (2 * 256 + c5.toNat) (by omega)
        obtain ⟨z3, hz3⟩ := hU.2 (3 * 256 + c4.toNat) (by omega)
        obtain ⟨z4, hz4⟩ := hU.2 (4 * 256 + n / 16777216) (by omega)
        obtain ⟨z5, hz5⟩ := hU.2 (5 * 256 + n / 65536 % 256) (by omega)
        obtain ⟨z6, hz6⟩ := hU.2 (6 * 256 + n / 256 % 256) (by omega)
        obtain ⟨z7, hz7⟩ := hU.2 (7 * 256 + n % 256) (by omega)
        refine Dp 0 rfl (p_move rfl) (Dp 1 rfl (p_move rfl) (Dp 2 rfl (p_ix (hu.1) (j := 7) rfl rfl Tryz.runUnderlying25 Tryz.sizeOf5 rfl (by omega) rfl) (Dp 3 rfl (p_ldB hu rfl Tryz.isAgg5 h7) (Dp 4 rfl (p_nilCheck rfl) (Dp 5 rfl (p_indexAddrA (j := 0) rfl rfl Tryz.runUnderlying449 Tryz.sizeOf445 rfl (by omega) rfl) (Dp 6 rfl (p_indexAddrA (j := c7.toNat) rfl rfl Tryz.runUnderlying445 Tryz.sizeOf29 (by omega) (by omega) rfl) (Dp 7 rfl (p_load rfl Tryz.isAgg29 (.head _) (U32s.ld hz0 (by omega))) (Dp 8 rfl (p_move rfl) (Dp 9 rfl (p_move rfl) ?_)))))))))
        refine Dp 10 rfl (p_ix (hu.1) (j := 6) rfl rfl Tryz.runUnderlying25 Tryz.sizeOf5 rfl (by omega) rfl) (Dp 11 rfl (p_ldB hu rfl Tryz.isAgg5 h6) (Dp 12 rfl (p_nilCheck rfl) (Dp 13 rfl (p_indexAddrA (j := 1) rfl rfl Tryz.runUnderlying449 Tryz.sizeOf445 rfl (by omega) rfl) (Dp 14 rfl (p_indexAddrA (j := c6.toNat) rfl rfl Tryz.runUnderlying445 Tryz.sizeOf29 (by omega) (by omega) rfl) (Dp 15 rfl (p_load rfl Tryz.isAgg29 (.head _) (U32s.ld hz1 (by omega))) (Dp 16 rfl (p_xor rfl rfl rfl) (Dp 17 rfl (p_move rfl) (Dp 18 rfl (p_move rfl) (Dp 19 rfl (p_ix (hu.1) (j := 5) rfl rfl Tryz.runUnderlying25 Tryz.sizeOf5 rfl (by omega) rfl) ?_)))))))))
        refine Dp 20 rfl (p_ldB hu rfl Tryz.isAgg5 h5) (Dp 21 rfl (p_nilCheck rfl) (Dp 22 rfl (p_indexAddrA (j := 2) rfl rfl Tryz.runUnderlying449 Tryz.sizeOf445 rfl (by omega) rfl) (Dp 23 rfl (p_indexAddrA (j := c5.toNat) rfl rfl Tryz.runUnderlying445 Tryz.sizeOf29 (by omega) (by omega) rfl) (Dp 24 rfl (p_load rfl Tryz.isAgg29 (.head _) (U32s.ld hz2 (by omega))) (Dp 25 rfl (p_xor rfl rfl rfl) (Dp 26 rfl (p_move rfl) (Dp 27 rfl (p_move rfl) (Dp 28 rfl (p_ix (hu.1) (j := 4) rfl rfl Tryz.runUnderlying25 Tryz.sizeOf5 rfl (by omega) rfl) (Dp 29 rfl (p_ldB hu rfl Tryz.isAgg5 h4) ?_)))))))))
        refine Dp 30 rfl (p_nilCheck rfl) (Dp 31 rfl (p_indexAddrA (j := 3) rfl rfl Tryz.runUnderlying449 Tryz.sizeOf445 rfl (by omega) rfl) (Dp 32 rfl (p_indexAddrA (j := c4.toNat) rfl rfl Tryz.runUnderlying445 Tryz.sizeOf29 (by omega) (by omega) rfl) (Dp 33 rfl (p_load rfl Tryz.isAgg29 (.head _) (U32s.ld hz3 (by omega))) (Dp 34 rfl (p_xor rfl rfl rfl) (Dp 35 rfl (p_move rfl) (Dp 36 rfl (p_move rfl) (Dp 37 rfl (p_shr rfl rfl (by decide) rfl (show (n : Int).fdiv (2 ^ 24) = ((n / 16777216 : Nat) : Int) from fdivN n 16777216)) (Dp 38 rfl (p_nilCheck rfl) (Dp 39 rfl (p_indexAddrA (j := 4) rfl rfl Tryz.runUnderlying449 Tryz.sizeOf445 rfl (by omega) rfl) (Dp 40 rfl (p_indexAddrA (j := n / 16777216) rfl rfl Tryz.runUnderlying445 Tryz.sizeOf29 (by omega) (by omega) rfl) ?_))))))))))
        refine Dp 41 rfl (p_load rfl Tryz.isAgg29 (.head _) (U32s.ld hz4 (by omega))) (Dp 42 rfl (p_xor rfl rfl rfl) (Dp 43 rfl (p_move rfl) (Dp 44 rfl (p_move rfl) (Dp 45 rfl (p_shr rfl rfl (by decide) rfl (show (n : Int).fdiv (2 ^ 16) = ((n / 65536 : Nat) : Int) from fdivN n 65536)) (Dp 46 rfl (p_and rfl rfl (and255n (n / 65536) (by omega))) (Dp 47 rfl (p_nilCheck rfl) (Dp 48 rfl (p_indexAddrA (j := 5) rfl rfl Tryz.runUnderlying449 Tryz.sizeOf445 rfl (by omega) rfl) (Dp 49 rfl (p_indexAddrA (j := n / 65536 % 256) rfl rfl Tryz.runUnderlying445 Tryz.sizeOf29 (by omega) (by omega) rfl) (Dp 50 rfl (p_load rfl Tryz.isAgg29 (.head _) (U32s.ld hz5 (by omega))) ?_)))))))))
        refine Dp 51 rfl (p_xor rfl rfl rfl) (Dp 52 rfl (p_move rfl) (Dp 53 rfl (p_move rfl) (Dp 54 rfl (p_shr rfl rfl (by decide) rfl (show (n : Int).fdiv (2 ^ 8) = ((n / 256 : Nat) : Int) from fdivN n 256)) (Dp 55 rfl (p_and rfl rfl (and255n (n / 256) (by omega))) (Dp 56 rfl (p_nilCheck rfl) (Dp 57 rfl (p_indexAddrA (j := 6) rfl rfl Tryz.runUnderlying449 Tryz.sizeOf445 rfl (by omega) rfl) (Dp 58 rfl (p_indexAddrA (j := n / 256 % 256) rfl rfl Tryz.runUnderlying445 Tryz.sizeOf29 (by omega) (by omega) rfl) (Dp 59 rfl (p_load rfl Tryz.isAgg29 (.head _) (U32s.ld hz6 (by omega))) (Dp 60 rfl (p_xor rfl rfl rfl) ?_)))))))))
        refine Dp 61 rfl (p_move rfl) (Dp 62 rfl (p_move rfl) (Dp 63 rfl (p_and rfl rfl (and255n n (by omega))) (Dp 64 rfl (p_nilCheck rfl) (Dp 65 rfl (p_indexAddrA (j := 7) rfl rfl Tryz.runUnderlying449 Tryz.sizeOf445 rfl (by omega) rfl) (Dp 66 rfl (p_indexAddrA (j := n % 256) rfl rfl Tryz.runUnderlying445 Tryz.sizeOf29 (by omega) (by omega) rfl) (Dp 67 rfl (p_load rfl Tryz.isAgg29 (.head _) (U32s.ld hz7 (by omega))) (Dp 68 rfl (p_xor rfl rfl rfl) (Dp 69 rfl (p_assign rfl) (DD ?_)))))))))
        refine E_seq (T_region (Lm rfl (Lp (p_slL (a := 8) hu.1 rfl Tryz.runUnderlying25 Tryz.sizeOf5 rfl rfl (by omega) rfl) (La rfl (TL_nil (E_block (EL (.refl _) ((_, _, t.drop 8)) ?hm ?hI ((K0 (K0 .nil))))))))))
        case hm => exact (by dsimp only; rw [List.length_drop]; omega)
        case hI => exact (fun g' hl => ⟨(hu.slFrom (n := t.length) rfl (by omega)).mono hl, by dsimp only; rw [List.length_drop]; omega⟩)
      ·
        skip
        refine T_exit (E_seq_exit (E_loop_exit (E_block_hit (E_seq (T_region (Lm rfl (Lp (p_notU rfl) (La rfl (TL_nil (EC hlgA ((_, u, t)) ?hI (K0 (K0 .nil))))))))))))
        case hI => intro g' hl; exact ⟨hu.mono hl, ht⟩
    ·
      refine T_skip (EC (.refl _) ((_, u, t)) ?hI (K0 (K0 .nil)))
      case hI => intro g' hl; exact ⟨hu.mono hl, ht⟩
  ·
    rintro ⟨s, u, t⟩ gC hlgC ⟨hu, ht⟩
    try dsimp only
    try dsimp only at hu ht
    refine T_seq (SR (Lm rfl (Lp (p_len (hu.1) rfl rfl Tryz.runUnderlying25) (Lp (p_eql rfl rfl) (nS (T_condD rfl (fun hc6 => ?_) (fun hc6 => ?_)))))))
    ·
      refine SR (Lm rfl (La rfl (nr (E_seq_ret (E_ret1 [_] rfl hlgC rfl (K0 (K0 .nil)) (fun g' hl => ?_))))))
      exact ⟨_, rfl, rfl⟩
    ·
      refine kS (SR (Lm rfl (Lm rfl (Ln rfl (Lp (p_indexAddrA (j := 0) rfl rfl Tryz.runUnderlying449 Tryz.sizeOf445 rfl (by omega) rfl) (Lm rfl (Lk (e_call rfl (ct_simpleUpdate gC b cs e s u t hU hu ht) (K0 .nil)) ?_)))))))
      rintro _ _ _ - ⟨_, rfl, ⟨z, rfl, rfl⟩⟩
      refine La rfl (nr (E_ret1 [_] rfl hlgC rfl (K0 (K0 .nil)) (fun g' hl => ?_)))
      exact ⟨_, rfl, rfl⟩
theorem ct_updateIEEE (g : GW) (s : Int) (u : Value) (t : List UInt8) (hu : Bytes g u t) (ht : t.length ≤ 1000000000) : Ct Tryz.prog g 266 [.int .u32 s, u] [] (fun r g' H' => ∃ z, r = .int .u32 z ∧ H' = []) := by
  refine CI Tryz.func266 Tryz.ntmps266 rfl fun F g0 hg0 => ?_
  replace hu := hu.mono hg0
  refine SR (La rfl (nSR (Lm rfl (Lk (e_call rfl (ct_makeTable g0 3988292384) .nil) ?_))))
  rintro _ _ _ - ⟨_, rfl, ⟨b, cs, rfl, hU, rfl⟩⟩
  refine Lm rfl (Lk (e_call rfl (ct_slicingUpdate g0 b cs _ s u t hU hu ht) (K0 .nil)) ?_)
  rintro _ _ _ - ⟨_, rfl, ⟨z, rfl, rfl⟩⟩
  refine La rfl (nr (E_ret1 [] rfl (.refl _) rfl (K1 .nil) (fun g' hl => ?_)))
  exact ⟨_, rfl, rfl⟩
def crcC (z : Int) : Array Value := #[.int .u32 z]
theorem ct_crcWrite (g : GW) (cb : Nat) (z : Int) (u : Value) (t : List UInt8) (hu : Bytes g u t) (ht : t.length ≤ 1000000000) :
    Ct Tryz.prog g 265 [.pointer (some ⟨cb, 0, none⟩), u] [blk cb (.cells (crcC z) 119)] (fun r g' H' => r = .tuple #[.int .i64 t.length, .nilIface] ∧ ∃ z', H' = [blk cb (.cells (crcC z') 119)]) := by
  refine CI Tryz.func265 Tryz.ntmps265 rfl fun F g0 hg0 => ?_
  replace hu := hu.mono hg0
  refine SR (La rfl (La rfl (nSR (Lm rfl (Lm rfl (Ln rfl (Lf rfl Tryz.runUnderlying119 rfl Tryz.sizeOf29 rfl (Lp (p_load rfl Tryz.isAgg29 (.head _) rfl) (Lm rfl ?_)))))))))
  refine Lk (e_call rfl (ct_updateIEEE g0 z u t hu ht) .nil) ?_
  rintro _ _ _ - ⟨_, rfl, ⟨z2, rfl, rfl⟩⟩
  refine Ln rfl (Lf rfl Tryz.runUnderlying119 rfl Tryz.sizeOf29 rfl (TL_k0 (e_store1 rfl rfl Tryz.sizeOf29 rfl (K0 .nil) rfl rfl rfl) ?_))
  rintro _ _ _ - ⟨rfl, rfl⟩
  refine nSR (Lm rfl (Lp (p_len (hu.1) rfl rfl Tryz.runUnderlying25) (La rfl (La rfl (nr (E_ret2 [_] rfl (.refl _) rfl rfl (K0 (K0 .nil)) (fun g' hl => ?_)))))))
  exact ⟨rfl, _, rfl⟩
end Go.Proofs.YtolddodhmeaceaaGreatDoor
namespace Go.Proofs.YtolddodhmeaceaaGreatDoor
open Go.Hl
def fB (l : List UInt8) (i : Nat) : Int := be32 l (4 * i)
def RB (l : List UInt8) (S : S5) (n : Nat) : S5 := rounds (wsch (fB l) 80) S n
def stepL (l : List UInt8) (S : S5) : S5 := stepS (fB l) S
/-- The cells of a hash that is under way. -/
def shC (S : S5) (v : Value) (n : Int) : Array Value := #[.int .u32 S.a, .int .u32 S.b, .int .u32 S.c, .int .u32 S.d, .int .u32 S.e, v, .int .u64 n]
theorem ct_step (g : GW) (hb : Nat) (v : Value) (m : Nat) (l : List UInt8) (S : S5) (nn : Int) (hs : Shp v m) (hm : m = l.length) (hl : 64 ≤ l.length) :
    Ct Tryz.prog g 282 [.pointer (some ⟨hb, 0, none⟩), sl v 0 64 1] [blk hb (.cells (shC S v nn) 164), own v 1 5 (bvs l)]
      (fun r g' H' => r = .tuple #[] ∧ H' = [blk hb (.cells (shC (stepL l S) v nn) 164), own v 1 5 (bvs l)]) := by
  have hss : Shp (sl v 0 64 1) (64 - 0) := hs.sl (by omega) (by omega)
  have hm0 : 0 < m := by omega
  refine CI Tryz.func282 Tryz.ntmps282 rfl fun F g0 hg0 => ?_
  refine SR (Lk (e_alloc Tryz.zeroValue110 (show _ = wc [] from rfl)) ?_)
  rintro _ _ _ - ⟨wb, rfl, rfl⟩
  refine nS (T_seq (SR (La rfl (nS (T_block (T_loop (ι := Nat) (fun i _ => i ≤ 16) (fun i => [(0, .pointer (some ⟨hb, 0, none⟩)), (1, sl v 0 64 1), (4, .pointer (some ⟨wb, 0, none⟩)), (5, .int .i64 i)]) (fun i => [blk wb (.cells (wc (wsch (fB l) i)) 110), blk hb (.cells (shC S v nn) 164), own v 1 5 (bvs l), F]) (fun i => 16 - i) (0) (fun g' hl => by simp) (by repeat (first | exact SubL.nil | refine SubL.cons rfl ?_)) (K0 (K0 (K0 (K0 .nil)))) ?_))))))
  rintro i gE hlgE hi
  refine T_seq (SR (Lm rfl (Lp (p_lss rfl rfl) (nS (T_condD rfl (fun hc3 => ?_) (fun hc3 => ?_))))))
  ·
    have hi16 : i < 16 := by omega
    have u0 := u8lt (l.getD (4 * i) 0)
    have u1 := u8lt (l.getD (4 * i + 1) 0)
    have u2 := u8lt (l.getD (4 * i + 2) 0)
    have u3 := u8lt (l.getD (4 * i + 3) 0)
    refine kS (T_seq (T_block (T_regionD 35 Tryz.mixed rfl Part.all (Dp 0 rfl (p_move rfl) (Dp 1 rfl (p_move rfl) (Dp 2 rfl (p_move rfl) (Dp 3 rfl (p_mul rfl rfl (wr64 (by omega) (by omega))) (Dp 4 rfl (p_ix (hss) (j := 4 * i) rfl rfl Tryz.runUnderlying25 Tryz.sizeOf5 (by omega) (by omega) rfl) (Dp 5 rfl (p_ldSl hs hm0 rfl Tryz.isAgg5 (.tail _ (.tail _ (.head _))) (bvs_get1 (get_getD (by omega)))) ?_)))))))))
    refine Dp 6 rfl (p_conv rfl Tryz.runUnderlying5 Tryz.runUnderlying29 (wrU32 (by omega) (by omega))) (Dp 7 rfl (p_shl (n := 24) rfl rfl (by decide) rfl rfl) (Dp 8 rfl (p_move rfl) (Dp 9 rfl (p_move rfl) (Dp 10 rfl (p_mul rfl rfl (wr64 (by omega) (by omega))) (Dp 11 rfl (p_add rfl rfl (wr64 (by omega) (by omega))) (Dp 12 rfl (p_ix (hss) (j := 4 * i + 1) rfl rfl Tryz.runUnderlying25 Tryz.sizeOf5 (by omega) (by omega) rfl) (Dp 13 rfl (p_ldSl hs hm0 rfl Tryz.isAgg5 (.tail _ (.tail _ (.head _))) (bvs_get1 (get_getD (by omega)))) (Dp 14 rfl (p_conv rfl Tryz.runUnderlying5 Tryz.runUnderlying29 (wrU32 (by omega) (by omega))) (Dp 15 rfl (p_shl (n := 16) rfl rfl (by decide) rfl rfl) ?_)))))))))
    refine Dp 16 rfl (p_or rfl rfl rfl) (Dp 17 rfl (p_move rfl) (Dp 18 rfl (p_move rfl) (Dp 19 rfl (p_mul rfl rfl (wr64 (by omega) (by omega))) (Dp 20 rfl (p_add rfl rfl (wr64 (by omega) (by omega))) (Dp 21 rfl (p_ix (hss) (j := 4 * i + 2) rfl rfl Tryz.runUnderlying25 Tryz.sizeOf5 (by omega) (by omega) rfl) (Dp 22 rfl (p_ldSl hs hm0 rfl Tryz.isAgg5 (.tail _ (.tail _ (.head _))) (bvs_get1 (get_getD (by omega)))) (Dp 23 rfl (p_conv rfl Tryz.runUnderlying5 Tryz.runUnderlying29 (wrU32 (by omega) (by omega))) (Dp 24 rfl (p_shl (n := 8) rfl rfl (by decide) rfl rfl) (Dp 25 rfl (p_or rfl rfl rfl) ?_)))))))))
    refine Dp 26 rfl (p_move rfl) (Dp 27 rfl (p_move rfl) (Dp 28 rfl (p_mul rfl rfl (wr64 (by omega) (by omega))) (Dp 29 rfl (p_add rfl rfl (wr64 (by omega) (by omega))) (Dp 30 rfl (p_ix (hss) (j := 4 * i + 3) rfl rfl Tryz.runUnderlying25 Tryz.sizeOf5 (by omega) (by omega) rfl) (Dp 31 rfl (p_ldSl hs hm0 rfl Tryz.isAgg5 (.tail _ (.tail _ (.head _))) (bvs_get1 (get_getD (by omega)))) (Dp 32 rfl (p_conv rfl Tryz.runUnderlying5 Tryz.runUnderlying29 (wrU32 (by omega) (by omega))) (Dp 33 rfl (p_or rfl rfl rfl) (Dp 34 rfl (p_indexAddrA (j := i) rfl rfl Tryz.runUnderlying110 Tryz.sizeOf29 (by omega) (by omega) rfl) ?_))))))))
    refine DB rfl (e_storeA rfl rfl Tryz.sizeOf29 rfl (K0 .nil) (by rw [wc_size (by rw [wsch_length]; omega)]; omega) (wc_setN (ws' := wsch (fB l) (i + 1)) (wsch_length _ _) (by omega) (wsch_lt hi16))) ?_
    rintro _ _ _ - ⟨rfl, rfl⟩
    refine TA_done (by kernel_rfl) (E_block (E_seq (T_region (Lm rfl (Lp (p_add rfl rfl (wr64 (by omega) (by omega))) (La rfl (TL_nil (EL (.refl _) (i + 1) ?hm ?hI ((K0 (K0 (K0 (K0 .nil)))))))))))))
    case hm => exact (by omega)
    case hI => exact (fun g' hl => by omega)
  ·
    obtain rfl : i = 16 := by omega
    refine T_exit (E_seq_exit (E_loop_exit (E_block_hit (E_seq (T_seq (SR (La rfl (nS (T_block (T_loop (ι := Nat) (fun i _ => 16 ≤ i ∧ i ≤ 80) (fun i => [(0, .pointer (some ⟨hb, 0, none⟩)), (4, .pointer (some ⟨wb, 0, none⟩)), (6, .int .i64 i)]) (fun i => [blk wb (.cells (wc (wsch (fB l) i)) 110), blk hb (.cells (shC S v nn) 164), own v 1 5 (bvs l), F]) (fun i => 80 - i) (16) (fun g' hl => by simp) (by repeat (first | exact SubL.nil | refine SubL.cons rfl ?_)) (K0 (K0 (K0 (K0 .nil)))) ?_))))))))))
    rintro i gF hlgF ⟨hi16, hi80⟩
    refine T_seq (SR (Lm rfl (Lp (p_lss rfl rfl) (nS (T_condD rfl (fun hc6 => ?_) (fun hc6 => ?_))))))
    ·
      have hi8 : i < 80 := by omega
      refine kS (T_seq (T_block (T_seq (T_regionD 20 Tryz.mixed rfl Part.all (Dp 0 rfl (p_move rfl) (Dp 1 rfl (p_sub rfl rfl (wr64 (by omega) (by omega))) (Dp 2 rfl (p_indexAddrA (j := i - 3) rfl rfl Tryz.runUnderlying110 Tryz.sizeOf29 (by omega) (by omega) rfl) ?_)))))))
      refine Dp 3 rfl (p_load rfl Tryz.isAgg29 (.head _) (wc_get (by rw [wsch_length]; omega))) ?_
      refine Dp 4 rfl (p_move rfl) (Dp 5 rfl (p_sub rfl rfl (wr64 (by omega) (by omega))) (Dp 6 rfl (p_indexAddrA (j := i - 8) rfl rfl Tryz.runUnderlying110 Tryz.sizeOf29 (by omega) (by omega) rfl) ?_))
      refine Dp 7 rfl (p_load rfl Tryz.isAgg29 (.head _) (wc_get (by rw [wsch_length]; omega))) ?_
      refine Dp 8 rfl (p_xor rfl rfl rfl) (Dp 9 rfl (p_move rfl) (Dp 10 rfl (p_sub rfl rfl (wr64 (by omega) (by omega))) (Dp 11 rfl (p_indexAddrA (j := i - 14) rfl rfl Tryz.runUnderlying110 Tryz.sizeOf29 (by omega) (by omega) rfl) ?_)))
      refine Dp 12 rfl (p_load rfl Tryz.isAgg29 (.head _) (wc_get (by rw [wsch_length]; omega))) ?_
      refine Dp 13 rfl (p_xor rfl rfl rfl) (Dp 14 rfl (p_move rfl) (Dp 15 rfl (p_sub rfl rfl (wr64 (by omega) (by omega))) (Dp 16 rfl (p_indexAddrA (j := i - 16) rfl rfl Tryz.runUnderlying110 Tryz.sizeOf29 (by omega) (by omega) rfl) ?_)))
      refine Dp 17 rfl (p_load rfl Tryz.isAgg29 (.head _) (wc_get (by rw [wsch_length]; omega))) ?_
      refine Dp 18 rfl (p_xor rfl rfl rfl) (Dp 19 rfl (p_assign rfl) (DD (E_seq (T_region (Lm rfl (Lm rfl (Lp (p_shl (n := 1) rfl rfl (by decide) rfl rfl) (Lm rfl (Lp (p_shr (n := 31) rfl rfl (by decide) rfl rfl) ?_)))))))))
      refine Lp (p_or rfl rfl rfl) (Lp (p_indexAddrA (j := i) rfl rfl Tryz.runUnderlying110 Tryz.sizeOf29 (by omega) (by omega) rfl) ?_)
      refine TL_k0 (e_storeA rfl rfl Tryz.sizeOf29 rfl (K0 .nil) (by rw [wc_size (by rw [wsch_length]; omega)]; omega) (wc_setN (ws' := wsch (fB l) (i + 1)) (wsch_length _ _) (by omega) (wsch_ge (by omega)))) ?_
      rintro _ _ _ - ⟨rfl, rfl⟩
      refine TL_nil (E_block (E_seq (T_region (Lm rfl (Lp (p_add rfl rfl (wr64 (by omega) (by omega))) (La rfl (TL_nil (EL (.refl _) (i + 1) ?hm ?hI ((K0 (K0 (K0 (K0 .nil)))))))))))))
      case hm => exact (by omega)
      case hI => exact (fun g' hl => by omega)
    ·
      obtain rfl : i = 80 := by omega
      refine T_exit (E_seq_exit (E_loop_exit (E_block_hit (E_seq (T_seq (T_regionD 30 Tryz.mixed rfl Part.all (Dp 0 rfl (p_move rfl) (Dp 1 rfl (p_nilCheck rfl) (Dp 2 rfl (p_fieldAddr rfl Tryz.runUnderlying164 rfl Tryz.sizeOf109 rfl) ?_)))))))))
      refine Dp 3 rfl (p_indexAddrA (j := 0) rfl rfl Tryz.runUnderlying109 Tryz.sizeOf29 rfl (by omega) rfl) (Dp 4 rfl (p_load rfl Tryz.isAgg29 (.tail _ (.head _)) rfl) (Dp 5 rfl (p_move rfl) (Dp 6 rfl (p_nilCheck rfl) (Dp 7 rfl (p_fieldAddr rfl Tryz.runUnderlying164 rfl Tryz.sizeOf109 rfl) (Dp 8 rfl (p_indexAddrA (j := 1) rfl rfl Tryz.runUnderlying109 Tryz.sizeOf29 rfl (by omega) rfl) (Dp 9 rfl (p_load rfl Tryz.isAgg29 (.tail _ (.head _)) rfl) (Dp 10 rfl (p_move rfl) (Dp 11 rfl (p_nilCheck rfl) (Dp 12 rfl (p_fieldAddr rfl Tryz.runUnderlying164 rfl Tryz.sizeOf109 rfl) ?_)))))))))
      refine Dp 13 rfl (p_indexAddrA (j := 2) rfl rfl Tryz.runUnderlying109 Tryz.sizeOf29 rfl (by omega) rfl) (Dp 14 rfl (p_load rfl Tryz.isAgg29 (.tail _ (.head _)) rfl) (Dp 15 rfl (p_move rfl) (Dp 16 rfl (p_nilCheck rfl) (Dp 17 rfl (p_fieldAddr rfl Tryz.runUnderlying164 rfl Tryz.sizeOf109 rfl) (Dp 18 rfl (p_indexAddrA (j := 3) rfl rfl Tryz.runUnderlying109 Tryz.sizeOf29 rfl (by omega) rfl) (Dp 19 rfl (p_load rfl Tryz.isAgg29 (.tail _ (.head _)) rfl) (Dp 20 rfl (p_move rfl) (Dp 21 rfl (p_nilCheck rfl) (Dp 22 rfl (p_fieldAddr rfl Tryz.runUnderlying164 rfl Tryz.sizeOf109 rfl) ?_)))))))))
      refine Dp 23 rfl (p_indexAddrA (j := 4) rfl rfl Tryz.runUnderlying109 Tryz.sizeOf29 rfl (by omega) rfl) (Dp 24 rfl (p_load rfl Tryz.isAgg29 (.tail _ (.head _)) rfl) (Dp 25 rfl (p_assign rfl) (Dp 26 rfl (p_assign rfl) (Dp 27 rfl (p_assign rfl) (Dp 28 rfl (p_assign rfl) (Dp 29 rfl (p_assign rfl) (DD (E_seq (T_seq (T_seq ?_))))))))))
      refine T_region (La rfl (nS (T_block (T_loop (ι := Nat) (fun n _ => n ≤ 80) (fun n => [(0, .pointer (some ⟨hb, 0, none⟩)), (4, .pointer (some ⟨wb, 0, none⟩)), (8, .int .u32 (RB l S n).a), (9, .int .u32 (RB l S n).b), (10, .int .u32 (RB l S n).c), (11, .int .u32 (RB l S n).d), (12, .int .u32 (RB l S n).e), (13, .int .i64 n)]) (fun n => [blk wb (.cells (wc (wsch (fB l) 80)) 110), blk hb (.cells (shC S v nn) 164), own v 1 5 (bvs l), F]) (fun n => 80 - n) (0) (fun g' hl => by simp) (by repeat (first | exact SubL.nil | refine SubL.cons rfl ?_)) (K0 (K0 (K0 (K0 .nil)))) ?_))))
      rintro n gG hlgG hn
      refine T_seq (SR (Lm rfl (Lp (p_lss rfl rfl) (nS (T_condD rfl (fun hc9 => ?_) (fun hc9 => ?_))))))
      ·
        have hn80 : n < 80 := by omega
        refine kS (T_seq (T_block (SR (La rfl (La rfl (nS (T_cut (ι := Unit) (fun _ _ => True) (fun _ => [(0, .pointer (some ⟨hb, 0, none⟩)), (4, .pointer (some ⟨wb, 0, none⟩)), (8, .int .u32 (RB l S n).a), (9, .int .u32 (RB l S n).b), (10, .int .u32 (RB l S n).c), (11, .int .u32 (RB l S n).d), (12, .int .u32 (RB l S n).e), (13, .int .i64 n), (14, .int .u32 (fk n (RB l S n)).1), (15, .int .u32 (fk n (RB l S n)).2)]) (fun _ => [blk wb (.cells (wc (wsch (fB l) 80)) 110), blk hb (.cells (shC S v nn) 164), own v 1 5 (bvs l), F]) ?_ ?_)))))))
        ·
          refine T_block (SR (Lm rfl (Lp (p_lss rfl rfl) (La rfl (nS (T_condD rfl (fun hc10 => ?_) (fun hc10 => ?_)))))))
          ·
            replace hc10 : n < 20 := by omega
            refine T_region (Lm rfl (Lm rfl (Lp (p_and rfl rfl rfl) (Lm rfl (Lp (p_notU rfl) (Lm rfl (Lp (p_and rfl rfl rfl) (Lp (p_or rfl rfl rfl) (La rfl ?_)))))))))
            refine La rfl (TL_nil (E_block ?_))
            refine E_cut (.refl _) (()) ?hI (by rw [fk1 (by omega)]; repeat (first | exact SubL.nil | refine SubL.cons rfl ?_)) (K0 (K0 (K0 (K0 .nil))))
            case hI => intro g' hl; trivial
          ·
            have h20 : ¬ n < 20 := by omega
            refine SR (Lm rfl (Lp (p_lss rfl rfl) (La rfl (nS (T_condD rfl (fun hc11 => ?_) (fun hc11 => ?_))))))
            ·
              replace hc11 : n < 40 := by omega
              refine T_region (Lm rfl (Lm rfl (Lp (p_xor rfl rfl rfl) (Lm rfl (Lp (p_xor rfl rfl rfl) (La rfl (La rfl (TL_nil (E_block ?_)))))))))
              refine E_cut (.refl _) (()) ?hI (by rw [fk2 (by omega) (by omega)]; repeat (first | exact SubL.nil | refine SubL.cons rfl ?_)) (K0 (K0 (K0 (K0 .nil))))
              case hI => intro g' hl; trivial
            ·
              have h40 : ¬ n < 40 := by omega
              refine SR (Lm rfl (Lp (p_lss rfl rfl) (La rfl (nS (T_condD rfl (fun hc12 => ?_) (fun hc12 => ?_))))))
              ·
                replace hc12 : n < 60 := by omega
                refine T_region (Lm rfl (Lm rfl (Lp (p_and rfl rfl rfl) (Lm rfl (Lm rfl (Lp (p_and rfl rfl rfl) (Lp (p_or rfl rfl rfl) (Lm rfl (Lm rfl ?_)))))))))
                refine Lp (p_and rfl rfl rfl) (Lp (p_or rfl rfl rfl) (La rfl (La rfl (TL_nil (E_block ?_)))))
                refine E_cut (.refl _) (()) ?hI (by rw [fk3 (by omega) (by omega)]; repeat (first | exact SubL.nil | refine SubL.cons rfl ?_)) (K0 (K0 (K0 (K0 .nil))))
                case hI => intro g' hl; trivial
              ·
                have h60 : ¬ n < 60 := by omega
                refine T_region (Lm rfl (Lm rfl (Lp (p_xor rfl rfl rfl) (Lm rfl (Lp (p_xor rfl rfl rfl) (La rfl (La rfl (TL_nil (E_block ?_)))))))))
                refine E_cut (.refl _) (()) ?hI (by rw [fk4 (by omega)]; repeat (first | exact SubL.nil | refine SubL.cons rfl ?_)) (K0 (K0 (K0 (K0 .nil))))
                case hI => intro g' hl; trivial
        ·
          rintro _ gI hlgI _
          refine SR (Lm rfl (Lp (p_shl (n := 5) rfl rfl (by decide) rfl rfl) (Lm rfl (Lp (p_shr (n := 27) rfl rfl (by decide) rfl rfl) (Lp (p_or rfl rfl rfl) (Lm rfl (Lp (p_add rfl rfl rfl) (Lm rfl (Lp (p_add rfl rfl rfl) ?_)))))))))
          refine Lm rfl (Lp (p_add rfl rfl rfl) (Lm rfl (Lp (p_indexAddrA (j := n) rfl rfl Tryz.runUnderlying110 Tryz.sizeOf29 (by omega) (by omega) rfl) ?_)))
          refine Lp (p_load rfl Tryz.isAgg29 (.head _) (wc_get (by rw [wsch_length]; omega))) ?_
          refine Lp (p_add rfl rfl rfl) (La rfl (nR (Lm rfl (Lm rfl (Lm rfl (Lp (p_shl (n := 30) rfl rfl (by decide) rfl rfl) (Lm rfl (Lp (p_shr (n := 2) rfl rfl (by decide) rfl rfl) (Lp (p_or rfl rfl rfl) ?_)))))))))
          refine Lm rfl (Lm rfl (La rfl (La rfl (La rfl (La rfl (La rfl (TL_nil (E_block (E_seq ?_)))))))))
          refine T_region (Lm rfl (Lp (p_add rfl rfl (wr64 (by omega) (by omega))) (La rfl (TL_nil (EL hlgI (n + 1) ?hm ?hI ((K0 (K0 (K0 (K0 .nil))))))))))
          case hm => exact (by omega)
          case hI => exact (fun g' hl => by omega)
      ·
        obtain rfl : n = 80 := by omega
        refine T_exit (E_seq_exit (E_loop_exit (E_block_hit (E_seq (T_seq (T_regionD 10 Tryz.mixed rfl Part.all (Dp 0 rfl (p_move rfl) (Dp 1 rfl (p_nilCheck rfl) (Dp 2 rfl (p_fieldAddr rfl Tryz.runUnderlying164 rfl Tryz.sizeOf109 rfl) ?_)))))))))
        refine Dp 3 rfl (p_indexAddrA (j := 0) rfl rfl Tryz.runUnderlying109 Tryz.sizeOf29 rfl (by omega) rfl) (Dp 4 rfl (p_load rfl Tryz.isAgg29 (.tail _ (.head _)) rfl) (Dp 5 rfl (p_move rfl) (Dp 6 rfl (p_add rfl rfl rfl) (Dq 7 rfl (fun _ => p_nilCheck rfl) (Dq 8 rfl (fun _ => p_fieldAddr rfl Tryz.runUnderlying164 rfl Tryz.sizeOf109 rfl) (Dp 9 rfl (p_indexAddrA (j := 0) rfl rfl Tryz.runUnderlying109 Tryz.sizeOf29 rfl (by omega) rfl) (DB rfl (e_store1 rfl rfl Tryz.sizeOf29 rfl (K1 .nil) rfl rfl rfl) ?_)))))))
        rintro _ _ _ - ⟨rfl, rfl⟩
        refine TA_done (by kernel_rfl) (E_seq (T_seq (T_regionD 10 Tryz.mixed rfl Part.all (Dp 0 rfl (p_move rfl) (Dp 1 rfl (p_nilCheck rfl) (Dp 2 rfl (p_fieldAddr rfl Tryz.runUnderlying164 rfl Tryz.sizeOf109 rfl) (Dp 3 rfl (p_indexAddrA (j := 1) rfl rfl Tryz.runUnderlying109 Tryz.sizeOf29 rfl (by omega) rfl) (Dp 4 rfl (p_load rfl Tryz.isAgg29 (.head _) rfl) (Dp 5 rfl (p_move rfl) ?_)))))))))
        refine Dp 6 rfl (p_add rfl rfl rfl) (Dq 7 rfl (fun _ => p_nilCheck rfl) (Dq 8 rfl (fun _ => p_fieldAddr rfl Tryz.runUnderlying164 rfl Tryz.sizeOf109 rfl) (Dp 9 rfl (p_indexAddrA (j := 1) rfl rfl Tryz.runUnderlying109 Tryz.sizeOf29 rfl (by omega) rfl) (DB rfl (e_store1 rfl rfl Tryz.sizeOf29 rfl (K0 .nil) rfl rfl rfl) ?_))))
        rintro _ _ _ - ⟨rfl, rfl⟩
        refine TA_done (by kernel_rfl) (E_seq (T_seq (T_regionD 10 Tryz.mixed rfl Part.all (Dp 0 rfl (p_move rfl) (Dp 1 rfl (p_nilCheck rfl) (Dp 2 rfl (p_fieldAddr rfl Tryz.runUnderlying164 rfl Tryz.sizeOf109 rfl) (Dp 3 rfl (p_indexAddrA (j := 2) rfl rfl Tryz.runUnderlying109 Tryz.sizeOf29 rfl (by omega) rfl) (Dp 4 rfl (p_load rfl Tryz.isAgg29 (.head _) rfl) (Dp 5 rfl (p_move rfl) ?_)))))))))
        refine Dp 6 rfl (p_add rfl rfl rfl) (Dq 7 rfl (fun _ => p_nilCheck rfl) (Dq 8 rfl (fun _ => p_fieldAddr rfl Tryz.runUnderlying164 rfl Tryz.sizeOf109 rfl) (Dp 9 rfl (p_indexAddrA (j := 2) rfl rfl Tryz.runUnderlying109 Tryz.sizeOf29 rfl (by omega) rfl) (DB rfl (e_store1 rfl rfl Tryz.sizeOf29 rfl (K0 .nil) rfl rfl rfl) ?_))))
        rintro _ _ _ - ⟨rfl, rfl⟩
        refine TA_done (by kernel_rfl) (E_seq (T_seq (T_regionD 10 Tryz.mixed rfl Part.all (Dp 0 rfl (p_move rfl) (Dp 1 rfl (p_nilCheck rfl) (Dp 2 rfl (p_fieldAddr rfl Tryz.runUnderlying164 rfl Tryz.sizeOf109 rfl) (Dp 3 rfl (p_indexAddrA (j := 3) rfl rfl Tryz.runUnderlying109 Tryz.sizeOf29 rfl (by omega) rfl) (Dp 4 rfl (p_load rfl Tryz.isAgg29 (.head _) rfl) (Dp 5 rfl (p_move rfl) ?_)))))))))
        refine Dp 6 rfl (p_add rfl rfl rfl) (Dq 7 rfl (fun _ => p_nilCheck rfl) (Dq 8 rfl (fun _ => p_fieldAddr rfl Tryz.runUnderlying164 rfl Tryz.sizeOf109 rfl) (Dp 9 rfl (p_indexAddrA (j := 3) rfl rfl Tryz.runUnderlying109 Tryz.sizeOf29 rfl (by omega) rfl) (DB rfl (e_store1 rfl rfl Tryz.sizeOf29 rfl (K0 .nil) rfl rfl rfl) ?_))))
        rintro _ _ _ - ⟨rfl, rfl⟩
        refine TA_done (by kernel_rfl) (E_seq (T_regionD 10 Tryz.mixed rfl Part.all (Dp 0 rfl (p_move rfl) (Dp 1 rfl (p_nilCheck rfl) (Dp 2 rfl (p_fieldAddr rfl Tryz.runUnderlying164 rfl Tryz.sizeOf109 rfl) (Dp 3 rfl (p_indexAddrA (j := 4) rfl rfl Tryz.runUnderlying109 Tryz.sizeOf29 rfl (by omega) rfl) (Dp 4 rfl (p_load rfl Tryz.isAgg29 (.head _) rfl) (Dp 5 rfl (p_move rfl) (Dp 6 rfl (p_add rfl rfl rfl) ?_)))))))))
        refine Dq 7 rfl (fun _ => p_nilCheck rfl) (Dq 8 rfl (fun _ => p_fieldAddr rfl Tryz.runUnderlying164 rfl Tryz.sizeOf109 rfl) (Dp 9 rfl (p_indexAddrA (j := 4) rfl rfl Tryz.runUnderlying109 Tryz.sizeOf29 rfl (by omega) rfl) (DB rfl (e_store1 rfl rfl Tryz.sizeOf29 rfl (K0 .nil) rfl rfl rfl) ?_)))
        rintro _ _ _ - ⟨rfl, rfl⟩
        refine TA_done (by kernel_rfl) (E_end0 [_, _] rfl ((hlgE.trans hlgF).trans hlgG) (K0 (K1 (K1 .nil))) (fun g' hl => ?_))
        exact ⟨rfl, rfl⟩
end Go.Proofs.YtolddodhmeaceaaGreatDoor
namespace Go.Proofs.YtolddodhmeaceaaGreatDoor
open Go.Hl
theorem be32_drop2 (l : List UInt8) (k j : Nat) : be32 (l.drop k) j = be32 l (k + j) := by
  simp only [be32, getD_drop, Nat.add_assoc]
theorem getD_app {l m : List UInt8} {i : Nat} (h : i < l.length) : (l ++ m).getD i 0 = l.getD i 0 := by
  simp [List.getD_eq_getElem?_getD, List.getElem?_append_left h]
theorem be32_app {l m : List UInt8} {i : Nat} (h : i + 3 < l.length) : be32 (l ++ m) i = be32 l i := by
  simp only [be32]
  rw [getD_app (by omega), getD_app (by omega), getD_app (by omega), getD_app (by omega)]
theorem wsch_congr {f f' : Nat → Int} (h : ∀ i, i < 16 → f i = f' i) : ∀ n, wsch f n = wsch f' n
  | 0 => rfl
  | n + 1 => by
    rw [wsch, wsch, wsch_congr h n]
    by_cases hn : n < 16
    · rw [if_pos hn, if_pos hn, h n hn]
    · rw [if_neg hn, if_neg hn]
theorem stepS_congr {f f' : Nat → Int} (h : ∀ i, i < 16 → f i = f' i) (S : S5) : stepS f S = stepS f' S := by
  unfold stepS; rw [wsch_congr h]
theorem blocksS_app {l m : List UInt8} : ∀ {k : Nat}, 64 * k ≤ l.length → blocksS (l ++ m) k = blocksS l k
  | 0, _ => rfl
  | k + 1, h => by
    rw [blocksS, blocksS, blocksS_app (by omega)]
    exact stepS_congr (fun i hi => be32_app (by omega)) _
theorem stepL_at (l : List UInt8) (m : Nat) : stepL (l.drop (64 * m)) (blocksS l m) = blocksS l (m + 1) := by
  rw [blocksS]
  unfold stepL
  exact stepS_congr (fun i _ => be32_drop2 l (64 * m) (4 * i)) _
/-- What is hashed so far: full blocks, and the rest. -/
def hst (l : List UInt8) : S5 := blocksS l (l.length / 64)
def restOf (l : List UInt8) : List UInt8 := l.drop (64 * (l.length / 64))
def hashA (hb : Nat) (v : Value) (l : List UInt8) : List Atom := [blk hb (.cells (shC (hst l) v l.length) 164), own v 1 5 (bvs (restOf l))]
theorem ct_Reset (g : GW) (hb : Nat) (S : S5) (v : Value) (nn : Int) :
    Ct Tryz.prog g 71 [.pointer (some ⟨hb, 0, none⟩)] [blk hb (.cells (shC S v nn) 164)] (fun r g' H' => r = .tuple #[] ∧ H' = [blk hb (.cells (shC h0 (.slice none 0 0) 0) 164)]) := by
  refine CI Tryz.func71 Tryz.ntmps71 rfl fun F g0 hg0 => ?_
  refine SR (Lm rfl (Lp (p_build (cells := s5c h0) rfl (by kernel_rfl)) (Ln rfl (Lf rfl Tryz.runUnderlying164 rfl Tryz.sizeOf109 rfl (TL_k0 (e_store (m := 5) rfl rfl Tryz.sizeOf109 rfl (by simp [s5c, Value.cells, Value.oneCell']) (K0 .nil) (show 0 + 5 ≤ 7 from by decide) (fun k _ _ h => by simp at h)) ?_)))))
  rintro _ _ _ - ⟨rfl, rfl⟩
  refine nR (Lm rfl (Lm rfl (Ln rfl (Lf rfl Tryz.runUnderlying164 rfl Tryz.sizeOf25 rfl (TL_k0 (e_store1 rfl rfl Tryz.sizeOf25 rfl (K0 .nil) rfl rfl rfl) ?_)))))
  rintro _ _ _ - ⟨rfl, rfl⟩
  refine Ln rfl (Lf rfl Tryz.runUnderlying164 rfl Tryz.sizeOf108 rfl (TL_k0 (e_store1 rfl rfl Tryz.sizeOf108 rfl (K0 .nil) rfl rfl rfl) ?_))
  rintro _ _ _ - ⟨rfl, rfl⟩
  refine TL_nil (E_end0 [_] rfl (.refl _) (K0 (K0 .nil)) (fun g' hl => ?_))
  exact ⟨rfl, rfl⟩
theorem ct_hashNew (g : GW) : Ct Tryz.prog g 45 [.int .i64 1] [] (fun r g' H' => ∃ hb, r = .iface 162 (.pointer (some ⟨hb, 0, none⟩)) ∧ H' = hashA hb (.slice none 0 0) []) := by
  refine CI Tryz.func45 Tryz.ntmps45 rfl fun F g0 hg0 => ?_
  refine T_nil 1 5 (SR (La rfl (nSR (Lp (p_build (cells := shC ⟨0, 0, 0, 0, 0⟩ (.slice none 0 0) 0) rfl (by kernel_rfl)) (Lk (e_box rfl rfl) ?_)))))
  rintro _ _ _ - ⟨hb, rfl, rfl⟩
  refine La rfl (nSR (Lm rfl (Lk (e_call rfl (ct_Reset g0 hb ⟨0, 0, 0, 0, 0⟩ (.slice none 0 0) 0) (K0 .nil)) ?_)))
  rintro _ _ _ - ⟨_, rfl, ⟨rfl, rfl⟩⟩
  refine nSR (Lm rfl (Lp (p_mkIface rfl Tryz.runUnderlying162 (fun _ h => by cases h)) (La rfl (nr (E_ret1 [_, _] rfl (.refl _) rfl (K0 (K0 (K0 .nil))) (fun g' hl => ?_))))))
  exact ⟨hb, rfl, rfl⟩
theorem ct_hWrite (g : GW) (hb : Nat) (v pv : Value) (l p : List UInt8) (hp : Bytes g pv p) (hl : l.length + p.length ≤ 1000000000) :
    Ct Tryz.prog g 281 [.pointer (some ⟨hb, 0, none⟩), pv] (hashA hb v l) (fun r g' H' => r = .tuple #[.int .i64 p.length, .nilIface] ∧ ∃ v', H' = hashA hb v' (l ++ p)) := by
  have hll : (l ++ p).length = l.length + p.length := List.length_append
  have hrl : (restOf l).length = l.length - 64 * (l.length / 64) := by unfold restOf; rw [List.length_drop]
  have hst0 : hst l = blocksS (l ++ p) (l.length / 64) := (blocksS_app (by omega)).symm
  have hrest0 : bvs (restOf l) ++ bvs p = bvs ((l ++ p).drop (64 * (l.length / 64))) := by
    rw [← bvs_append, restOf, List.drop_append_of_le_length (by omega)]
  refine CI Tryz.func281 Tryz.ntmps281 rfl fun F g0 hg0 => ?_
  replace hp := hp.mono hg0
  refine SR (La rfl (La rfl (nSR (Lm rfl (Ln rfl (Lf rfl Tryz.runUnderlying164 rfl Tryz.sizeOf108 rfl (Lp (p_load rfl Tryz.isAgg108 (.head _) rfl) (Lm rfl (Lp (p_len (hp.1) rfl rfl Tryz.runUnderlying25) ?_)))))))))
  refine Lp (p_conv rfl Tryz.runUnderlying3 Tryz.runUnderlying108 (wrU64 (by omega) (by omega))) (Lp (p_add rfl rfl (wrU64 (by omega) (by omega))) (Ln rfl (Lf rfl Tryz.runUnderlying164 rfl Tryz.sizeOf108 rfl (TL_k0 (e_store1 rfl rfl Tryz.sizeOf108 rfl (K0 .nil) rfl rfl rfl) ?_))))
  rintro _ _ _ - ⟨rfl, rfl⟩
  refine nSR (Lm rfl (Lm rfl (Ln rfl (Lf rfl Tryz.runUnderlying164 rfl Tryz.sizeOf25 rfl (Lp (p_load rfl Tryz.isAgg25 (.head _) rfl) (Lm rfl ?_))))))
  refine Lk (e_append (by_ := 1) rfl rfl rfl rfl Tryz.runUnderlying25 Tryz.runUnderlying25 (.inr ⟨_, rfl⟩) Tryz.sizeOf5 Tryz.zeroValue5 rfl Tryz.typeInfo5 rfl (by decide) (by decide) (src_bytes hp) (by rw [bvs_length, bvs_length]; omega) (K1 .nil) (bvs_one _)) ?_
  rintro v1 _ _ - ⟨n_v1, hs_v1, hn_v1, rfl⟩
  refine Ln rfl (Lf rfl Tryz.runUnderlying164 rfl Tryz.sizeOf25 rfl (TL_k0 (e_store1 rfl rfl Tryz.sizeOf25 (Shp.one hs_v1) (K1 .nil) rfl rfl rfl) ?_))
  rintro _ _ _ - ⟨rfl, rfl⟩
  refine nS (T_seq (T_block ?_))
  rw [hrest0, hst0, show ((l.length : Int) + (p.length : Int)) = (((l ++ p).length : Nat) : Int) from by rw [hll]; omega]
  refine T_loop (ι := Nat × Value) (fun x _ => l.length / 64 ≤ x.1 ∧ x.1 ≤ (l ++ p).length / 64) (fun x => [(0, .pointer (some ⟨hb, 0, none⟩)), (1, pv)]) (fun x => [blk hb (.cells (shC (blocksS (l ++ p) x.1) x.2 ((l ++ p).length : Nat)) 164), own x.2 1 5 (bvs ((l ++ p).drop (64 * x.1))), F]) (fun x => (l ++ p).length / 64 - x.1) ((l.length / 64, v1)) (fun g' hl => ⟨Nat.le_refl _, by omega⟩) (by repeat (first | exact SubL.nil | refine SubL.cons rfl ?_)) (K0 (K0 (K0 .nil))) ?_
  rintro ⟨m, v⟩ gA hlgA ⟨hm1, hm2⟩
  try dsimp only
  try dsimp only at hm1 hm2
  replace hp := hp.mono hlgA
  refine T_seq (SR (Lm rfl (Ln rfl (Lf rfl Tryz.runUnderlying164 rfl Tryz.sizeOf25 rfl (Lp (p_load rfl Tryz.isAgg25 (.head _) rfl) (TL_shp (.tail _ (.head _)) (fun mo hmo hml => ?_)))))))
  rw [bvs_length, List.length_drop] at hml
  refine Lp (p_len hmo rfl rfl Tryz.runUnderlying25) (Lp (p_geq rfl rfl) (nS (T_condD rfl (fun hc5 => ?_) (fun hc5 => ?_))))
  ·
    have hm64 : 64 * m + 64 ≤ (l ++ p).length := by omega
    refine kS (T_block (SR (Lm rfl (Lm rfl (Ln rfl (Lf rfl Tryz.runUnderlying164 rfl Tryz.sizeOf25 rfl (Lp (p_load rfl Tryz.isAgg25 (.head _) rfl) (Lp (p_slH (b := 64) hmo rfl Tryz.runUnderlying25 Tryz.sizeOf5 rfl rfl (by omega) rfl) ?_))))))))
    refine Lk (e_call rfl (ct_step gA hb v mo _ _ _ hmo (by rw [List.length_drop]; omega) (by rw [List.length_drop]; omega)) (K0 (K0 .nil))) ?_
    rintro _ _ _ - ⟨_, rfl, ⟨rfl, rfl⟩⟩
    refine nR (Lm rfl (Lm rfl (Ln rfl (Lf rfl Tryz.runUnderlying164 rfl Tryz.sizeOf25 rfl (Lp (p_load rfl Tryz.isAgg25 (.head _) rfl) (Lp (p_slL (a := 64) hmo rfl Tryz.runUnderlying25 Tryz.sizeOf5 rfl rfl (by omega) rfl) (Ln rfl (Lf rfl Tryz.runUnderlying164 rfl Tryz.sizeOf25 rfl (TL_slAt (a := 64) (K1 .nil) hmo (by omega) ?_)))))))))
    refine TL_k0 (e_store1 rfl rfl Tryz.sizeOf25 (Shp.one (hmo.sl (a := 64) (sz := 1) (by omega) (Nat.le_refl _))) (K1 .nil) rfl rfl rfl) ?_
    rintro _ _ _ - ⟨rfl, rfl⟩
    refine TL_nil (E_block ?_)
    rw [stepL_at, show (bvs ((l ++ p).drop (64 * m))).drop (64 * 1) = bvs ((l ++ p).drop (64 * (m + 1))) from by rw [bvs, ← List.map_drop, List.drop_drop]; rfl]
    refine EL (.refl _) ((m + 1, _)) ?hm ?hI ((K0 (K0 (K0 .nil))))
    case hm => exact (by omega)
    case hI => exact (fun g' hl => by omega)
  ·
    obtain rfl : m = (l ++ p).length / 64 := by omega
    refine T_exit (E_seq_exit (E_loop_exit (E_block_hit (E_seq (SR (Lm rfl (Lp (p_len (hp.1) rfl rfl Tryz.runUnderlying25) (La rfl (La rfl ?_)))))))))
    refine nr (E_ret2 [_, _] rfl hlgA rfl rfl (K0 (K0 (K0 .nil))) (fun g' hl => ?_))
    exact ⟨rfl, _, rfl⟩
end Go.Proofs.YtolddodhmeaceaaGreatDoor
namespace Go.Proofs.YtolddodhmeaceaaGreatDoor
open Go.Hl
theorem sh_get {S : S5} {v : Value} {n : Int} {i : Nat} {u : Value} (h : (s5l S)[i]? = some u) : (shC S v n)[0 + i]? = some u := by
  have hi : i < 5 := (List.getElem?_eq_some_iff.1 h).1
  rw [Nat.zero_add]
  match i, hi with
  | 0, _ => exact h
  | 1, _ => exact h
  | 2, _ => exact h
  | 3, _ => exact h
  | 4, _ => exact h
def padT (l : List UInt8) : List UInt8 := [128] ++ List.replicate (zpad l.length) 0 ++ lenB l.length
theorem padL_eq2 (l : List UInt8) : padL l = l ++ padT l := by simp [padL, padT]
theorem rest_pad (l : List UInt8) : restOf l ++ [128] ++ List.replicate (zpad l.length) 0 ++ (lenB l.length).take 8 = (padL l).drop (64 * (l.length / 64)) := by
  rw [show (lenB l.length).take 8 = lenB l.length from rfl, padL_eq2, List.drop_append_of_le_length (by omega), restOf, padT]
  simp
theorem hst_pad (l : List UInt8) : hst l = blocksS (padL l) (l.length / 64) := by rw [padL_eq2, blocksS_app (by omega)]; rfl
theorem rest0 (r : List UInt8) : flatC [] ++ bvs r ++ flatC [.int .u8 128] = bvs (r ++ [128] ++ List.replicate 0 0) := by simp [bvs, flatC, Value.cells, bv]
theorem flat_put (x : Int) : flatC [.int .u8 (IntKind.u8.wrap (x.fdiv (2 ^ 24))), .int .u8 (IntKind.u8.wrap (x.fdiv (2 ^ 16))), .int .u8 (IntKind.u8.wrap (x.fdiv (2 ^ 8))), .int .u8 (IntKind.u8.wrap x)] = put32 x := by
  simp [flatC, Value.cells, put32]
theorem ct_hSum (g : GW) (hb : Nat) (v : Value) (l : List UInt8) (hl : l.length ≤ 1000000000) :
    Ct Tryz.prog g 280 [.pointer (some ⟨hb, 0, none⟩), .slice none 0 0] (hashA hb v l) (fun r g' H' => Shp r 20 ∧ H' = own r 1 5 (bvs (sha1L l)) :: hashA hb v l) := by
  have hrl : (restOf l).length = l.length - 64 * (l.length / 64) := by unfold restOf; rw [List.length_drop]
  have hz64 : zpad l.length < 64 := by unfold zpad; omega
  have hlb := lenB_length l.length
  have hmod := padL_mod l
  have hplen := padL_length l
  refine CI Tryz.func280 Tryz.ntmps280 rfl fun F g0 hg0 => ?_
  refine SR (La rfl (nS (T_seq (T_regionD 17 Tryz.mixed rfl (K0 (K0 (K0 .nil))) (Dp 0 rfl (p_move rfl) (Dp 1 rfl (p_nilCheck rfl) (Dp 2 rfl (p_fieldAddr rfl Tryz.runUnderlying164 rfl Tryz.sizeOf109 rfl) (Dp 3 rfl (p_loadN (vs := s5l (hst l)) rfl Tryz.isAgg109 Tryz.sizeOf109 (.head _) rfl (fun i v h => sh_get h)) (Dp 5 rfl (p_move rfl) ?_)))))))))
  refine Dp 6 rfl (p_nilCheck rfl) (Dp 7 rfl (p_fieldAddr rfl Tryz.runUnderlying164 rfl Tryz.sizeOf25 rfl) (Dp 8 rfl (p_load rfl Tryz.isAgg25 (.head _) rfl) (Dp 10 rfl (p_move rfl) (Dp 11 rfl (p_nilCheck rfl) (Dp 12 rfl (p_fieldAddr rfl Tryz.runUnderlying164 rfl Tryz.sizeOf108 rfl) (Dp 13 rfl (p_load rfl Tryz.isAgg108 (.head _) rfl) (DK 4 rfl (e_buildSlice rfl rfl rfl Tryz.runUnderlying25 Tryz.sizeOf5 Tryz.zeroValue5 rfl (by simp [Value.cells])) ?_)))))))
  rintro _ _ _ - ⟨q, rfl, rfl⟩
  refine ⟨_, (K1 (K1 (K1 .nil))), ?_⟩
  refine TD_shp (.tail _ (.head _)) (fun mo hmo hml => ?_)
  rw [bvs_length] at hml
  refine DK 9 rfl (e_append (by_ := 1) rfl rfl rfl rfl Tryz.runUnderlying25 Tryz.runUnderlying25 (.inr ⟨_, rfl⟩) Tryz.sizeOf5 Tryz.zeroValue5 rfl Tryz.typeInfo5 rfl (by decide) (by decide) (src_own hmo (by rw [bvs_length, hml]) (.tail _ (.head _))) (by simp [bvs_length, flatC]; omega) (K3 .nil) (bvs_one _)) ?_
  rintro v1 _ _ - ⟨n_v1, hs_v1, hn_v1, rfl⟩
  refine ⟨_, (K1 (K1 (K1 .nil))), ?_⟩
  obtain ⟨ta, tn, tc, hveq⟩ := Shp.is hs_v1
  subst hveq
  refine Dp 14 rfl (p_build (cells := shC (hst l) (.slice ta tn tc) l.length) rfl (by kernel_rfl)) (DK 15 rfl (e_box rfl rfl) ?_)
  rintro _ _ _ - ⟨eb, rfl, rfl⟩
  refine ⟨_, (K1 (K1 (K1 .nil))), ?_⟩
  refine Dp 16 rfl (p_assign rfl) (DD (E_seq (SR (Lm rfl (Ln rfl (Lf rfl Tryz.runUnderlying164 rfl Tryz.sizeOf108 rfl (Lp (p_load rfl Tryz.isAgg108 (.head _) rfl) (Lp (p_mul rfl rfl (wrU64 (by omega) (by omega))) (La rfl ?_)))))))))
  refine nSR (Lm rfl (Lm rfl (Ln rfl (Lf rfl Tryz.runUnderlying164 rfl Tryz.sizeOf25 rfl (Lp (p_load rfl Tryz.isAgg25 (.tail _ (.tail _ (.tail _ (.head _)))) rfl) (Lk (e_buildSlice rfl rfl rfl Tryz.runUnderlying25 Tryz.sizeOf5 Tryz.zeroValue5 rfl (by simp [Value.cells])) ?_))))))
  rintro _ _ _ - ⟨z8, rfl, rfl⟩
  refine Lk (e_append (by_ := 1) rfl rfl rfl rfl Tryz.runUnderlying25 Tryz.runUnderlying25 (.inr ⟨_, rfl⟩) Tryz.sizeOf5 Tryz.zeroValue5 rfl Tryz.typeInfo5 rfl (by decide) (by decide) (src_ownS rfl (.head _)) (by simp [bvs_length, flatC, Value.cells]; omega) (K5 .nil) (by simp [flatC, Value.cells, Value.oneCell'])) ?_
  rintro v2 _ _ - ⟨n_v2, hs_v2, hn_v2, rfl⟩
  refine Ln rfl (Lf rfl Tryz.runUnderlying164 rfl Tryz.sizeOf25 rfl (TL_k0 (e_store1 rfl rfl Tryz.sizeOf25 (Shp.one hs_v2) (K5 .nil) rfl rfl rfl) ?_))
  rintro _ _ _ - ⟨rfl, rfl⟩
  refine nS (T_seq (T_block ?_))
  rw [rest0]
  refine T_loop (ι := Nat × Value) (fun x _ => x.1 ≤ zpad l.length) (fun x => [(1, .slice none 0 0), (5, .pointer (some ⟨eb, 0, none⟩)), (6, .int .u64 ((l.length : Int) * 8))]) (fun x => [blk hb (.cells (shC (hst l) v l.length) 164), own v 1 5 (bvs (restOf l)), blk eb (.cells (shC (hst l) x.2 l.length) 164), own x.2 1 5 (bvs (restOf l ++ [128] ++ List.replicate x.1 0)), F]) (fun x => zpad l.length - x.1) ((0, v2)) (fun g' hl => by simp) (by repeat (first | exact SubL.nil | refine SubL.cons rfl ?_)) (K3 (K3 (K0 (K0 (K1 .nil))))) ?_
  rintro ⟨z, u⟩ gA hlgA hz
  try dsimp only
  try dsimp only at hz
  refine T_seq (SR (Lm rfl (Ln rfl (Lf rfl Tryz.runUnderlying164 rfl Tryz.sizeOf25 rfl (Lp (p_load rfl Tryz.isAgg25 (.tail _ (.tail _ (.head _))) rfl) (TL_shp (.tail _ (.tail _ (.tail _ (.head _)))) (fun m hm hml => ?_)))))))
  replace hml : m = l.length - 64 * (l.length / 64) + 1 + z := by simp [bvs_length] at hml; omega
  refine Lp (p_len hm rfl rfl Tryz.runUnderlying25) (Lp (p_rem rfl rfl (by decide) (remN m 64)) (Lp (p_neq rfl rfl) (nS (T_condD rfl (fun hc8 => ?_) (fun hc8 => ?_)))))
  ·
    replace hc8 : z < zpad l.length := by unfold zpad at *; omega
    refine kS (T_block (T_region (Lm rfl (Lm rfl (Ln rfl (Lf rfl Tryz.runUnderlying164 rfl Tryz.sizeOf25 rfl (Lp (p_load rfl Tryz.isAgg25 (.tail _ (.tail _ (.head _))) rfl) (Lk (e_buildSlice rfl rfl rfl Tryz.runUnderlying25 Tryz.sizeOf5 Tryz.zeroValue5 rfl (by simp [Value.cells])) ?_))))))))
    rintro _ _ _ - ⟨b9, rfl, rfl⟩
    refine Lk (e_append (by_ := 1) rfl rfl rfl rfl Tryz.runUnderlying25 Tryz.runUnderlying25 (.inr ⟨_, rfl⟩) Tryz.sizeOf5 Tryz.zeroValue5 rfl Tryz.typeInfo5 rfl (by decide) (by decide) (src_ownS rfl (.head _)) (by simp [bvs_length, flatC, Value.cells]; omega) (K4 .nil) (by simp [flatC, Value.cells, Value.oneCell'])) ?_
    rintro v3 _ _ - ⟨n_v3, hs_v3, hn_v3, rfl⟩
    refine Ln rfl (Lf rfl Tryz.runUnderlying164 rfl Tryz.sizeOf25 rfl (TL_k0 (e_store1 rfl rfl Tryz.sizeOf25 (Shp.one hs_v3) (K4 .nil) rfl rfl rfl) ?_))
    rintro _ _ _ - ⟨rfl, rfl⟩
    refine TL_nil (E_block ?_)
    rw [pz_snoc]
    refine EL (.refl _) ((z + 1, v3)) ?hm ?hI ((K3 (K3 (K0 (K0 (K1 .nil))))))
    case hm => exact (by omega)
    case hI => exact (fun g' hl => by omega)
  ·
    obtain rfl : z = zpad l.length := by unfold zpad at *; omega
    refine T_exit (E_seq_exit (E_loop_exit (E_block_hit (E_seq (T_seq (SR (La rfl (nS (T_block ?_)))))))))
    rw [← List.append_nil (restOf l ++ [128] ++ List.replicate (zpad l.length) 0)]
    refine T_loop (ι := Nat × Value) (fun x _ => x.1 ≤ 8) (fun x => [(1, .slice none 0 0), (5, .pointer (some ⟨eb, 0, none⟩)), (6, .int .u64 ((l.length : Int) * 8)), (7, .int .i64 (56 - 8 * (x.1 : Int)))]) (fun x => [blk hb (.cells (shC (hst l) v l.length) 164), own v 1 5 (bvs (restOf l)), blk eb (.cells (shC (hst l) x.2 l.length) 164), own x.2 1 5 (bvs (restOf l ++ [128] ++ List.replicate (zpad l.length) 0 ++ (lenB l.length).take x.1)), F]) (fun x => 8 - x.1) ((0, u)) (fun g' hl => by simp) (by repeat (first | exact SubL.nil | refine SubL.cons rfl ?_)) (K0 (K0 (K0 (K0 (K0 .nil))))) ?_
    rintro ⟨j, u⟩ gB hlgB hj
    try dsimp only
    try dsimp only at hj
    refine T_seq (SR (Lm rfl (Lp (p_geq rfl rfl) (nS (T_condD rfl (fun hc13 => ?_) (fun hc13 => ?_))))))
    ·
      replace hc13 : j < 8 := by omega
      refine kS (T_seq (T_block (T_region (Lm rfl (Lm rfl (Ln rfl (Lf rfl Tryz.runUnderlying164 rfl Tryz.sizeOf25 rfl (Lp (p_load rfl Tryz.isAgg25 (.tail _ (.tail _ (.head _))) rfl) (Lm rfl ?_)))))))))
      refine Lm rfl (Lp (p_conv rfl Tryz.runUnderlying3 Tryz.runUnderlying103 (wrU64 (by omega) (by omega))) (Lp (p_shr rfl rfl (by omega) (show min (56 - 8 * (j : Int)).toNat 64 = 56 - 8 * j from by omega) rfl) (Lp (p_conv rfl Tryz.runUnderlying108 Tryz.runUnderlying5 (rfl)) (Lk (e_buildSlice rfl rfl rfl Tryz.runUnderlying25 Tryz.sizeOf5 Tryz.zeroValue5 rfl (by simp [Value.cells])) ?_))))
      rintro _ _ _ - ⟨b14, rfl, rfl⟩
      refine Lk (e_append (by_ := 1) rfl rfl rfl rfl Tryz.runUnderlying25 Tryz.runUnderlying25 (.inr ⟨_, rfl⟩) Tryz.sizeOf5 Tryz.zeroValue5 rfl Tryz.typeInfo5 rfl (by decide) (by decide) (src_ownS rfl (.head _)) (by simp [bvs_length, flatC, Value.cells, lenB_length]; omega) (K4 .nil) (by simp [flatC, Value.cells, Value.oneCell'])) ?_
      rintro v4 _ _ - ⟨n_v4, hs_v4, hn_v4, rfl⟩
      refine Ln rfl (Lf rfl Tryz.runUnderlying164 rfl Tryz.sizeOf25 rfl (TL_k0 (e_store1 rfl rfl Tryz.sizeOf25 (Shp.one hs_v4) (K4 .nil) rfl rfl rfl) ?_))
      rintro _ _ _ - ⟨rfl, rfl⟩
      refine TL_nil (E_block (E_seq (T_region (Lm rfl (Lp (p_sub rfl rfl (wr64 (by omega) (by omega))) (La rfl (TL_nil ?_)))))))
      rw [pl_snoc (by omega)]
      refine E_loop (.refl _) ((j + 1, v4)) ?hm ?hI (by refine SubL.cons rfl (SubL.cons rfl (SubL.cons rfl (SubL.cons ?_ SubL.nil))); exact congrArg (fun z => some (Value.int .i64 z)) (by omega)) ((K3 (K3 (K0 (K0 (K1 .nil))))))
      case hm => exact (by omega)
      case hI => exact (fun g' hl => by omega)
    ·
      obtain rfl : j = 8 := by omega
      refine T_exit (E_seq_exit (E_loop_exit (E_block_hit (E_seq (T_seq (T_block ?_))))))
      rw [rest_pad]
      have hsp := hst_pad l
      rw [show blk eb (.cells (shC (hst l) u l.length) 164) = blk eb (.cells (shC (blocksS (padL l) (l.length / 64)) u l.length) 164) from by rw [hsp]]
      refine T_loop (ι := Nat × Value) (fun x _ => l.length / 64 ≤ x.1 ∧ x.1 ≤ (padL l).length / 64) (fun x => [(1, .slice none 0 0), (5, .pointer (some ⟨eb, 0, none⟩))]) (fun x => [blk hb (.cells (shC (hst l) v l.length) 164), own v 1 5 (bvs (restOf l)), blk eb (.cells (shC (blocksS (padL l) x.1) x.2 l.length) 164), own x.2 1 5 (bvs ((padL l).drop (64 * x.1))), F]) (fun x => (padL l).length / 64 - x.1) ((l.length / 64, u)) (fun g' hl => ⟨Nat.le_refl _, by omega⟩) (by repeat (first | exact SubL.nil | refine SubL.cons rfl ?_)) (K0 (K0 (K0 (K0 (K0 .nil))))) ?_
      rintro ⟨m, u⟩ gC hlgC ⟨hm1, hm2⟩
      try dsimp only
      try dsimp only at hm1 hm2
      refine T_seq (SR (Lm rfl (Ln rfl (Lf rfl Tryz.runUnderlying164 rfl Tryz.sizeOf25 rfl (Lp (p_load rfl Tryz.isAgg25 (.tail _ (.tail _ (.head _))) rfl) (TL_shp (.tail _ (.tail _ (.tail _ (.head _)))) (fun mo hmo hml => ?_)))))))
      rw [bvs_length, List.length_drop] at hml
      refine Lp (p_len hmo rfl rfl Tryz.runUnderlying25) (Lp (p_geq rfl rfl) (nS (T_condD rfl (fun hc18 => ?_) (fun hc18 => ?_))))
      ·
        have hm64 : 64 * m + 64 ≤ (padL l).length := by omega
        refine kS (T_block (SR (Lm rfl (Lm rfl (Ln rfl (Lf rfl Tryz.runUnderlying164 rfl Tryz.sizeOf25 rfl (Lp (p_load rfl Tryz.isAgg25 (.tail _ (.tail _ (.head _))) rfl) (Lp (p_slH (b := 64) hmo rfl Tryz.runUnderlying25 Tryz.sizeOf5 rfl rfl (by omega) rfl) ?_))))))))
        refine Lk (e_call rfl (ct_step gC eb u mo _ _ _ hmo (by rw [List.length_drop]; omega) (by rw [List.length_drop]; omega)) (K2 (K2 .nil))) ?_
        rintro _ _ _ - ⟨_, rfl, ⟨rfl, rfl⟩⟩
        refine nR (Lm rfl (Lm rfl (Ln rfl (Lf rfl Tryz.runUnderlying164 rfl Tryz.sizeOf25 rfl (Lp (p_load rfl Tryz.isAgg25 (.head _) rfl) (Lp (p_slL (a := 64) hmo rfl Tryz.runUnderlying25 Tryz.sizeOf5 rfl rfl (by omega) rfl) (Ln rfl (Lf rfl Tryz.runUnderlying164 rfl Tryz.sizeOf25 rfl (TL_slAt (a := 64) (K1 .nil) hmo (by omega) ?_)))))))))
        refine TL_k0 (e_store1 rfl rfl Tryz.sizeOf25 (Shp.one (hmo.sl (a := 64) (sz := 1) (by omega) (Nat.le_refl _))) (K1 .nil) rfl rfl rfl) ?_
        rintro _ _ _ - ⟨rfl, rfl⟩
        refine TL_nil (E_block ?_)
        rw [stepL_at, show (bvs ((padL l).drop (64 * m))).drop (64 * 1) = bvs ((padL l).drop (64 * (m + 1))) from by rw [bvs, ← List.map_drop, List.drop_drop]; rfl]
        refine EL (.refl _) ((m + 1, _)) ?hm ?hI ((K2 (K2 (K0 (K0 (K0 .nil))))))
        case hm => exact (by omega)
        case hI => exact (fun g' hl => by omega)
      ·
        obtain rfl : m = (padL l).length / 64 := by omega
        refine T_exit (E_seq_exit (E_loop_exit (E_block_hit (E_seq (T_seq (SR (TL_nilS 1 5 (Lm rfl (Ln rfl ?_)))))))))
        refine Lf rfl Tryz.runUnderlying164 rfl Tryz.sizeOf109 rfl (Lp (p_loadN (vs := s5l (blocksS (padL l) ((padL l).length / 64))) rfl Tryz.isAgg109 Tryz.sizeOf109 (.tail _ (.tail _ (.tail _ (.head _)))) rfl (fun i v h => sh_get h)) (Lm rfl (nS (T_block (T_loop (ι := Nat × Value) (fun x _ => x.1 ≤ 5) (fun x => [(1, x.2), (98, .agg (s5l (blocksS (padL l) ((padL l).length / 64))).toArray), (99, .int .i64 x.1)]) (fun x => [blk hb (.cells (shC (hst l) v l.length) 164), own v 1 5 (bvs (restOf l)), own x.2 1 5 (bvs (((s5i (blocksS (padL l) ((padL l).length / 64))).take x.1).flatMap putB)), F]) (fun x => 5 - x.1) ((0, _)) (fun g' hl => by simp) (by repeat (first | exact SubL.nil | refine SubL.cons rfl ?_)) (K1 (K1 (K0 (K2 .nil)))) ?_)))))
        rintro ⟨k, w⟩ gH hlgH hk
        try dsimp only
        try dsimp only at hk
        refine SR (Lp (p_lss rfl rfl) (nS (T_seq (T_condD rfl (fun hc22 => ?_) (fun hc22 => ?_)))))
        ·
          have hk5 : k < 5 := by omega
          refine kS (T_seq (T_block (SR (Lp (p_indexAgg (j := k) rfl rfl Tryz.runUnderlying109 Tryz.isAgg29 Tryz.sizeOf29 (by omega) (by omega) (s5_getA hk5)) (La rfl (nR (Lm rfl (Lm rfl (Lp (p_shr (n := 24) rfl rfl (by decide) rfl rfl) ?_)))))))))
          refine Lp (p_conv rfl Tryz.runUnderlying29 Tryz.runUnderlying5 (rfl)) (Lm rfl (Lp (p_shr (n := 16) rfl rfl (by decide) rfl rfl) (Lp (p_conv rfl Tryz.runUnderlying29 Tryz.runUnderlying5 (rfl)) (Lm rfl (Lp (p_shr (n := 8) rfl rfl (by decide) rfl rfl) (Lp (p_conv rfl Tryz.runUnderlying29 Tryz.runUnderlying5 (rfl)) (Lm rfl (Lp (p_conv rfl Tryz.runUnderlying29 Tryz.runUnderlying5 (rfl)) (Lk (e_buildSlice rfl rfl rfl Tryz.runUnderlying25 Tryz.sizeOf5 Tryz.zeroValue5 rfl (by simp [Value.cells])) ?_)))))))))
          rintro _ _ _ - ⟨pb, rfl, rfl⟩
          refine Lk (e_append (by_ := 1) rfl rfl rfl rfl Tryz.runUnderlying25 Tryz.runUnderlying25 (.inr ⟨_, rfl⟩) Tryz.sizeOf5 Tryz.zeroValue5 rfl Tryz.typeInfo5 rfl (by decide) (by decide) (src_ownS rfl (.head _)) (by rw [s5_len _ _ (by omega), flat_put]; show (4 * k + 4) * 1 ≤ _; omega) (K3 .nil) (by simp [flatC, Value.cells, Value.oneCell'])) ?_
          rintro v24 _ _ - ⟨n_v24, hs_v24, hn_v24, rfl⟩
          refine La rfl (TL_nil (E_block (E_seq (T_region (Lp (p_add rfl rfl (wr64 (by omega) (by omega))) (Lm rfl (TL_nil ?_)))))))
          rw [flat_put, s5_take hk5]
          refine EL (.refl _) ((k + 1, _)) ?hm ?hI ((K2 (K2 (K0 (K1 .nil)))))
          case hm => exact (by omega)
          case hI => exact (fun g' hl => by omega)
        ·
          obtain rfl : k = 5 := by omega
          refine T_exit (E_seq_exit (E_loop_exit (E_block_hit (E_seq (SR (TL_shp (.tail _ (.tail _ (.head _))) (fun m5 hm5 hml5 => ?_)))))))
          rw [s5_len _ _ (by omega)] at hml5
          obtain rfl : m5 = 20 := by omega
          refine Lm rfl (La rfl (nr (E_ret1 [_, _, _] rfl (((hlgA.trans hlgB).trans hlgC).trans hlgH) rfl (K2 (K0 (K0 (K0 .nil)))) (fun g' hl => ?_))))
          exact ⟨hm5, rfl⟩
end Go.Proofs.YtolddodhmeaceaaGreatDoor
namespace Go.Proofs.YtolddodhmeaceaaGreatDoor
open Go.Hl Go.Pk
def SkCrc (cb : Nat) (n : Nat) (S : Atom) : Prop := ∃ z, S = blk cb (.cells (crcC z) 119)
theorem wr_crc (g : GW) (cb : Nat) : Wr Tryz.prog g (.iface 117 (.pointer (some ⟨cb, 0, none⟩))) (SkCrc cb) := by
  refine ⟨_, _, 265, .pointer (some ⟨cb, 0, none⟩), rfl, (fun w => by kernel_rfl), fun g1 hl1 n S pv p hS hp hn => ?_⟩
  obtain ⟨z, rfl⟩ := hS
  exact (ct_crcWrite g1 cb z pv p hp (by omega)).mono fun r g' H' _ hR => by
    obtain ⟨rfl, z', rfl⟩ := hR
    exact ⟨rfl, _, rfl, z', rfl⟩
def SkHash (hb : Nat) (n : Nat) (S : Atom) : Prop := ∃ v l, l.length = n ∧ S = Hl.many (hashA hb v l)
theorem wr_hash (g : GW) (hb : Nat) : Wr Tryz.prog g (.iface 162 (.pointer (some ⟨hb, 0, none⟩))) (SkHash hb) := by
  refine ⟨_, _, 281, .pointer (some ⟨hb, 0, none⟩), rfl, (fun w => by kernel_rfl), fun g1 hl1 n S pv p hS hp hn => ?_⟩
  obtain ⟨v, l, rfl, rfl⟩ := hS
  exact ((ct_hWrite g1 hb v pv l p hp hn).many).mono fun r g' H' _ hR => by
    obtain ⟨H0, rfl, rfl, v', rfl⟩ := hR
    exact ⟨rfl, _, rfl, v', l ++ p, by simp, rfl⟩
end Go.Proofs.YtolddodhmeaceaaGreatDoor
namespace Go.Proofs.YtolddodhmeaceaaGreatDoor
open Go.Hl Go.Pk
def cs0 (n len k : Nat) : Nat → Nat := fun j => if j < k then n + len else n
theorem cs0_succ (n len k : Nat) : (fun j => if j = k then cs0 n len k k + len else cs0 n len k j) = cs0 n len (k + 1) := by
  funext j
  unfold cs0
  by_cases h : j = k
  · subst h; simp
  · rw [if_neg h]; split <;> split <;> omega
structure Mw (g : GW) (mw : Nat) (ws : List Value) (Q : (Nat → Nat) → Atom → Prop) : Prop where
  at_ : ∃ wsv, Cell g mw 0 wsv ∧ Shp wsv ws.length ∧ Rd g wsv ws
  wr : ∀ k wv, ws[k]? = some wv → WrAt Tryz.prog g k wv Q
theorem Mw.mono {g g' : GW} {mw : Nat} {ws : List Value} {Q : (Nat → Nat) → Atom → Prop} (h : Mw g mw ws Q) (hl : Le g g') : Mw g' mw ws Q :=
  ⟨let ⟨w, h1, h2, h3⟩ := h.at_; ⟨w, h1.mono hl, h2, h3.mono hl⟩, fun k wv hk => (h.wr k wv hk).mono hl⟩
theorem ct_mwWrite (g : GW) (mw : Nat) (ws : List Value) (Q : (Nat → Nat) → Atom → Prop) (hM : Mw g mw ws Q) (n : Nat) (S : Atom) (pv : Value) (p : List UInt8) (hQ : Q (fun _ => n) S) (hp : Bytes g pv p) (hn : n + p.length ≤ 1000000000) (hws : ws.length ≤ 1000000) :
    Ct Tryz.prog g 288 [.pointer (some ⟨mw, 0, none⟩), pv] [S] (fun r g' H' => r = .tuple #[.int .i64 p.length, .nilIface] ∧ ∃ S', H' = [S'] ∧ Q (cs0 n p.length ws.length) S') := by
  obtain ⟨wsv, hw1, hw2, hw3⟩ := hM.at_
  refine CI Tryz.func288 Tryz.ntmps288 rfl fun F g0 hg0 => ?_
  replace hp := hp.mono hg0
  replace hw1 := hw1.mono hg0
  replace hw3 := hw3.mono hg0
  replace hM := hM.mono hg0
  refine SR (La rfl (La rfl (nS (T_seq (SR (Lm rfl (Ln rfl (Lf rfl Tryz.runUnderlying176 rfl Tryz.sizeOf172 rfl (Lp (p_loadF rfl Tryz.isAgg172 hw1) ?_)))))))))
  refine Lp (p_len (hw2) rfl rfl Tryz.runUnderlying172) (Lm rfl (nS (T_block ?_)))
  refine T_loop (ι := Nat × Atom) (fun x _ => x.1 ≤ ws.length ∧ Q (cs0 n p.length x.1) x.2) (fun x => [(1, pv), (11, wsv), (12, .int .i64 ws.length), (13, .int .i64 x.1)]) (fun x => [x.2, F]) (fun x => ws.length - x.1) ((0, S)) (fun g' hl => ⟨Nat.zero_le _, by rw [show cs0 n p.length 0 = fun _ => n from by funext j; simp [cs0]]; exact hQ⟩) (by repeat (first | exact SubL.nil | refine SubL.cons rfl ?_)) (K0 (K0 .nil)) ?_
  rintro ⟨k, S⟩ gA hlgA ⟨hk, hQ⟩
  try dsimp only
  try dsimp only at hk hQ
  replace hp := hp.mono hlgA
  replace hw3 := hw3.mono hlgA
  replace hM := hM.mono hlgA
  refine SR (Lp (p_lss rfl rfl) (nS (T_seq (T_condD rfl (fun hc2 => ?_) (fun hc2 => ?_)))))
  ·
    replace hc2 : k < ws.length := by omega
    obtain ⟨wv, hwk⟩ := get_some hc2
    obtain ⟨t, rv, f, rv', rfl, hm, hc⟩ := hM.wr k wv hwk
    refine kS (T_seq (T_block (SR (Lp (p_ix (hw2) (j := k) rfl rfl Tryz.runUnderlying172 Tryz.sizeOf126 (by omega) (by omega) rfl) ?_))))
    refine Lp (p_ldRd hw3 rfl Tryz.isAgg126 (by rw [Nat.mul_one]; exact hwk)) ?_
    refine La rfl (nSR (Lm rfl (Lm rfl ?_)))
    refine Lk (e_invoke rfl hm rfl (hc gA (.refl _) (cs0 n p.length k) S pv p hQ hp (by simp only [cs0, Nat.lt_irrefl, if_false]; exact hn)) (K0 .nil)) ?_
    rintro _ _ _ - ⟨_, rfl, ⟨rfl, S2, rfl, hQ2⟩⟩
    refine Lm rfl (Lx rfl rfl (Lx rfl rfl (La rfl (La rfl (nS (T_seq (SR (Lm rfl (Lp (p_neqNN rfl Tryz.underlying64) ?_)))))))))
    refine nS (T_cond rfl (fun hc4 => ?_) (fun hc4 => ?_))
    ·
      cases hc4
    ·
      skip
      refine kS (SR (Lm rfl (Lm rfl (Lp (p_len (hp.1) rfl rfl Tryz.runUnderlying25) (Lp (p_neq rfl rfl) (nS (T_condD rfl (fun hc5 => ?_) (fun hc5 => ?_))))))))
      ·
        exact absurd rfl hc5
      ·
        skip
        refine T_skip (E_block (E_seq (T_region (Lp (p_add rfl rfl (wr64 (by omega) (by omega))) (Lm rfl (TL_nil (EL (.refl _) ((k + 1, S2)) ?hm ?hI ((K0 (K0 .nil))))))))))
        case hm => exact (by omega)
        case hI => exact (fun g' hl => ⟨by dsimp only; omega, by rw [cs0_succ] at hQ2; exact hQ2⟩)
  ·
    obtain rfl : k = ws.length := by omega
    refine T_exit (E_seq_exit (E_loop_exit (E_block_hit (E_seq (SR (Lm rfl (Lp (p_len (hp.1) rfl rfl Tryz.runUnderlying25) (La rfl (La rfl ?_)))))))))
    refine nr (E_ret2 [_] rfl hlgA rfl rfl (K0 (K0 .nil)) (fun g' hl => ?_))
    exact ⟨rfl, S, rfl, hQ⟩
theorem wr_mw1 {g : GW} {mw : Nat} {w1 : Value} {Sk : Nat → Atom → Prop} (h : Mw g mw [w1] (Q1 Sk)) : Wr Tryz.prog g (.iface 173 (.pointer (some ⟨mw, 0, none⟩))) Sk := by
  refine ⟨_, _, 288, .pointer (some ⟨mw, 0, none⟩), rfl, (fun w => by kernel_rfl), fun g1 hl1 n S pv p hS hp hn => ?_⟩
  exact (ct_mwWrite g1 mw [w1] (Q1 Sk) (h.mono hl1) n S pv p hS hp hn (by simp)).mono fun r g' H' _ hR => by
    obtain ⟨rfl, S', rfl, hQ⟩ := hR
    exact ⟨rfl, S', rfl, by simpa [Q1, cs0] using hQ⟩
def Sk2 (Sk Sk' : Nat → Atom → Prop) (n : Nat) (S : Atom) : Prop := Q2 Sk Sk' (fun _ => n) S
theorem wr_mw2 {g : GW} {mw : Nat} {w1 w2 : Value} {Sk Sk' : Nat → Atom → Prop} (h : Mw g mw [w1, w2] (Q2 Sk Sk')) : Wr Tryz.prog g (.iface 173 (.pointer (some ⟨mw, 0, none⟩))) (Sk2 Sk Sk') := by
  refine ⟨_, _, 288, .pointer (some ⟨mw, 0, none⟩), rfl, (fun w => by kernel_rfl), fun g1 hl1 n S pv p hS hp hn => ?_⟩
  exact (ct_mwWrite g1 mw [w1, w2] (Q2 Sk Sk') (h.mono hl1) n S pv p hS hp hn (by simp)).mono fun r g' H' _ hR => by
    obtain ⟨rfl, S', rfl, A, B, rfl, hA, hB⟩ := hR
    exact ⟨rfl, _, rfl, A, B, rfl, by simpa [cs0] using hA, by simpa [cs0] using hB⟩
def bwC (er bv : Value) (n : Nat) (wv : Value) : Array Value := #[er, bv, .int .i64 n, wv]
theorem ct_available (g : GW) (wb : Nat) (er bv wv : Value) (n : Nat) (hbv : Shp bv 64) (hn : n ≤ 64) : Ct Tryz.prog g 186 [.pointer (some ⟨wb, 0, none⟩)] [blk wb (.cells (bwC er bv n wv) 258)]
    (fun r g' H' => r = .int .i64 ((64 - n : Nat) : Int) ∧ H' = [blk wb (.cells (bwC er bv n wv) 258)]) := by
  refine CI Tryz.func186 Tryz.ntmps186 rfl fun F g0 hg0 => ?_
  refine SR (La rfl (nS (T_seq (T_regionD 11 Tryz.mixed rfl Part.all (Dp 0 rfl (p_move rfl) (Dp 1 rfl (p_nilCheck rfl) (Dp 2 rfl (p_fieldAddr rfl Tryz.runUnderlying258 rfl Tryz.sizeOf25 rfl) (Dp 3 rfl (p_load rfl Tryz.isAgg25 (.head _) rfl) (Dp 4 rfl (p_len (hbv) rfl rfl Tryz.runUnderlying25) ?_)))))))))
  refine Dp 5 rfl (p_move rfl) (Dp 6 rfl (p_nilCheck rfl) (Dp 7 rfl (p_fieldAddr rfl Tryz.runUnderlying258 rfl Tryz.sizeOf3 rfl) (Dp 8 rfl (p_load rfl Tryz.isAgg3 (.head _) rfl) ?_)))
  refine Dp 9 rfl (p_sub rfl rfl ((show IntKind.i64.wrap ((64 : Nat) - (n : Int)) = ((64 - n : Nat) : Int) from by rw [wr64 (by omega) (by omega)]; omega))) ?_
  refine Dp 10 rfl (p_assign rfl) (DD (E_seq (T_ret (E_ret1 [_] rfl (.refl _) rfl (K0 (K0 .nil)) (fun g' hl => ?_)))))
  exact ⟨rfl, rfl⟩
theorem ct_buffered (g : GW) (wb : Nat) (er bv wv : Value) (n : Nat) : Ct Tryz.prog g 276 [.pointer (some ⟨wb, 0, none⟩)] [blk wb (.cells (bwC er bv n wv) 258)]
    (fun r g' H' => r = .int .i64 (n : Int) ∧ H' = [blk wb (.cells (bwC er bv n wv) 258)]) := by
  refine CI Tryz.func276 Tryz.ntmps276 rfl fun F g0 hg0 => ?_
  refine SR (La rfl (nSR (Lm rfl (Ln rfl (Lf rfl Tryz.runUnderlying258 rfl Tryz.sizeOf3 rfl (Lp (p_load rfl Tryz.isAgg3 (.head _) rfl) (La rfl (nr (E_ret1 [_] rfl (.refl _) rfl (K0 (K0 .nil)) (fun g' hl => ?_))))))))))
  exact ⟨rfl, rfl⟩
theorem ct_flush (g : GW) (wb : Nat) (bv wv : Value) (n s : Nat) (bl : List UInt8) (S : Atom) (Sk : Nat → Atom → Prop) (hW : Wr Tryz.prog g wv Sk) (hbv : Shp bv 64) (hbl : bl.length = 64) (hn : n ≤ 64) (hS : Sk s S) (hs : s + n ≤ 1000000000) :
    Ct Tryz.prog g 89 [.pointer (some ⟨wb, 0, none⟩)] [blk wb (.cells (bwC .nilIface bv n wv) 258), own bv 1 5 (bvs bl), S]
      (fun r g' H' => r = .nilIface ∧ ∃ S', H' = [blk wb (.cells (bwC .nilIface bv 0 wv) 258), own bv 1 5 (bvs bl), S'] ∧ Sk (s + n) S') := by
  obtain ⟨t, rv, f, rv', rfl, hm, hc⟩ := hW.bf
  refine CI Tryz.func89 Tryz.ntmps89 rfl fun F g0 hg0 => ?_
  refine SR (La rfl (nS (T_seq (SR (Lm rfl (Ln rfl (Lf rfl Tryz.runUnderlying258 rfl Tryz.sizeOf64 rfl (Lp (p_load rfl Tryz.isAgg64 (.head _) rfl) (Lp (p_neqNN rfl Tryz.underlying64) ?_)))))))))
  refine nS (T_cond rfl (fun hc1 => ?_) (fun hc1 => ?_))
  ·
    cases hc1
  ·
    skip
    refine kS (T_seq (SR (Lm rfl (Ln rfl (Lf rfl Tryz.runUnderlying258 rfl Tryz.sizeOf3 rfl (Lp (p_load rfl Tryz.isAgg3 (.head _) rfl) (Lp (p_eql rfl rfl) (nS (T_condD rfl (fun hc2 => ?_) (fun hc2 => ?_))))))))))
    ·
      obtain rfl : n = 0 := by omega
      refine SR (La rfl (nr (E_seq_ret (E_ret1 [_, _, _] rfl (.refl _) rfl (K0 (K0 (K0 (K0 .nil)))) (fun g' hl => ?_)))))
      exact ⟨rfl, S, rfl, by simpa using hS⟩
    ·
      skip
      refine kS (T_seq (T_regionD 21 Tryz.mixed rfl (K0 (K2 .nil)) (Dp 0 rfl (p_move rfl) (Dp 1 rfl (p_nilCheck rfl) (Dp 2 rfl (p_fieldAddr rfl Tryz.runUnderlying258 rfl Tryz.sizeOf126 rfl) (Dp 3 rfl (p_load rfl Tryz.isAgg126 (.head _) rfl) (Dp 4 rfl (p_move rfl) (Dp 5 rfl (p_nilCheck rfl) (Dp 6 rfl (p_fieldAddr rfl Tryz.runUnderlying258 rfl Tryz.sizeOf25 rfl) ?_)))))))))
      refine Dp 7 rfl (p_load rfl Tryz.isAgg25 (.head _) rfl) (Dp 8 rfl (p_move rfl) (Dp 9 rfl (p_nilCheck rfl) (Dp 10 rfl (p_fieldAddr rfl Tryz.runUnderlying258 rfl Tryz.sizeOf3 rfl) (Dp 11 rfl (p_load rfl Tryz.isAgg3 (.head _) rfl) (Dp 12 rfl (p_slLH (a := 0) (b := n) hbv rfl Tryz.runUnderlying25 Tryz.sizeOf5 rfl rfl rfl rfl (by omega) (by omega) rfl) (Dp 13 rfl (p_nilCheckI rfl) (Dp 14 rfl (p_move rfl) (DK 15 rfl (e_invoke rfl hm rfl (hc g0 hg0 s S bv 64 (fun ys => own bv 1 5 (bvs ys)) bl 0 n hS (Bf.own 5 hbv) hbl (by omega) (by omega) (by omega)) (K2 (K2 .nil))) ?_))))))))
      rintro _ _ _ - ⟨_, rfl, ⟨rfl, S2, rfl, hS2⟩⟩
      refine ⟨_, (K2 (K2 .nil)), ?_⟩
      refine Dp 16 rfl (p_move rfl) (Dp 17 rfl (p_extractL rfl rfl) (Dp 18 rfl (p_extractL rfl rfl) (Dp 19 rfl (p_assign rfl) (Dp 20 rfl (p_assign rfl) (DD (E_seq (T_seq (SR (Lm rfl ?_)))))))))
      refine Lm rfl (Ln rfl (Lf rfl Tryz.runUnderlying258 rfl Tryz.sizeOf3 rfl (Lp (p_load rfl Tryz.isAgg3 (.head _) rfl) (Lp (p_lss rfl rfl) (Lm rfl (TL_splitD 44 rfl (fun hg4 => ?_) (fun hg4 => ?_)))))))
      ·
        exact absurd hg4 (by omega)
      ·
        refine Ls (Ls (Lp (p_pickF rfl rfl) (nS (T_condF rfl (kS (T_seq (SR (Lm rfl (Lp (p_neqNN rfl Tryz.underlying64) ?_)))))))))
        refine nS (T_cond rfl (fun hc5 => ?_) (fun hc5 => ?_))
        ·
          cases hc5
        ·
          skip
          refine kS (SR (Lm rfl (Ln rfl (Lf rfl Tryz.runUnderlying258 rfl Tryz.sizeOf3 rfl (TL_k0 (e_store1 rfl rfl Tryz.sizeOf3 rfl (K0 .nil) rfl rfl rfl) ?_)))))
          rintro _ _ _ - ⟨rfl, rfl⟩
          refine nSR (La rfl (nr (E_ret1 [_, _, _] rfl (.refl _) rfl (K0 (K1 (K1 (K0 .nil)))) (fun g' hl => ?_))))
          exact ⟨rfl, S2, rfl, by simpa using hS2⟩
end Go.Proofs.YtolddodhmeaceaaGreatDoor
namespace Go.Proofs.YtolddodhmeaceaaGreatDoor
open Go.Hl Go.Pk
/-- A bufio.Writer: n bytes wait, the sink took s of them. -/
structure BwS where
  bl : List UInt8
  n : Nat
  s : Nat
  S : Atom
structure BwOk (Sk : Nat → Atom → Prop) (x : BwS) (tot : Nat) : Prop where
  len : x.bl.length = 64
  n : x.n ≤ 64
  sk : Sk x.s x.S
  tot : x.s + x.n = tot
def bwA (wb : Nat) (bv wv : Value) (x : BwS) : List Atom := [blk wb (.cells (bwC .nilIface bv x.n wv) 258), own bv 1 5 (bvs x.bl), x.S]
theorem ct_bwWriteX (g : GW) (wb : Nat) (bv wv pv : Value) (p bl : List UInt8) (n s tot : Nat) (S : Atom) (Sk : Nat → Atom → Prop) (hW : Wr Tryz.prog g wv Sk) (hbv : Shp bv 64) (hok : BwOk Sk ⟨bl, n, s, S⟩ tot) (hp : Bytes g pv p) (ht : tot + p.length ≤ 1000000000) :
    Ct Tryz.prog g 274 [.pointer (some ⟨wb, 0, none⟩), pv] [blk wb (.cells (bwC .nilIface bv n wv) 258), own bv 1 5 (bvs bl), S]
      (fun r _ H' => r = .tuple #[.int .i64 p.length, .nilIface] ∧ ∃ x, BwOk Sk x (tot + p.length) ∧ H' = bwA wb bv wv x) := by
  have ho1 := hok.len; have ho2 := hok.n; have ho3 := hok.sk; have ho4 := hok.tot
  dsimp only at ho1 ho2 ho3 ho4
  refine CI Tryz.func274 Tryz.ntmps274 rfl fun F g0 hg0 => ?_
  replace hp := hp.mono hg0
  replace hW := hW.mono hg0
  refine SR (La rfl (La rfl (nS (T_seq (T_block (T_loop (ι := Nat × Value × Nat × List UInt8 × Nat × Atom) (fun x g' => x.1 ≤ p.length ∧ Bytes g' x.2.1 (p.drop x.1) ∧ x.2.2.1 ≤ 64 ∧ x.2.2.2.1.length = 64 ∧ Sk x.2.2.2.2.1 x.2.2.2.2.2 ∧ x.2.2.2.2.1 + x.2.2.1 = tot + x.1) (fun x => [(0, .pointer (some ⟨wb, 0, none⟩)), (1, x.2.1), (4, .int .i64 x.1)]) (fun x => [blk wb (.cells (bwC .nilIface bv x.2.2.1 wv) 258), own bv 1 5 (bvs x.2.2.2.1), x.2.2.2.2.2, F]) (fun x => 2 * (p.length - x.1) + (if 0 < x.2.2.1 then 1 else 0)) ((0, pv, n, bl, s, S)) (fun g' hl => ⟨Nat.zero_le _, hp.mono hl, ho2, ho1, ho3, ho4⟩) (by repeat (first | exact SubL.nil | refine SubL.cons rfl ?_)) (K0 (K0 (K0 (K0 .nil)))) ?_))))))
  rintro ⟨j, u, n, bl, s, S⟩ gA hlgA ⟨hj, hu, hn, hbl, hS, hst⟩
  try dsimp only
  try dsimp only at hj hu hn hbl hS hst
  replace hW := hW.mono hlgA
  obtain ⟨t, rv, f, rv', rfl, hm, hc⟩ := id hW
  obtain ⟨m, hm2⟩ : ∃ m, m = (p.drop j).length := ⟨_, rfl⟩
  have hm3 : m = p.length - j := by rw [hm2, List.length_drop]
  refine T_seq (SR (Lm rfl (Lp (p_len hu.1 rfl rfl Tryz.runUnderlying25) (Lm rfl (Lk (e_call rfl (ct_available gA wb .nilIface bv (.iface t rv) n hbv hn) (K0 .nil)) ?_)))))
  rintro _ _ _ - ⟨_, rfl, ⟨rfl, rfl⟩⟩
  refine Lp (p_gtr rfl rfl) (Lm rfl (TL_splitD 13 rfl (fun hg3 => ?_) (fun hg3 => ?_)))
  ·
    refine Lg (p_move rfl) (Lg (p_nilCheck rfl) (Lg (p_fieldAddr rfl Tryz.runUnderlying258 rfl Tryz.sizeOf64 rfl) (Lg (p_load rfl Tryz.isAgg64 (.head _) rfl) (Lg (p_eqlNN rfl Tryz.underlying64) (Lp (p_pickT rfl rfl) (nS (T_cond rfl (fun hc4 => ?_) (fun hc4 => ?_))))))))
    ·
      skip
      refine kS (T_block (SR (La rfl (nS (T_cut (ι := Nat × Nat × List UInt8 × Nat × Atom) (fun x _ => x.1 ≤ m ∧ x.2.1 ≤ 64 ∧ x.2.2.1.length = 64 ∧ Sk x.2.2.2.1 x.2.2.2.2 ∧ x.2.2.2.1 + x.2.1 = tot + j + x.1 ∧ 2 * (m - x.1) + (if 0 < x.2.1 then 1 else 0) < 2 * m + (if 0 < n then 1 else 0)) (fun x => [(0, .pointer (some ⟨wb, 0, none⟩)), (1, u), (4, .int .i64 j), (6, .int .i64 x.1)]) (fun x => [blk wb (.cells (bwC .nilIface bv x.2.1 (.iface t rv)) 258), own bv 1 5 (bvs x.2.2.1), x.2.2.2.2, F]) ?_ ?_)))))
      ·
        refine SR (Lm rfl (Lk (e_call rfl (ct_buffered gA wb .nilIface bv (.iface t rv) n) (K0 .nil)) ?_))
        rintro _ _ _ - ⟨_, rfl, ⟨rfl, rfl⟩⟩
        refine Lp (p_eql rfl rfl) (nS (T_condD rfl (fun hc6 => ?_) (fun hc6 => ?_)))
        ·
          obtain rfl : n = 0 := by omega
          refine T_region (Lm rfl (Lm rfl (Ln rfl (Lf rfl Tryz.runUnderlying258 rfl Tryz.sizeOf126 rfl (Lp (p_load rfl Tryz.isAgg126 (.head _) rfl) (Lm rfl (Lk (e_invoke rfl hm rfl (hc gA (.refl _) s S u (p.drop j) hS hu (by omega)) (K2 .nil)) ?_)))))))
          rintro _ _ _ - ⟨_, rfl, ⟨rfl, S2, rfl, hS2⟩⟩
          refine Lm rfl (Lx rfl rfl (Lx rfl rfl (La rfl (Ln rfl (Lf rfl Tryz.runUnderlying258 rfl Tryz.sizeOf64 rfl (TL_k0 (e_store1 rfl rfl Tryz.sizeOf64 rfl (K1 .nil) rfl rfl rfl) ?_))))))
          rintro _ _ _ - ⟨rfl, rfl⟩
          refine TL_nil (EC (.refl _) (((p.drop j).length, 0, bl, s + (p.drop j).length, S2)) ?hI (K0 (K1 (K0 (K0 .nil)))))
          case hI => intro g' hl; exact ⟨by dsimp only; omega, by dsimp only; omega, hbl, hS2, by dsimp only; omega, by dsimp only; rw [if_neg (by omega)]; omega⟩
        ·
          skip
          refine T_seq (T_regionD 12 Tryz.mixed rfl (K0 (K1 (K1 .nil))) (Dp 0 rfl (p_move rfl) (Dp 1 rfl (p_nilCheck rfl) (Dp 2 rfl (p_fieldAddr rfl Tryz.runUnderlying258 rfl Tryz.sizeOf25 rfl) (Dp 3 rfl (p_load rfl Tryz.isAgg25 (.head _) rfl) (Dp 4 rfl (p_move rfl) (Dp 5 rfl (p_nilCheck rfl) (Dp 6 rfl (p_fieldAddr rfl Tryz.runUnderlying258 rfl Tryz.sizeOf3 rfl) (Dp 7 rfl (p_load rfl Tryz.isAgg3 (.head _) rfl) ?_)))))))))
          refine Dp 8 rfl (p_slL (a := n) hbv rfl Tryz.runUnderlying25 Tryz.sizeOf5 rfl rfl hn rfl) (Dp 9 rfl (p_move rfl) (DK 10 rfl (e_copyBs (A := fun ys => own bv 1 5 (bvs ys)) rfl rfl rfl Tryz.runUnderlying25 Tryz.sizeOf5 (src_bytes hu) (Bf.own 5 hbv) hbl hn (Nat.le_refl _) (K3 .nil)) ?_))
          rintro _ _ _ - ⟨rfl, rfl⟩
          refine ⟨_, (K1 (K1 (K1 .nil))), ?_⟩
          refine Dp 11 rfl (p_assign rfl) (DD (E_seq (SR ?_)))
          obtain ⟨k, hkk⟩ : ∃ k, k = min (p.drop j).length (64 - n) := ⟨_, rfl⟩
          have hcl := copy_len (ys := p.drop j) (m := (p.drop j).length) hbl hn (Nat.le_refl 64) (by omega)
          rw [← hkk] at hcl ⊢
          refine Lm rfl (Ln rfl (Lf rfl Tryz.runUnderlying258 rfl Tryz.sizeOf3 rfl (Lp (p_load rfl Tryz.isAgg3 (.head _) rfl) (Lm rfl ?_))))
          refine Lp (p_add rfl rfl ((show IntKind.i64.wrap ((n : Int) + (k : Int)) = ((n + k : Nat) : Int) from by rw [wr64 (by omega) (by omega)]; omega))) ?_
          refine Ln rfl (Lf rfl Tryz.runUnderlying258 rfl Tryz.sizeOf3 rfl (TL_k0 (e_store1 rfl rfl Tryz.sizeOf3 rfl (K0 .nil) rfl rfl rfl) ?_))
          rintro _ _ _ - ⟨rfl, rfl⟩
          refine nR (Lm rfl (Lk (e_call rfl (ct_flush gA wb bv (.iface t rv) (n + k) s _ S Sk hW hbv hcl (by omega) hS (by omega)) (K0 (K2 (K0 .nil)))) ?_))
          rintro _ _ _ - ⟨_, rfl, ⟨rfl, S3, rfl, hS3⟩⟩
          refine TL_nil (EC (.refl _) ((k, 0, _, s + (n + k), S3)) ?hI (K0 (K0 (K0 (K0 .nil)))))
          case hI => intro g' hl; exact ⟨by dsimp only; omega, by dsimp only; omega, hcl, hS3, by dsimp only; omega, by dsimp only; rw [if_neg (by omega)]; split <;> omega⟩
      ·
        rintro ⟨k, n2, bl2, s2, S2⟩ gC hlgC ⟨hk1, hk2, hk3, hk4, hk5, hk6⟩
        try dsimp only
        try dsimp only at hk1 hk2 hk3 hk4 hk5 hk6
        replace hu := hu.mono hlgC
        refine SR (Lm rfl (Lm rfl ?_))
        refine Lp (p_add rfl rfl ((show IntKind.i64.wrap ((j : Int) + (k : Int)) = ((j + k : Nat) : Int) from by rw [wr64 (by omega) (by omega)]; omega))) ?_
        refine La rfl (nR (Lm rfl (Lm rfl (Lp (p_slL (a := k) hu.1 rfl Tryz.runUnderlying25 Tryz.sizeOf5 rfl rfl (by omega) rfl) (La rfl (TL_nil (E_block (EL hlgC ((j + k, _, n2, bl2, s2, S2)) ?hm ?hI ((K0 (K0 (K0 (K0 .nil)))))))))))))
        case hm => exact (by dsimp only; omega)
        case hI => exact (fun g' hl => ⟨by dsimp only; omega, by dsimp only; rw [← List.drop_drop]; exact (hu.slFrom (n := (p.drop j).length) rfl (by omega)).mono hl, hk2, hk3, hk4, by dsimp only; omega⟩)
    ·
      cases hc4
  ·
    refine Ls (Ls (Ls (Ls (Ls (Lp (p_pickF rfl rfl) (nS (T_condF rfl (T_exit (E_seq_exit ?_)))))))))
    refine E_loop_exit (E_block_hit (E_seq (T_seq (SR (Lm rfl (Ln rfl (Lf rfl Tryz.runUnderlying258 rfl Tryz.sizeOf64 rfl (Lp (p_load rfl Tryz.isAgg64 (.head _) rfl) (Lp (p_neqNN rfl Tryz.underlying64) ?_)))))))))
    refine nS (T_cond rfl (fun hc13 => ?_) (fun hc13 => ?_))
    ·
      cases hc13
    ·
      skip
      refine kS (T_seq (T_regionD 12 Tryz.mixed rfl (K0 (K1 (K1 .nil))) (Dp 0 rfl (p_move rfl) (Dp 1 rfl (p_nilCheck rfl) (Dp 2 rfl (p_fieldAddr rfl Tryz.runUnderlying258 rfl Tryz.sizeOf25 rfl) (Dp 3 rfl (p_load rfl Tryz.isAgg25 (.head _) rfl) (Dp 4 rfl (p_move rfl) (Dp 5 rfl (p_nilCheck rfl) (Dp 6 rfl (p_fieldAddr rfl Tryz.runUnderlying258 rfl Tryz.sizeOf3 rfl) ?_)))))))))
      refine Dp 7 rfl (p_load rfl Tryz.isAgg3 (.head _) rfl) (Dp 8 rfl (p_slL (a := n) hbv rfl Tryz.runUnderlying25 Tryz.sizeOf5 rfl rfl hn rfl) (Dp 9 rfl (p_move rfl) (DK 10 rfl (e_copyBs (A := fun ys => own bv 1 5 (bvs ys)) rfl rfl rfl Tryz.runUnderlying25 Tryz.sizeOf5 (src_bytes hu) (Bf.own 5 hbv) hbl hn (Nat.le_refl _) (K3 .nil)) ?_)))
      rintro _ _ _ - ⟨rfl, rfl⟩
      refine ⟨_, (K1 (K1 (K1 .nil))), ?_⟩
      refine Dp 11 rfl (p_assign rfl) (DD (E_seq (SR ?_)))
      obtain ⟨k, hkk⟩ : ∃ k, k = min (p.drop j).length (64 - n) := ⟨_, rfl⟩
      have hcl := copy_len (ys := p.drop j) (m := (p.drop j).length) hbl hn (Nat.le_refl 64) (by omega)
      rw [← hkk] at hcl ⊢
      have hk9 : j + k = p.length := by omega
      refine Lm rfl (Ln rfl (Lf rfl Tryz.runUnderlying258 rfl Tryz.sizeOf3 rfl (Lp (p_load rfl Tryz.isAgg3 (.head _) rfl) (Lm rfl ?_))))
      refine Lp (p_add rfl rfl ((show IntKind.i64.wrap ((n : Int) + (k : Int)) = ((n + k : Nat) : Int) from by rw [wr64 (by omega) (by omega)]; omega))) ?_
      refine Ln rfl (Lf rfl Tryz.runUnderlying258 rfl Tryz.sizeOf3 rfl (TL_k0 (e_store1 rfl rfl Tryz.sizeOf3 rfl (K0 .nil) rfl rfl rfl) ?_))
      rintro _ _ _ - ⟨rfl, rfl⟩
      refine nSR (Lm rfl (Lm rfl ?_))
      refine Lp (p_add rfl rfl ((show IntKind.i64.wrap ((j : Int) + (k : Int)) = ((p.length : Nat) : Int) from by rw [wr64 (by omega) (by omega)]; omega))) ?_
      refine La rfl (nSR (Lm rfl (La rfl (La rfl (nr (E_ret2 [_, _, _] rfl hlgA rfl rfl (K0 (K2 (K0 (K0 .nil)))) (fun g' hl => ?_)))))))
      exact ⟨rfl, ⟨_, n + k, s, S⟩, ⟨hcl, by dsimp only; omega, hS, by dsimp only; omega⟩, rfl⟩
theorem ct_bwWriteByteX (g : GW) (wb : Nat) (bv wv : Value) (c : UInt8) (bl : List UInt8) (n s tot : Nat) (S : Atom) (Sk : Nat → Atom → Prop) (hW : Wr Tryz.prog g wv Sk) (hbv : Shp bv 64) (hok : BwOk Sk ⟨bl, n, s, S⟩ tot) (ht : tot + 1 ≤ 1000000000) :
    Ct Tryz.prog g 166 [.pointer (some ⟨wb, 0, none⟩), Hl.bv c] [blk wb (.cells (bwC .nilIface bv n wv) 258), own bv 1 5 (bvs bl), S]
      (fun r _ H' => r = .nilIface ∧ ∃ x, BwOk Sk x (tot + 1) ∧ H' = bwA wb bv wv x) := by
  have ho1 := hok.len; have ho2 := hok.n; have ho3 := hok.sk; have ho4 := hok.tot
  dsimp only at ho1 ho2 ho3 ho4
  refine CI Tryz.func166 Tryz.ntmps166 rfl fun F g0 hg0 => ?_
  replace hW := hW.mono hg0
  refine SR (La rfl (nS (T_seq (SR (Lm rfl (Ln rfl (Lf rfl Tryz.runUnderlying258 rfl Tryz.sizeOf64 rfl (Lp (p_load rfl Tryz.isAgg64 (.head _) rfl) (Lp (p_neqNN rfl Tryz.underlying64) ?_)))))))))
  refine nS (T_cond rfl (fun hc1 => ?_) (fun hc1 => ?_))
  ·
    cases hc1
  ·
    skip
    refine kS (T_cut (ι := Nat × Nat × Atom) (fun x _ => x.1 < 64 ∧ Sk x.2.1 x.2.2 ∧ x.2.1 + x.1 = tot) (fun x => [(0, .pointer (some ⟨wb, 0, none⟩)), (1, Hl.bv c)]) (fun x => [blk wb (.cells (bwC .nilIface bv x.1 wv) 258), own bv 1 5 (bvs bl), x.2.2, F]) ?_ ?_)
    ·
      refine SR (Lm rfl (Lk (e_call rfl (ct_available g0 wb .nilIface bv wv n hbv ho2) (K0 .nil)) ?_))
      rintro _ _ _ - ⟨_, rfl, ⟨rfl, rfl⟩⟩
      refine Lp (p_leq rfl rfl) (Lm rfl (TL_splitD 17 rfl (fun hg3 => ?_) (fun hg3 => ?_)))
      ·
        refine Lg (p_move rfl) (TL_kg rfl rfl rfl rfl (e_call rfl (ct_flush g0 wb bv wv n s bl S Sk hW hbv ho1 ho2 ho3 (by omega)) (K0 (K0 (K0 .nil)))) ?_)
        rintro _ _ _ - ⟨_, rfl, ⟨rfl, S3, rfl, hS3⟩⟩
        refine Lg (p_neqNN rfl Tryz.underlying64) (Lp (p_pickT rfl rfl) (nS (T_cond rfl (fun hc5 => ?_) (fun hc5 => ?_))))
        ·
          cases hc5
        ·
          skip
          refine T_skip (EC (.refl _) ((0, s + n, S3)) ?hI (K0 (K0 (K0 (K0 .nil)))))
          case hI => intro g' hl; exact ⟨by dsimp only; omega, hS3, by dsimp only; omega⟩
      ·
        refine Ls (Ls (Ls (Lp (p_pickF rfl rfl) (nS (T_condF rfl (T_skip (EC (.refl _) ((n, s, S)) ?hI (K0 (K0 (K0 (K0 .nil)))))))))))
        case hI => intro g' hl; exact ⟨by dsimp only; omega, ho3, ho4⟩
    ·
      rintro ⟨n, s, S⟩ gC hlgC ⟨hn, hS, hst⟩
      try dsimp only
      try dsimp only at hn hS hst
      refine T_seq (T_regionD 10 Tryz.mixed rfl Part.all (Dp 0 rfl (p_move rfl) (Dp 1 rfl (p_nilCheck rfl) (Dp 2 rfl (p_fieldAddr rfl Tryz.runUnderlying258 rfl Tryz.sizeOf25 rfl) (Dp 3 rfl (p_load rfl Tryz.isAgg25 (.head _) rfl) (Dp 4 rfl (p_move rfl) (Dp 5 rfl (p_nilCheck rfl) (Dp 6 rfl (p_fieldAddr rfl Tryz.runUnderlying258 rfl Tryz.sizeOf3 rfl) (Dp 7 rfl (p_load rfl Tryz.isAgg3 (.head _) rfl) ?_)))))))))
      refine Dp 8 rfl (p_move rfl) (Dp 9 rfl (p_ix (hbv) (j := n) rfl rfl Tryz.runUnderlying25 Tryz.sizeOf5 (by omega) (by omega) rfl) (DB rfl (e_stBf (Bf.own 5 hbv) ho1 rfl rfl Tryz.sizeOf5 (K1 .nil) hn) ?_))
      rintro _ _ _ - ⟨rfl, rfl⟩
      refine TA_done (by kernel_rfl) (E_seq (SR (Lm rfl (Ln rfl (Lf rfl Tryz.runUnderlying258 rfl Tryz.sizeOf3 rfl (Lp (p_load rfl Tryz.isAgg3 (.tail _ (.head _)) rfl) ?_))))))
      refine Lp (p_add rfl rfl ((show IntKind.i64.wrap ((n : Int) + 1) = ((n + 1 : Nat) : Int) from by rw [wr64 (by omega) (by omega)]; omega))) ?_
      refine Ln rfl (Lf rfl Tryz.runUnderlying258 rfl Tryz.sizeOf3 rfl (TL_k0 (e_store1 rfl rfl Tryz.sizeOf3 rfl (K1 .nil) rfl rfl rfl) ?_))
      rintro _ _ _ - ⟨rfl, rfl⟩
      refine nSR (La rfl (nr (E_ret1 [_, _, _] rfl hlgC rfl (K0 (K0 (K0 (K0 .nil)))) (fun g' hl => ?_))))
      exact ⟨rfl, ⟨bl.set n c, n + 1, s, S⟩, ⟨by rw [List.length_set]; exact ho1, by dsimp only; omega, hS, by dsimp only; omega⟩, rfl⟩
theorem ct_bwWrite (g : GW) (wb : Nat) (bv wv pv : Value) (p : List UInt8) (x : BwS) (tot : Nat) (Sk : Nat → Atom → Prop) (hW : Wr Tryz.prog g wv Sk) (hbv : Shp bv 64) (hok : BwOk Sk x tot) (hp : Bytes g pv p) (ht : tot + p.length ≤ 1000000000) :
    Ct Tryz.prog g 274 [.pointer (some ⟨wb, 0, none⟩), pv] (bwA wb bv wv x) (fun r _ H' => r = .tuple #[.int .i64 p.length, .nilIface] ∧ ∃ x, BwOk Sk x (tot + p.length) ∧ H' = bwA wb bv wv x) :=
  ct_bwWriteX g wb bv wv pv p x.bl x.n x.s tot x.S Sk hW hbv hok hp ht
theorem ct_bwWriteByte (g : GW) (wb : Nat) (bv wv : Value) (c : UInt8) (x : BwS) (tot : Nat) (Sk : Nat → Atom → Prop) (hW : Wr Tryz.prog g wv Sk) (hbv : Shp bv 64) (hok : BwOk Sk x tot) (ht : tot + 1 ≤ 1000000000) :
    Ct Tryz.prog g 166 [.pointer (some ⟨wb, 0, none⟩), Hl.bv c] (bwA wb bv wv x) (fun r _ H' => r = .nilIface ∧ ∃ x, BwOk Sk x (tot + 1) ∧ H' = bwA wb bv wv x) :=
  ct_bwWriteByteX g wb bv wv c x.bl x.n x.s tot x.S Sk hW hbv hok ht
theorem ct_bwFlush (g : GW) (wb : Nat) (bv wv : Value) (x : BwS) (tot : Nat) (Sk : Nat → Atom → Prop) (hW : Wr Tryz.prog g wv Sk) (hbv : Shp bv 64) (hok : BwOk Sk x tot) (ht : tot ≤ 1000000000) :
    Ct Tryz.prog g 89 [.pointer (some ⟨wb, 0, none⟩)] (bwA wb bv wv x) (fun r _ H' => r = .nilIface ∧ ∃ x, x.n = 0 ∧ BwOk Sk x tot ∧ H' = bwA wb bv wv x) := by
  have ho1 := hok.len; have ho2 := hok.n; have ho3 := hok.sk; have ho4 := hok.tot
  refine (ct_flush g wb bv wv x.n x.s x.bl x.S Sk hW hbv ho1 ho2 ho3 (by omega)).mono fun r g' H' _ hR => ?_
  obtain ⟨rfl, S', rfl, hS'⟩ := hR
  exact ⟨rfl, ⟨x.bl, 0, x.s + x.n, S'⟩, rfl, ⟨ho1, by simp only []; omega, hS', by simp only []; omega⟩, rfl⟩
end Go.Proofs.YtolddodhmeaceaaGreatDoor
namespace Go.Proofs.YtolddodhmeaceaaGreatDoor
open Go.Hl Go.Pk
/-- What does not change of a scanner's reader. -/
structure Fx where
  sr : Nat
  br : Nat
  rb : Nat
  wb : Nat
  cv : Value
  bv : Value
  bv2 : Value
  wv : Value
  C : List UInt8
  Sk : Nat → Atom → Prop
  eE : Nat × Nat
  uE : Nat × Nat
structure FxOk (g : GW) (x : Fx) : Prop where
  env : Env g x.eE x.uE
  cv : Bytes g x.cv x.C
  len : x.C.length ≤ 900000000
  bv : Shp x.bv 4096
  bv2 : Shp x.bv2 64
  wr : Wr Tryz.prog g x.wv x.Sk
  wvi : ∃ t v, x.wv = .iface t v
theorem FxOk.mono {g g' : GW} {x : Fx} (h : FxOk g x) (hl : Le g g') : FxOk g' x := ⟨h.env.mono hl, h.cv.mono hl, h.len, h.bv, h.bv2, h.wr.mono hl, h.wvi⟩
structure St where
  rb : RBuf
  bw : BwS
structure StOk (x : Fx) (s : St) (pos : Nat) : Prop where
  rb : RBOk x.C s.rb pos
  bw : BwOk x.Sk s.bw pos
def srC (rd wv : Value) (rb wb off : Nat) : Array Value := #[rd, wv, .pointer (some ⟨rb, 0, none⟩), .pointer (some ⟨wb, 0, none⟩), .int .i64 off]
def stA (x : Fx) (s : St) (pos : Nat) : List Atom :=
  [blk x.sr (.cells (srC (brV x.br) x.wv x.rb x.wb pos) 170), blk x.br (.cells (brC x.cv s.rb.i s.rb.pr) 133), blk x.rb (.cells (rbC x.bv (brV x.br) s.rb.r s.rb.w .nilIface s.rb.lb s.rb.lr) 263), own x.bv 1 5 (bvs s.rb.bl),
   blk x.wb (.cells (bwC .nilIface x.bv2 s.bw.n x.wv) 258), own x.bv2 1 5 (bvs s.bw.bl), s.bw.S]
theorem StOk.le {x : Fx} {s : St} {pos : Nat} (h : StOk x s pos) : pos ≤ x.C.length := by have := h.rb.i; have := h.rb.ic; omega
abbrev srV (x : Fx) : Value := .iface 123 (.pointer (some ⟨x.sr, 0, none⟩))
theorem ct_srRead (g : GW) (x : Fx) (hx : FxOk g x) (s : St) (pos : Nat) (hs : StOk x s pos) (pv : Value) (m : Nat) (A : List UInt8 → Atom) (xs : List UInt8) (hB : Bf pv m A) (hxs : xs.length = m) (hm : 1 ≤ m) (hm2 : m ≤ 1000000000) :
    Ct Tryz.prog g 272 [.pointer (some ⟨x.sr, 0, none⟩), pv] (A xs :: stA x s pos)
      (fun v _ H' => ∃ (s' : St) (n : Nat) (er : Value), v = .tuple #[.int .i64 n, er] ∧ n ≤ m ∧ (pos < x.C.length → er = .nilIface ∧ 1 ≤ n ∧ pos + n ≤ x.C.length) ∧ (pos = x.C.length → er = EVal ES x.eE ∧ n = 0) ∧ StOk x s' (pos + n) ∧ H' = A ((x.C.drop pos).take n ++ xs.drop n) :: stA x s' (pos + n)) := by
  have hpl := hs.le
  have hCl := hx.len
  refine CI Tryz.func272 Tryz.ntmps272 rfl fun F g0 hg0 => ?_
  replace hx := hx.mono hg0
  refine SR (La rfl (La rfl (nSR (Lm rfl (Ln rfl (Lf rfl Tryz.runUnderlying170 rfl Tryz.sizeOf165 rfl (Lp (p_load rfl Tryz.isAgg165 (.tail _ (.head _)) rfl) (Lm rfl (Lk (e_call rfl (ct_rbRead g0 x.br x.rb x.cv x.bv pv x.C xs m A s.rb pos x.eE x.uE hx.env hx.cv (by omega) hx.bv hs.rb hB hxs hm hm2) (K0 (K1 (K1 (K1 .nil))))) ?_)))))))))
  rintro _ _ _ - ⟨_, rfl, ⟨rb2, n, er, rfl, hn, he1, he2, hrb2, rfl⟩⟩
  have hpn : pos + n ≤ x.C.length := by { rcases Nat.lt_or_eq_of_le hpl with h | h; exact (he1 h).2.2; (have := (he2 h).2; omega) }
  have hlen : ((x.C.drop pos).take n ++ xs.drop n).length = m := by { rw [List.length_append, List.length_take, List.length_drop, List.length_drop]; omega }
  refine Lm rfl (Lx rfl rfl (Lx rfl rfl (La rfl (La rfl (nSR (Lm rfl (Ln rfl (Lf rfl Tryz.runUnderlying170 rfl Tryz.sizeOf2 rfl (Lp (p_load rfl Tryz.isAgg2 (.tail _ (.tail _ (.tail _ (.tail _ (.head _))))) rfl) ?_)))))))))
  refine Lm rfl ?_
  refine Lp (p_add rfl rfl ((show IntKind.i64.wrap ((pos : Int) + (n : Int)) = ((pos + n : Nat) : Int) from by rw [wr64 (by omega) (by omega)]; omega))) ?_
  refine Ln rfl (Lf rfl Tryz.runUnderlying170 rfl Tryz.sizeOf2 rfl (TL_k0 (e_store1 rfl rfl Tryz.sizeOf2 rfl (K4 .nil) rfl rfl rfl) ?_))
  rintro _ _ _ - ⟨rfl, rfl⟩
  refine nS (T_seq (T_seq (T_regionD 13 Tryz.mixed rfl (K0 (K1 (K1 (K1 (K4 .nil))))) (Dp 0 rfl (p_move rfl) (Dp 1 rfl (p_nilCheck rfl) (Dp 2 rfl (p_fieldAddr rfl Tryz.runUnderlying170 rfl Tryz.sizeOf167 rfl) (Dp 3 rfl (p_load rfl Tryz.isAgg167 (.head _) rfl) (Dp 4 rfl (p_move rfl) (Dp 5 rfl (p_move rfl) ?_)))))))))
  refine Dp 6 rfl (p_slH (b := n) hB.shp rfl Tryz.runUnderlying25 Tryz.sizeOf5 rfl rfl (by omega) rfl) ?_
  refine DK 7 rfl (e_call rfl (Ct.thaw (A := A ((x.C.drop pos).take n ++ xs.drop n)) ⟨_, Tryz.func274, by kernel_rfl, by kernel_rfl⟩ (fun g1 hl1 hst => ct_bwWrite g1 x.wb x.bv2 x.wv _ _ s.bw pos x.Sk (hx.wr.mono hl1) hx.bv2 hs.bw (Still.sub (c := 0) (d := n) hB hlen hst (Nat.zero_le _) hn) (by rw [List.length_take, List.length_drop]; omega))) (K5 (K5 (K5 (K5 .nil))))) ?_
  rintro _ _ _ - ⟨_, rfl, ⟨_, rfl, rfl, bw2, hbw2, rfl⟩⟩
  refine ⟨_, (K4 (K4 (K4 (K4 (K4 .nil))))), ?_⟩
  refine Dp 8 rfl (p_move rfl) (Dp 9 rfl (p_extractL rfl rfl) (Dp 10 rfl (p_extractL rfl rfl) (Dp 11 rfl (p_assign rfl) (Dp 12 rfl (p_assign rfl) (DD (E_seq (SR (Lm rfl (Lp (p_neqNN rfl Tryz.underlying64) ?_)))))))))
  refine nS (T_cond rfl (fun hc4 => ?_) (fun hc4 => ?_))
  ·
    cases hc4
  ·
    skip
    refine kS (T_ret (E_ret2 [_, _, _, _, _, _, _, _] rfl (.refl _) rfl rfl (K5 (K0 (K0 (K0 (K0 (K1 (K1 (K1 (K0 .nil))))))))) (fun g' hl => ?_)))
    exact ⟨⟨rb2, bw2⟩, n, er, rfl, hn, he1, he2, ⟨hrb2, by rw [List.length_take, List.length_drop, hlen] at hbw2; rw [show min (n - 0) (m - 0) = n from by omega] at hbw2; exact hbw2⟩, rfl⟩
theorem ct_srReadByte (g : GW) (x : Fx) (hx : FxOk g x) (s : St) (pos : Nat) (hs : StOk x s pos) :
    Ct Tryz.prog g 152 [.pointer (some ⟨x.sr, 0, none⟩)] (stA x s pos)
      (fun v _ H' => ∃ (s' : St) (p' : Nat) (u : UInt8) (er : Value), v = .tuple #[.int .u8 u.toNat, er] ∧ (pos < x.C.length → er = .nilIface ∧ x.C[pos]? = some u ∧ p' = pos + 1) ∧ (pos = x.C.length → er = EVal ES x.eE ∧ p' = pos) ∧ StOk x s' p' ∧ H' = stA x s' p') := by
  have hpl := hs.le
  have hCl := hx.len
  refine CI Tryz.func152 Tryz.ntmps152 rfl fun F g0 hg0 => ?_
  replace hx := hx.mono hg0
  refine SR (La rfl (La rfl (nSR (Lm rfl (Ln rfl (Lf rfl Tryz.runUnderlying170 rfl Tryz.sizeOf165 rfl (Lp (p_load rfl Tryz.isAgg165 (.head _) rfl) (Lk (e_call rfl (ct_rbReadByte g0 x.br x.rb x.cv x.bv x.C s.rb pos x.eE x.uE hx.env hx.cv (by omega) hx.bv hs.rb) (K1 (K1 (K1 .nil)))) ?_))))))))
  rintro _ _ _ - ⟨_, rfl, ⟨rb2, u, er, rfl, he1, he2, rfl⟩⟩
  refine Lm rfl (Lx rfl rfl (Lx rfl rfl (La rfl (La rfl (nS (T_seq (SR ?_)))))))
  obtain ⟨hec1, hec2, hin⟩ := er_eof hpl (fun h => (he2 h).1) (fun h => (he1 h).2.1)
  have hu256 := u8lt u
  refine Lm rfl (Lp (p_eqlE0 hin rfl Tryz.underlying64) (nS (T_cond rfl (fun hc2 => ?_) (fun hc2 => ?_))))
  ·
    have hlt := hec1 (isB_t hc2)
    obtain ⟨hc1, hc2, hc3⟩ := he1 hlt
    refine SR (Lm rfl (Ln rfl (Lf rfl Tryz.runUnderlying170 rfl Tryz.sizeOf2 rfl (Lp (p_load rfl Tryz.isAgg2 (.tail _ (.tail _ (.tail _ (.head _)))) rfl) ?_))))
    refine Lp (p_add rfl rfl ((show IntKind.i64.wrap ((pos : Int) + 1) = ((pos + 1 : Nat) : Int) from by rw [wr64 (by omega) (by omega)]; omega))) ?_
    refine Ln rfl (Lf rfl Tryz.runUnderlying170 rfl Tryz.sizeOf2 rfl (TL_k0 (e_store1 rfl rfl Tryz.sizeOf2 rfl (K3 .nil) rfl rfl rfl) ?_))
    rintro _ _ _ - ⟨rfl, rfl⟩
    refine nSR (Lm rfl (Lm rfl (Ln rfl (Lf rfl Tryz.runUnderlying170 rfl Tryz.sizeOf167 rfl (Lp (p_load rfl Tryz.isAgg167 (.head _) rfl) (Lm rfl (Lk (e_call rfl (ct_bwWriteByte g0 x.wb x.bv2 x.wv u s.bw pos x.Sk hx.wr hx.bv2 hs.bw (by omega)) (K4 (K4 (K4 .nil)))) ?_)))))))
    rintro _ _ _ - ⟨_, rfl, ⟨rfl, bw2, hbw2, rfl⟩⟩
    refine La rfl (La rfl (nr (E_seq_ret (E_ret2 [_, _, _, _, _, _, _] rfl (.refl _) rfl rfl (K3 (K3 (K3 (K3 (K0 (K0 (K0 (K0 .nil)))))))) (fun g' hl => ?_)))))
    exact ⟨⟨rb2, bw2⟩, pos + 1, u, _, rfl, fun _ => ⟨rfl, hc1, rfl⟩, fun h => absurd h (by omega), ⟨hc3, hbw2⟩, rfl⟩
  ·
    have heq := hec2 (isB_f hc2)
    obtain ⟨hc1, hc2⟩ := he2 heq
    refine kS (T_ret (E_ret2 [_, _, _, _, _, _, _] rfl (.refl _) rfl rfl (K3 (K0 (K0 (K0 (K0 (K0 (K0 (K0 .nil)))))))) (fun g' hl => ?_)))
    exact ⟨⟨rb2, s.bw⟩, pos, u, _, rfl, fun h => absurd h (by omega), fun _ => ⟨hc1, rfl⟩, ⟨hc2, hs.bw⟩, rfl⟩
theorem ct_srFlush (g : GW) (x : Fx) (hx : FxOk g x) (s : St) (pos : Nat) (hs : StOk x s pos) :
    Ct Tryz.prog g 57 [.pointer (some ⟨x.sr, 0, none⟩)] (stA x s pos) (fun v _ H' => v = .nilIface ∧ ∃ s', StOk x s' pos ∧ H' = stA x s' pos) := by
  have hpl := hs.le
  have hCl := hx.len
  refine CI Tryz.func57 Tryz.ntmps57 rfl fun F g0 hg0 => ?_
  replace hx := hx.mono hg0
  refine SR (La rfl (nSR (Lm rfl (Ln rfl (Lf rfl Tryz.runUnderlying170 rfl Tryz.sizeOf167 rfl (Lp (p_load rfl Tryz.isAgg167 (.head _) rfl) (Lk (e_call rfl (ct_bwFlush g0 x.wb x.bv2 x.wv s.bw pos x.Sk hx.wr hx.bv2 hs.bw (by omega)) (K4 (K4 (K4 .nil)))) ?_)))))))
  rintro _ _ _ - ⟨_, rfl, ⟨rfl, bw2, hbn, hbw2, rfl⟩⟩
  refine La rfl (nr (E_ret1 [_, _, _, _, _, _, _] rfl (.refl _) rfl (K3 (K3 (K3 (K3 (K0 (K0 (K0 (K0 .nil)))))))) (fun g' hl => ?_)))
  exact ⟨rfl, ⟨s.rb, bw2⟩, ⟨hs.rb, hbw2⟩, rfl⟩
theorem ct_srSeek (g : GW) (x : Fx) (s : St) (pos : Nat) :
    Ct Tryz.prog g 54 [.pointer (some ⟨x.sr, 0, none⟩), .int .i64 0, .int .i64 1] (stA x s pos) (fun v _ H' => v = .tuple #[.int .i64 pos, .nilIface] ∧ H' = stA x s pos) := by
  refine CI Tryz.func54 Tryz.ntmps54 rfl fun F g0 hg0 => ?_
  refine SR (La rfl (La rfl (nSR (La rfl (nS (T_seq (SR (Lm rfl (Ln rfl ?_)))))))))
  refine Lf rfl Tryz.runUnderlying170 rfl Tryz.sizeOf113 rfl (Lp (p_load rfl Tryz.isAgg113 (.head _) rfl) (Lp (p_assertI rfl (fun w => by kernel_rfl)) (Lm rfl (Lx rfl rfl (Lx rfl rfl (La rfl (La rfl (nSR (Lm rfl ?_)))))))))
  refine Lp (p_not rfl) (nS (T_condNB rfl (fun hc1 => ?_) (fun hc1 => ?_)))
  ·
    cases hc1
  ·
    skip
    refine T_seq (SR (Lm rfl (Lp (p_eql rfl rfl) (Lm rfl (TL_splitD 30 rfl (fun hg2 => ?_) (fun hg2 => ?_))))))
    ·
      refine Lg (p_move rfl) (Lg (p_eql rfl rfl) (Lp (p_pickT rfl rfl) (nS (T_condD rfl (fun hc3 => ?_) (fun hc3 => ?_)))))
      ·
        skip
        refine SR (Lm rfl (Ln rfl (Lf rfl Tryz.runUnderlying170 rfl Tryz.sizeOf2 rfl (Lp (p_load rfl Tryz.isAgg2 (.head _) rfl) (La rfl (La rfl (nr (E_seq_ret (E_seq_ret (E_ret2 [_, _, _, _, _, _, _] rfl (.refl _) rfl rfl (K0 (K0 (K0 (K0 (K0 (K0 (K0 (K0 .nil)))))))) (fun g' hl => ?_)))))))))))
        exact ⟨rfl, rfl⟩
      ·
        exact absurd rfl hc3
    ·
      exact absurd rfl hg2
end Go.Proofs.YtolddodhmeaceaaGreatDoor
namespace Go.Hl
variable {P : Program}
section
variable {d : Option Nat} {ty : TypeId} {ps : String} {af : Array Edge} {gd : Option (Nat × Bool)} {g : GW} {L : List (Nat × Value)} {H : List Atom}
theorem p_slA {t x elem sz r bl o} {lo hi : Option Operand} {n a b : Nat} {i j : Int} (ex : ev L x = some (.pointer (some ⟨bl, o, none⟩))) (hu : ∀ w, (underlying t).run P w = .ok (.array n elem) w) (hz : ∀ w, (sizeOf elem).run P w = .ok sz w)
    (hlo : (lo = none ∧ a = 0) ∨ ∃ lo' k, lo = some lo' ∧ ev L lo' = some (.int k i) ∧ i = (a : Int)) (hhi : (hi = none ∧ b = n) ∨ ∃ hi' k, hi = some hi' ∧ ev L hi' = some (.int k j) ∧ j = (b : Int))
    (hab : a ≤ b) (hb : b ≤ n) (hr : sl (.slice (some ⟨bl, o, none⟩) n n) a b sz = r) : OpP P ⟨d, .slice t x lo hi none, ty, ps, af, gd⟩ g L H r :=
  fun ac nn D hk g' hl _ => by
    subst hr
    simp only [execOp, hk.eval ex, Option.map_none]
    refine run_v ?_
    unfold Instr.sliceAt
    rw [run_bind_ok (hu _)]
    simp only [Instr.sureAddr, Sem.run_bind, Sem.run_pure, Result.andThen_ok]
    have hlo' : (lo.map ac.eval = none ∧ a = 0) ∨ ∃ k, lo.map ac.eval = some (.int k (a : Int)) := by
      rcases hlo with ⟨rfl, rfl⟩ | ⟨lo', k, rfl, e, rfl⟩
      · exact .inl ⟨rfl, rfl⟩
      · exact .inr ⟨k, by simp [hk.eval e]⟩
    have hhi' : (hi.map ac.eval = none ∧ b = n) ∨ ∃ k, hi.map ac.eval = some (.int k (b : Int)) := by
      rcases hhi with ⟨rfl, rfl⟩ | ⟨hi', k, rfl, e, rfl⟩
      · exact .inl ⟨rfl, rfl⟩
      · exact .inr ⟨k, by simp [hk.eval e]⟩
    have hbd : (Instr.sliceBounds false n n (lo.map ac.eval) (hi.map ac.eval) none).run P g'.w = .ok (a, b, n) g'.w := by
      unfold Instr.sliceBounds
      generalize lo.map ac.eval = u at hlo' ⊢
      generalize hi.map ac.eval = v at hhi' ⊢
      rcases hlo' with ⟨rfl, rfl⟩ | ⟨k, rfl⟩ <;> rcases hhi' with ⟨rfl, rfl⟩ | ⟨k', rfl⟩ <;> simp [sliceBound_ok (P := P) hab, sliceBound_ok (P := P) hb]
    rw [hbd]
    simp only [Result.andThen_ok, hz]
    congr 1
    unfold sl
    simp only [Option.map_some]
    split <;> rfl
theorem p_slAH {t x elem sz r bl o hi k} {n b : Nat} {j : Int} (ex : ev L x = some (.pointer (some ⟨bl, o, none⟩))) (hu : ∀ w, (underlying t).run P w = .ok (.array n elem) w) (hz : ∀ w, (sizeOf elem).run P w = .ok sz w)
    (eh : ev L hi = some (.int k j)) (hj : j = (b : Int)) (hb : b ≤ n) (hr : sl (.slice (some ⟨bl, o, none⟩) n n) 0 b sz = r) : OpP P ⟨d, .slice t x none (some hi) none, ty, ps, af, gd⟩ g L H r :=
  p_slA (i := 0) ex hu hz (.inl ⟨rfl, rfl⟩) (.inr ⟨_, _, rfl, eh, hj⟩) (Nat.zero_le _) hb hr
theorem p_slA0 {t x elem sz r bl o} {n : Nat} (ex : ev L x = some (.pointer (some ⟨bl, o, none⟩))) (hu : ∀ w, (underlying t).run P w = .ok (.array n elem) w) (hz : ∀ w, (sizeOf elem).run P w = .ok sz w)
    (hr : sl (.slice (some ⟨bl, o, none⟩) n n) 0 n sz = r) : OpP P ⟨d, .slice t x none none none, ty, ps, af, gd⟩ g L H r :=
  p_slA (i := 0) (j := 0) ex hu hz (.inl ⟨rfl, rfl⟩) (.inl ⟨rfl, rfl⟩) (Nat.zero_le _) (Nat.le_refl _) hr
theorem p_slALH {t x elem sz r bl o lo hi k k'} {n a b : Nat} {i j : Int} (ex : ev L x = some (.pointer (some ⟨bl, o, none⟩))) (hu : ∀ w, (underlying t).run P w = .ok (.array n elem) w) (hz : ∀ w, (sizeOf elem).run P w = .ok sz w)
    (el : ev L lo = some (.int k' i)) (eh : ev L hi = some (.int k j)) (hi' : i = (a : Int)) (hj : j = (b : Int)) (hab : a ≤ b) (hb : b ≤ n) (hr : sl (.slice (some ⟨bl, o, none⟩) n n) a b sz = r) : OpP P ⟨d, .slice t x (some lo) (some hi) none, ty, ps, af, gd⟩ g L H r :=
  p_slA ex hu hz (.inr ⟨_, _, rfl, el, hi'⟩) (.inr ⟨_, _, rfl, eh, hj⟩) hab hb hr
theorem p_nilCheckM {x name t v c} (ex : ev L x = some (.func (.method name) #[.iface t v] c)) (h : ∀ w, (nilAhead (P.types.size + Made.depth) t v name).run P w = .ok (some false) w) :
    OpP P ⟨d, .nilCheck x, ty, ps, af, gd⟩ g L H (.func (.method name) #[.iface t v] c) :=
  fun a n D hk g' hl hs => by
    simp only [execOp, hk.eval ex]
    have e0 : (#[Value.iface t v][0]? : Option Value) = some (.iface t v) := rfl
    simp only [e0, program, Sem.run_bind, Sem.run, Result.andThen_ok, h]
    rfl
end
/-- An array of bytes within a block. -/
theorem Bf.mid {b m cap : Nat} {e : TypeId} (pre post : Array Value) (hc : m ≤ cap) : Bf (.slice (some ⟨b, pre.size, none⟩) m cap) m (fun xs => blk b (.cells (pre ++ (bvs xs).toArray ++ post) e)) := by
  refine Bf.arr (fun xs => pre ++ (bvs xs).toArray ++ post) hc (fun xs hx => ?_) (fun xs hx j u hj => ?_) (fun xs ys hx hy => ?_)
  · simp [bvs_length, hx]
  · have hlt := (List.getElem?_eq_some_iff.1 hj).1
    rw [Array.getElem?_append_left (by simp [bvs_length]; omega), Array.getElem?_append_right (by omega)]
    simp [bvs, hj]
  · apply Array.ext_getElem?
    intro i
    rw [setR_get _ _ _ _ (by simp [bvs_length]; omega), bvs_length]
    by_cases h : pre.size ≤ i ∧ i < pre.size + ys.length
    · rw [if_pos h, Array.getElem?_append_left (by simp [bvs_length]; omega), Array.getElem?_append_right (by omega)]
      simp
    · rw [if_neg h]
      by_cases h2 : i < pre.size
      · rw [Array.getElem?_append_left (by simp; omega), Array.getElem?_append_left (by omega), Array.getElem?_append_left (by simp; omega), Array.getElem?_append_left (by omega)]
      · rw [Array.getElem?_append_right (by simp [bvs_length]; omega), Array.getElem?_append_right (by simp [bvs_length]; omega)]
        simp [bvs_length, hx, hy]
theorem Bf.whole {b m : Nat} {e : TypeId} : Bf (.slice (some ⟨b, 0, none⟩) m m) m (fun xs => blk b (.cells (bvs xs).toArray e)) := by
  have h := Bf.mid (b := b) (e := e) #[] #[] (Nat.le_refl m)
  simpa using h
end Go.Hl
namespace Go.Proofs.YtolddodhmeaceaaGreatDoor
open Go.Hl Go.Pk
theorem ct_srReadSub (g : GW) (x : Fx) (hx : FxOk g x) (s : St) (pos : Nat) (hs : StOk x s pos) (pv : Value) (m : Nat) (A : List UInt8 → Atom) (xs : List UInt8) (hB : Bf pv m A) (hxs : xs.length = m) (a : Nat) (ha : a < m) (hm2 : m ≤ 1000000000) :
    Ct Tryz.prog g 272 [.pointer (some ⟨x.sr, 0, none⟩), sl pv a m 1] (A xs :: stA x s pos)
      (fun v _ H' => ∃ (s' : St) (n : Nat) (er : Value), v = .tuple #[.int .i64 n, er] ∧ n ≤ m - a ∧ (pos < x.C.length → er = .nilIface ∧ 1 ≤ n ∧ pos + n ≤ x.C.length) ∧ (pos = x.C.length → er = EVal ES x.eE ∧ n = 0) ∧ StOk x s' (pos + n) ∧
        H' = A (xs.take a ++ ((x.C.drop pos).take n ++ ((xs.drop a).take (m - a)).drop n) ++ xs.drop m) :: stA x s' (pos + n)) := by
  have h := ct_srRead g x hx s pos hs (sl pv a m 1) (m - a) (fun ys => A (xs.take a ++ ys ++ xs.drop m)) ((xs.drop a).take (m - a)) (hB.sub hxs (by omega) (Nat.le_refl m)) (by rw [List.length_take, List.length_drop]; omega) (by omega) (by omega)
  rw [parts xs a m (by omega)] at h
  exact h
theorem sub_take {C xs : List UInt8} {pos n k m : Nat} (hx : xs.length = m) (hn : n ≤ m) (hk : k ≤ m - n) (hp : pos + n + k ≤ C.length) (h : xs.take n = (C.drop pos).take n) :
    (xs.take n ++ ((C.drop (pos + n)).take k ++ ((xs.drop n).take (m - n)).drop k) ++ xs.drop m).length = m ∧
    (xs.take n ++ ((C.drop (pos + n)).take k ++ ((xs.drop n).take (m - n)).drop k) ++ xs.drop m).take (n + k) = (C.drop pos).take (n + k) := by
  constructor
  · simp only [List.length_append, List.length_take, List.length_drop]; omega
  · rw [List.append_assoc, List.append_assoc, ← List.append_assoc, List.take_left' (by simp only [List.length_append, List.length_take, List.length_drop]; omega), h, List.take_add, List.drop_drop]
theorem ral_er {C : List UInt8} {pos n k m : Nat} {er : Value} {e : Nat × Nat} (hpl : pos + n ≤ C.length) (h1 : pos + n < C.length → er = .nilIface ∧ 1 ≤ k ∧ pos + n + k ≤ C.length) (h2 : pos + n = C.length → er = EVal ES e ∧ k = 0) (hn : n < m) :
    er = .nilIface ∨ (er = EVal ES e ∧ pos + (n + k) = C.length ∧ n + k < m) := by
  rcases Nat.lt_or_eq_of_le hpl with h | h
  · exact .inl (h1 h).1
  · have := h2 h; exact .inr ⟨this.1, by omega, by omega⟩
theorem ral_m {C : List UInt8} {pos n k m : Nat} {er : Value} {e : Nat × Nat} (hpl : pos + n ≤ C.length) (h1 : pos + n < C.length → er = .nilIface ∧ 1 ≤ k ∧ pos + n + k ≤ C.length) (h2 : pos + n = C.length → er = EVal ES e ∧ k = 0) (hn : n < m) :
    (m - (n + k)) + nilN er < (m - n) + nilN .nilIface := by
  have e1 : nilN .nilIface = 1 := rfl
  rcases Nat.lt_or_eq_of_le hpl with h | h
  · have := h1 h; rw [this.1]; omega
  · have := h2 h; rw [this.1, nilN_EV]; omega
theorem ct_readAtLeast (g : GW) (x : Fx) (hx : FxOk g x) (s0 : St) (pos : Nat) (hs : StOk x s0 pos) (pv : Value) (m : Nat) (A : List UInt8 → Atom) (xs : List UInt8) (hB : Bf pv m A) (hxs : xs.length = m) (hm2 : m ≤ 1000000000) :
    Ct Tryz.prog g 127 [srV x, pv, .int .i64 m] (A xs :: stA x s0 pos)
      (fun v _ H' => ∃ (s' : St) (n : Nat) (er : Value) (ys : List UInt8), v = .tuple #[.int .i64 n, er] ∧ ys.length = m ∧ (pos + m ≤ x.C.length → n = m ∧ er = .nilIface ∧ ys = (x.C.drop pos).take m) ∧ (x.C.length < pos + m → er = EVal ES x.eE ∨ er = EVal ES x.uE) ∧
        StOk x s' (pos + n) ∧ H' = A ys :: stA x s' (pos + n)) := by
  have hCl := hx.len
  obtain ⟨i1, j1, hf1, hf2, hf3, hf4⟩ := es_facts
  refine CI Tryz.func127 Tryz.ntmps127 rfl fun F g0 hg0 => ?_
  replace hx := hx.mono hg0
  refine SR (La rfl (La rfl (nS (T_seq (SR (Lm rfl (Lp (p_len (hB.shp) rfl rfl Tryz.runUnderlying25) (Lm rfl (Lp (p_lss rfl rfl) ?_)))))))))
  refine nS (T_condD rfl (fun hc1 => ?_) (fun hc1 => ?_))
  ·
    exact absurd hc1 (by omega)
  ·
    skip
    refine kS (T_seq (T_block (T_loop (ι := Nat × Value × St × List UInt8) (fun y _ => y.1 ≤ m ∧ StOk x y.2.2.1 (pos + y.1) ∧ y.2.2.2.length = m ∧ y.2.2.2.take y.1 = (x.C.drop pos).take y.1 ∧ (y.2.1 = .nilIface ∨ (y.2.1 = EVal ES x.eE ∧ pos + y.1 = x.C.length ∧ y.1 < m))) (fun y => [(0, srV x), (1, pv), (2, .int .i64 m), (6, .int .i64 y.1), (7, y.2.1)]) (fun y => [A y.2.2.2, blk x.sr (.cells (srC (brV x.br) x.wv x.rb x.wb (pos + y.1)) 170), blk x.br (.cells (brC x.cv y.2.2.1.rb.i y.2.2.1.rb.pr) 133), blk x.rb (.cells (rbC x.bv (brV x.br) y.2.2.1.rb.r y.2.2.1.rb.w .nilIface y.2.2.1.rb.lb y.2.2.1.rb.lr) 263), own x.bv 1 5 (bvs y.2.2.1.rb.bl), blk x.wb (.cells (bwC .nilIface x.bv2 y.2.2.1.bw.n x.wv) 258), own x.bv2 1 5 (bvs y.2.2.1.bw.bl), y.2.2.1.bw.S, F]) (fun y => (m - y.1) + nilN y.2.1) ((0, .nilIface, s0, xs)) (fun g' hl => ⟨Nat.zero_le _, hs, hxs, rfl, .inl rfl⟩) (by repeat (first | exact SubL.nil | refine SubL.cons rfl ?_)) (K0 (K0 (K0 (K0 (K0 (K0 (K0 (K0 (K0 .nil))))))))) ?_)))
    rintro ⟨n, er, s, ys⟩ gA hlgA ⟨hn, hst, hyl, hyt, her⟩
    try dsimp only
    try dsimp only at hn hst hyl hyt her
    replace hx := hx.mono hlgA
    have hin : IfN er := her.elim Or.inl (fun h => Or.inr ⟨_, _, h.1⟩)
    have hpl := hst.le
    have herr : ErrN ES gA er := her.elim Or.inl (fun h => Or.inr ⟨_, h.1, hx.env.peof⟩)
    refine T_seq (SR (Lm rfl (Lm rfl (Lp (p_lss rfl rfl) (Lm rfl (TL_splitD 17 rfl (fun hg3 => ?_) (fun hg3 => ?_)))))))
    ·
      refine Lg (p_move rfl) (Lg (p_eqlE0 hin rfl Tryz.underlying64) (Lp (p_pickT rfl rfl) (nS (T_cond rfl (fun hc4 => ?_) (fun hc4 => ?_)))))
      ·
        obtain rfl := isB_t hc4
        refine kS (T_block (SR (La rfl (nS (T_seq (T_regionD 13 Tryz.mixed rfl (K8 .nil) (Dp 0 rfl (p_move rfl) (Dp 1 rfl (p_move rfl) (Dp 2 rfl (p_move rfl) ?_)))))))))
        refine Dp 3 rfl (p_slL (a := n) hB.shp rfl Tryz.runUnderlying25 Tryz.sizeOf5 rfl rfl (by omega) rfl) (Dp 4 rfl (p_makeFunc rfl rfl) (Dp 5 rfl (p_nilCheckM rfl (fun w => by kernel_rfl)) (Dp 6 rfl (p_move rfl) (DK 7 rfl (e_invoke rfl (fun w => by kernel_rfl) rfl (ct_srReadSub gA x hx s (pos + n) hst pv m A ys hB hyl n (by omega) hm2) (K1 (K1 (K1 (K1 (K1 (K1 (K1 (K1 .nil))))))))) ?_))))
        rintro _ _ _ - ⟨_, rfl, ⟨s2, k, er2, rfl, hk, he1, he2, hs2, rfl⟩⟩
        refine ⟨_, (K8 .nil), ?_⟩
        refine Dp 8 rfl (p_move rfl) (Dp 9 rfl (p_extractL rfl rfl) (Dp 10 rfl (p_extractL rfl rfl) (Dp 11 rfl (p_assign rfl) (Dp 12 rfl (p_assign rfl) (DD (E_seq (T_region ?_)))))))
        have hpk : pos + n + k ≤ x.C.length := by { rcases Nat.lt_or_eq_of_le hpl with h | h; exact (he1 h).2.2; (have := (he2 h).2; omega) }
        obtain ⟨hl1, hl2⟩ := sub_take hyl hn hk hpk hyt
        refine Lm rfl (Lm rfl ?_)
        refine Lp (p_add rfl rfl ((show IntKind.i64.wrap ((n : Int) + (k : Int)) = ((n + k : Nat) : Int) from by rw [wr64 (by omega) (by omega)]; omega))) ?_
        refine La rfl (TL_nil (E_block ?_))
        rw [show pos + n + k = pos + (n + k) from Nat.add_assoc _ _ _]
        refine EL (.refl _) ((n + k, er2, s2, _)) ?hm ?hI ((K1 (K1 (K1 (K1 (K1 (K1 (K1 (K1 (K0 .nil))))))))))
        case hm => exact (ral_m hpl he1 he2 (by omega))
        case hI => exact (fun g' hl => ⟨by dsimp only; omega, by rw [← Nat.add_assoc]; exact hs2, hl1, hl2, ral_er hpl he1 he2 (by omega)⟩)
      ·
        obtain ⟨rfl, hpe, hnm⟩ := her.resolve_left (isB_f hc4)
        refine T_exit (E_seq_exit (E_loop_exit (E_block_hit (E_seq (T_seq (SR (Lm rfl (Lm rfl (Lp (p_geq rfl rfl) ?_)))))))))
        refine nS (T_condD rfl (fun hc6 => ?_) (fun hc6 => ?_))
        ·
          refine T_region (La rfl (nr (E_ret2 [_, _, _, _, _, _, _, _] rfl hlgA rfl rfl (K0 (K0 (K0 (K0 (K0 (K0 (K0 (K0 (K0 .nil))))))))) (fun g' hl => ?_))))
          (exfalso; omega)
        ·
          refine SR (Lm rfl (Lp (p_gtr rfl rfl) (Lm rfl (TL_splitD 40 rfl (fun hg7 => ?_) (fun hg7 => ?_)))))
          ·
            refine Lg (p_move rfl) (Lg (p_loadF rfl Tryz.isAgg64 hx.env.eof) (Lg (p_eqlER (t := ES) herr hx.env.peof rfl rfl Tryz.underlying64 Tryz.underlying272 hf1 hf2 hf3 hf4) (Lp (p_pickT rfl rfl) (nS (T_cond rfl (fun hc8 => ?_) (fun hc8 => ?_))))))
            ·
              skip
              refine T_region (Lp (p_loadF rfl Tryz.isAgg64 hx.env.ueof) (La rfl (nr (E_ret2 [_, _, _, _, _, _, _, _] rfl hlgA rfl rfl (K0 (K0 (K0 (K0 (K0 (K0 (K0 (K0 (K0 .nil))))))))) (fun g' hl => ?_)))))
              exact ⟨s, n, _, ys, rfl, hyl, fun h => absurd h (by omega), fun _ => .inr rfl, hst, rfl⟩
            ·
              skip
              refine kS (T_ret (E_ret2 [_, _, _, _, _, _, _, _] rfl hlgA rfl rfl (K0 (K0 (K0 (K0 (K0 (K0 (K0 (K0 (K0 .nil))))))))) (fun g' hl => ?_)))
              exact ⟨s, n, _, ys, rfl, hyl, fun h => absurd h (by omega), fun _ => .inl rfl, hst, rfl⟩
          ·
            refine Ls (Ls (Ls (Lp (p_pickF rfl rfl) (nS (T_condF rfl (kS (T_ret (E_ret2 [_, _, _, _, _, _, _, _] rfl hlgA rfl rfl (K0 (K0 (K0 (K0 (K0 (K0 (K0 (K0 (K0 .nil))))))))) (fun g' hl => ?_)))))))))
            exact ⟨s, n, _, ys, rfl, hyl, fun h => absurd h (by omega), fun _ => .inl rfl, hst, rfl⟩
    ·
      refine Ls (Ls (Lp (p_pickF rfl rfl) (nS (T_condF rfl (T_exit (E_seq_exit (E_loop_exit (E_block_hit (E_seq ?_)))))))))
      refine T_seq (SR (Lm rfl (Lm rfl (Lp (p_geq rfl rfl) (nS (T_condD rfl (fun hc9 => ?_) (fun hc9 => ?_)))))))
      ·
        refine T_region (La rfl (nr (E_ret2 [_, _, _, _, _, _, _, _] rfl hlgA rfl rfl (K0 (K0 (K0 (K0 (K0 (K0 (K0 (K0 (K0 .nil))))))))) (fun g' hl => ?_))))
        (obtain rfl : n = m := (by omega); exact ⟨s, n, _, ys, rfl, hyl, fun _ => ⟨rfl, rfl, by rw [← hyt]; exact (List.take_of_length_le (by omega)).symm⟩, fun h => absurd h (by omega), hst, rfl⟩)
      ·
        refine SR (Lm rfl (Lp (p_gtr rfl rfl) (Lm rfl (TL_splitD 40 rfl (fun hg10 => ?_) (fun hg10 => ?_)))))
        ·
          refine Lg (p_move rfl) (Lg (p_loadF rfl Tryz.isAgg64 hx.env.eof) (Lg (p_eqlER (t := ES) herr hx.env.peof rfl rfl Tryz.underlying64 Tryz.underlying272 hf1 hf2 hf3 hf4) (Lp (p_pickT rfl rfl) (nS (T_cond rfl (fun hc11 => ?_) (fun hc11 => ?_))))))
          ·
            skip
            refine T_region (Lp (p_loadF rfl Tryz.isAgg64 hx.env.ueof) (La rfl (nr (E_ret2 [_, _, _, _, _, _, _, _] rfl hlgA rfl rfl (K0 (K0 (K0 (K0 (K0 (K0 (K0 (K0 (K0 .nil))))))))) (fun g' hl => ?_)))))
            (exfalso; omega)
          ·
            skip
            refine kS (T_ret (E_ret2 [_, _, _, _, _, _, _, _] rfl hlgA rfl rfl (K0 (K0 (K0 (K0 (K0 (K0 (K0 (K0 (K0 .nil))))))))) (fun g' hl => ?_)))
            (exfalso; omega)
        ·
          refine Ls (Ls (Ls (Lp (p_pickF rfl rfl) (nS (T_condF rfl (kS (T_ret (E_ret2 [_, _, _, _, _, _, _, _] rfl hlgA rfl rfl (K0 (K0 (K0 (K0 (K0 (K0 (K0 (K0 (K0 .nil))))))))) (fun g' hl => ?_)))))))))
          (exfalso; omega)
theorem ct_readFull (g : GW) (x : Fx) (hx : FxOk g x) (s0 : St) (pos : Nat) (hs : StOk x s0 pos) (pv : Value) (m : Nat) (A : List UInt8 → Atom) (xs : List UInt8) (hB : Bf pv m A) (hxs : xs.length = m) (hm2 : m ≤ 1000000000) :
    Ct Tryz.prog g 75 [srV x, pv] (A xs :: stA x s0 pos)
      (fun v _ H' => ∃ (s' : St) (n : Nat) (er : Value) (ys : List UInt8), v = .tuple #[.int .i64 n, er] ∧ ys.length = m ∧ (pos + m ≤ x.C.length → n = m ∧ er = .nilIface ∧ ys = (x.C.drop pos).take m) ∧ (x.C.length < pos + m → er = EVal ES x.eE ∨ er = EVal ES x.uE) ∧
        StOk x s' (pos + n) ∧ H' = A ys :: stA x s' (pos + n)) := by
  refine CI Tryz.func75 Tryz.ntmps75 rfl fun F g0 hg0 => ?_
  replace hx := hx.mono hg0
  refine SR (La rfl (La rfl (nSR (Lm rfl (Lm rfl (Lm rfl (Lp (p_len (hB.shp) rfl rfl Tryz.runUnderlying25) (Lk (e_call rfl (ct_readAtLeast g0 x hx s0 pos hs pv m A xs hB hxs hm2) (K0 (K0 (K0 (K0 (K0 (K0 (K0 (K0 .nil))))))))) ?_))))))))
  rintro _ _ _ - ⟨_, rfl, ⟨s2, n, er, ys, rfl, h1, h2, h3, h4, rfl⟩⟩
  refine Lx rfl rfl (Lx rfl rfl (La rfl (La rfl (nr (E_ret2 [_, _, _, _, _, _, _, _] rfl (.refl _) rfl rfl (K0 (K0 (K0 (K0 (K0 (K0 (K0 (K0 (K0 .nil))))))))) (fun g' hl => ?_))))))
  exact ⟨s2, n, er, ys, rfl, h1, h2, h3, h4, rfl⟩
end Go.Proofs.YtolddodhmeaceaaGreatDoor
namespace Go.Proofs.YtolddodhmeaceaaGreatDoor
open Go.Hl Go.Pk
def ErE (x : Fx) (er : Value) : Prop := er = EVal ES x.eE ∨ er = EVal ES x.uE
theorem ErE.is {g : GW} {x : Fx} {er : Value} (h : ErE x er) (hx : FxOk g x) : ∃ p, er = EVal ES p ∧ EP g p.1 := by
  rcases h with h | h
  · exact ⟨_, h, hx.env.peof⟩
  · exact ⟨_, h, hx.env.pueof⟩
theorem rf_er {x : Fx} {n : Nat} {er : Value} {Q : Prop} (h1 : n ≤ x.C.length → er = .nilIface ∧ Q) (h2 : x.C.length < n → ErE x er) : (er = .nilIface → n ≤ x.C.length ∧ Q) ∧ (er ≠ .nilIface → x.C.length < n ∧ ErE x er) ∧ IfN er := by
  rcases Nat.lt_or_ge x.C.length n with h | h
  · have h3 := h2 h
    refine ⟨fun h' => ?_, fun _ => ⟨h, h3⟩, ?_⟩
    · rcases h3 with h3 | h3 <;> rw [h3] at h' <;> cases h'
    · rcases h3 with h3 | h3
      · exact .inr ⟨_, _, h3⟩
      · exact .inr ⟨_, _, h3⟩
  · exact ⟨fun _ => ⟨h, (h1 h).2⟩, fun h' => absurd (h1 h).1 h', .inl (h1 h).1⟩
def beN (l : List UInt8) : Nat := l.foldl (fun a c => a * 256 + c.toNat) 0
theorem beN_snoc {l : List UInt8} {k : Nat} {c : UInt8} (h : l[k]? = some c) : beN (l.take (k + 1)) = beN (l.take k) * 256 + c.toNat := by
  rw [take_snoc h]; simp [beN]
theorem beN_lt : ∀ (k : Nat) (l : List UInt8), beN (l.take k) < 256 ^ k
  | 0, l => by simp [beN]
  | k + 1, l => by
    have ih := beN_lt k l
    rcases Nat.lt_or_ge k l.length with h | h
    · obtain ⟨c, hc⟩ := get_some h
      have := c.toNat_lt
      rw [beN_snoc hc, Nat.pow_succ]; omega
    · rw [List.take_of_length_le (by omega)]
      rw [List.take_of_length_le h] at ih
      have : 256 ^ k ≤ 256 ^ (k + 1) := Nat.pow_le_pow_right (by decide) (by omega)
      omega
theorem or64 {z c : Nat} (hz : z < 72057594037927936) (hc : c < 256) : bitsOf .or .u64 (IntKind.u64.wrap ((z : Int) * 2 ^ 8)) (c : Int) = ((z * 256 + c : Nat) : Int) := by
  have e : IntKind.u64.wrap ((z : Int) * 2 ^ 8) = ((z * 256 : Nat) : Int) := by rw [wrU64 (by omega) (by omega)]; omega
  rw [e, bitsOf_orN rfl (z * 256) c (by show _ < 18446744073709551616; omega) (by show _ < 18446744073709551616; omega)]
  have := Nat.two_pow_add_eq_or_of_lt (i := 8) (b := c) (by omega) z
  rw [Nat.mul_comm, ← this]
theorem ct_zzBig (g : GW) (x : Fx) (hx : FxOk g x) (s0 : St) (pos : Nat) (hs : StOk x s0 pos) (n : Nat) (hn : n ≤ 4) :
    Ct Tryz.prog g 134 [srV x, .int .i64 n] (stA x s0 pos)
      (fun v _ H' => ∃ (s' : St) (p' : Nat) (z : Nat) (er : Value), v = .tuple #[.int .u64 z, er] ∧ (pos + n ≤ x.C.length → er = .nilIface ∧ p' = pos + n ∧ z = beN ((x.C.drop pos).take n)) ∧ (x.C.length < pos + n → ErE x er) ∧ StOk x s' p' ∧ H' = stA x s' p') := by
  have hp4 : (256 : Nat) ^ 4 = 4294967296 := by decide
  refine CI Tryz.func134 Tryz.ntmps134 rfl fun F g0 hg0 => ?_
  replace hx := hx.mono hg0
  refine SR (La rfl (La rfl (nSR (Lk (e_alloc Tryz.zeroValue330 (show _ = (bvs (List.replicate 8 0)).toArray from rfl)) ?_))))
  rintro _ _ _ - ⟨e, rfl, rfl⟩
  refine nS (T_seq (SR (Lm rfl (Lm rfl (Lp (p_slAH (b := n) rfl Tryz.runUnderlying330 Tryz.sizeOf5 rfl rfl (by omega) rfl) ?_)))))
  have hBf : Bf (sl (.slice (some ⟨e, 0, none⟩) 8 8) 0 n 1) n (fun ys => blk e (.cells (bvs ((List.replicate 8 (0 : UInt8)).take 0 ++ ys ++ (List.replicate 8 (0 : UInt8)).drop n)).toArray 330)) := Bf.whole.sub (xs := List.replicate 8 0) (by simp) (Nat.zero_le _) (by omega)
  have hxl : (((List.replicate 8 (0 : UInt8)).drop 0).take (n - 0)).length = n := by rw [List.length_take, List.length_drop, List.length_replicate]; omega
  rw [← parts (List.replicate 8 (0 : UInt8)) 0 n (Nat.zero_le _)]
  refine Lk (e_call rfl (ct_readFull g0 x hx s0 pos hs _ n _ _ hBf hxl (by omega)) (K0 (K0 (K0 (K0 (K0 (K0 (K0 (K0 .nil))))))))) ?_
  rintro _ _ _ - ⟨_, rfl, ⟨s2, k, er, ys, rfl, h1, h2, h3, h4, rfl⟩⟩
  refine Lm rfl (Lx rfl rfl (Lx rfl rfl (La rfl (La rfl (nSR ?_)))))
  obtain ⟨hec1, hec2, hin⟩ := rf_er (x := x) (n := pos + n) (er := er) (Q := k = n ∧ ys = (x.C.drop pos).take n) (fun h => ⟨(h2 h).2.1, (h2 h).1, (h2 h).2.2⟩) h3
  refine Lm rfl (Lp (p_neqE0 hin rfl Tryz.underlying64) (nS (T_condNB rfl (fun hc3 => ?_) (fun hc3 => ?_))))
  ·
    have hee := hec2 (isB_f hc3)
    refine SR (Lm rfl (La rfl (La rfl (nr (E_seq_ret (E_ret2 [_, _, _, _, _, _, _] rfl (.refl _) rfl rfl (K1 (K1 (K1 (K1 (K1 (K1 (K1 (K1 .nil)))))))) (fun g' hl => ?_)))))))
    exact ⟨s2, pos + k, 0, er, rfl, fun h => absurd h (by omega), fun _ => hee.2, h4, rfl⟩
  ·
    have hee := hec1 (isB_t hc3)
    obtain ⟨hlen, rfl, rfl⟩ := hee
    refine kS (SR (La rfl (nS (T_seq (SR (Lm rfl (Lp (p_slAH (b := k) rfl Tryz.runUnderlying330 Tryz.sizeOf5 rfl rfl (by omega) rfl) (Lp (p_len hBf.shp rfl rfl Tryz.runUnderlying25) (Lm rfl ?_)))))))))
    refine nS (T_block (T_loop (ι := Nat) (fun j _ => j ≤ k) (fun j => [(9, .int .u64 (beN (((x.C.drop pos).take k).take j) : Nat)), (23, sl (.slice (some ⟨e, 0, none⟩) 8 8) 0 k 1), (24, .int .i64 k), (25, .int .i64 j)]) (fun _ => [blk e (.cells (bvs ((List.replicate 8 (0 : UInt8)).take 0 ++ (x.C.drop pos).take k ++ (List.replicate 8 (0 : UInt8)).drop k)).toArray 330), blk x.sr (.cells (srC (brV x.br) x.wv x.rb x.wb (pos + k)) 170), blk x.br (.cells (brC x.cv s2.rb.i s2.rb.pr) 133), blk x.rb (.cells (rbC x.bv (brV x.br) s2.rb.r s2.rb.w .nilIface s2.rb.lb s2.rb.lr) 263), own x.bv 1 5 (bvs s2.rb.bl), blk x.wb (.cells (bwC .nilIface x.bv2 s2.bw.n x.wv) 258), own x.bv2 1 5 (bvs s2.bw.bl), s2.bw.S, F]) (fun j => k - j) (0) (fun g' hl => Nat.zero_le _) (by repeat (first | exact SubL.nil | refine SubL.cons rfl ?_)) (K0 (K0 (K0 (K0 (K0 (K0 (K0 (K0 (K0 .nil))))))))) ?_))
    rintro j gA hlgA hj
    have hbl := beN_lt j ((x.C.drop pos).take k)
    refine SR (Lp (p_lss rfl rfl) (nS (T_seq (T_condD rfl (fun hc5 => ?_) (fun hc5 => ?_)))))
    ·
      replace hc5 : j < k := by omega
      obtain ⟨cc, hcc⟩ := get_some (l := (x.C.drop pos).take k) (k := j) (by omega)
      have hc256 := u8lt cc
      have hpj : (256 : Nat) ^ j ≤ 256 ^ 4 := Nat.pow_le_pow_right (by decide) (by omega)
      refine kS (T_seq (T_block (SR (Lp (p_ix (hBf.shp) (j := j) rfl rfl Tryz.runUnderlying25 Tryz.sizeOf5 (by omega) (by omega) rfl) (Lp (p_ldBf hBf h1 rfl Tryz.isAgg5 (.head _) hcc) (La rfl (nR (Lm rfl (Lp (p_shl (n := 8) rfl rfl (by decide) rfl rfl) ?_)))))))))
      refine Lm rfl (Lp (p_conv rfl Tryz.runUnderlying5 Tryz.runUnderlying108 (wrU64 (by omega) (by omega))) (Lp (p_or rfl rfl (or64 (by omega) hc256)) (La rfl (TL_nil (E_block (E_seq (T_region (Lp (p_add rfl rfl (wr64 (by omega) (by omega))) (Lm rfl ?_)))))))))
      refine TL_nil ?_
      refine E_loop (.refl _) (j + 1) ?hm ?hI (by rw [beN_snoc hcc]; repeat (first | exact SubL.nil | refine SubL.cons rfl ?_)) ((K0 (K0 (K0 (K0 (K0 (K0 (K0 (K0 (K0 .nil))))))))))
      case hm => exact (by omega)
      case hI => exact (fun g' hl => by omega)
    ·
      obtain rfl : j = k := by omega
      refine T_exit (E_seq_exit (E_loop_exit (E_block_hit (E_seq (SR (Lm rfl (La rfl (La rfl (nr (E_ret2 [_, _, _, _, _, _, _] rfl hlgA rfl rfl (K1 (K1 (K1 (K1 (K1 (K1 (K1 (K1 .nil)))))))) (fun g' hl => ?_)))))))))))
      exact ⟨s2, pos + j, _, _, rfl, fun _ => ⟨rfl, rfl, by rw [List.take_take, Nat.min_self]⟩, fun h => absurd h (by omega), h4, rfl⟩
end Go.Proofs.YtolddodhmeaceaaGreatDoor
namespace Go.Proofs.YtolddodhmeaceaaGreatDoor
open Go.Hl Go.Pk
theorem beN_one (c : UInt8) : beN [c] = c.toNat := by simp [beN]
theorem take_one {C : List UInt8} {pos : Nat} (h : pos + 1 ≤ C.length) : ∃ c, C[pos]? = some c ∧ (C.drop pos).take 1 = [c] := by
  obtain ⟨c, hc⟩ := get_some (l := C) (k := pos) (by omega)
  refine ⟨c, hc, ?_⟩
  rw [List.drop_eq_getElem_cons (by omega)]
  rw [List.getElem?_eq_getElem (by omega)] at hc
  cases hc; rfl
theorem ct_zzRead8 (g : GW) (x : Fx) (hx : FxOk g x) (s0 : St) (pos : Nat) (hs : StOk x s0 pos) (cb : Nat) (c0 : UInt8) (e : TypeId) :
    Ct Tryz.prog g 92 [srV x, .iface 269 (.pointer (some ⟨cb, 0, none⟩))] (blk cb (.cells #[.int .u8 c0.toNat] e) :: stA x s0 pos)
      (fun v _ H' => ∃ (s' : St) (p' : Nat) (c : UInt8), (pos + 1 ≤ x.C.length → v = .nilIface ∧ p' = pos + 1 ∧ x.C[pos]? = some c) ∧ (x.C.length < pos + 1 → ErE x v) ∧ StOk x s' p' ∧ H' = blk cb (.cells #[.int .u8 c.toNat] e) :: stA x s' p') := by
  refine CI Tryz.func92 Tryz.ntmps92 rfl fun F g0 hg0 => ?_
  replace hx := hx.mono hg0
  refine SR (La rfl (nS (T_seq (SR (Lm rfl (nS (T_block (SR (Lp (p_assertV rfl (fun w => by kernel_rfl)) ?_)))))))))
  refine Lx rfl rfl (Lx rfl rfl (nS (T_condT rfl (SR (La rfl (nSR (Lm rfl (Lk (e_call rfl (ct_zzBig g0 x hx s0 pos hs 1 (by omega)) (K1 (K1 (K1 (K1 (K1 (K1 (K1 .nil)))))))) ?_))))))))
  rintro _ _ _ - ⟨_, rfl, ⟨s2, p2, z, er, rfl, h1, h2, h4, rfl⟩⟩
  refine Lm rfl (Lx rfl rfl (Lx rfl rfl (La rfl (La rfl (nS (T_seq (SR ?_)))))))
  obtain ⟨hec1, hec2, hin⟩ := rf_er (x := x) (n := pos + 1) (er := er) h1 h2
  refine Lm rfl (Lp (p_eqlE0 hin rfl Tryz.underlying64) (nS (T_cond rfl (fun hc2 => ?_) (fun hc2 => ?_))))
  ·
    have hee := hec1 (isB_t hc2)
    obtain ⟨hlen, rfl, rfl⟩ := hee
    obtain ⟨c, hc1, hc2⟩ := take_one hlen
    have hc256 := u8lt c
    rw [hc2, beN_one]
    refine T_region (Lm rfl (Lm rfl (Lp (p_conv rfl Tryz.runUnderlying108 Tryz.runUnderlying5 (wrU8 (by omega) (by omega))) (Ln rfl (TL_k0 (e_store1 rfl rfl Tryz.sizeOf5 rfl (K7 .nil) rfl rfl rfl) ?_)))))
    rintro _ _ _ - ⟨rfl, rfl⟩
    refine nSR (Lm rfl (La rfl (nr (E_block_ret (E_seq_ret (E_ret1 [_, _, _, _, _, _, _, _] rfl (.refl _) rfl (K0 (K0 (K0 (K0 (K0 (K0 (K0 (K0 (K0 .nil))))))))) (fun g' hl => ?_)))))))
    exact ⟨s2, pos + 1, c, fun _ => ⟨isB_t (by assumption), rfl, hc1⟩, fun h => absurd h (by omega), h4, rfl⟩
  ·
    have hee := hec2 (isB_f hc2)
    refine kS (SR (Lm rfl (La rfl (nr (E_block_ret (E_seq_ret (E_ret1 [_, _, _, _, _, _, _, _] rfl (.refl _) rfl (K7 (K0 (K0 (K0 (K0 (K0 (K0 (K0 (K0 .nil))))))))) (fun g' hl => ?_))))))))
    exact ⟨s2, p2, c0, fun h => absurd h (by omega), fun _ => hee.2, h4, rfl⟩
theorem ct_zzRead32 (g : GW) (x : Fx) (hx : FxOk g x) (s0 : St) (pos : Nat) (hs : StOk x s0 pos) (cb : Nat) (z0 : Int) (e : TypeId) :
    Ct Tryz.prog g 92 [srV x, .iface 261 (.pointer (some ⟨cb, 0, none⟩))] (blk cb (.cells #[.int .u32 z0] e) :: stA x s0 pos)
      (fun v _ H' => ∃ (s' : St) (p' : Nat) (z : Int), (pos + 4 ≤ x.C.length → v = .nilIface ∧ p' = pos + 4 ∧ z = (beN ((x.C.drop pos).take 4) : Nat)) ∧ (x.C.length < pos + 4 → ErE x v) ∧ StOk x s' p' ∧ H' = blk cb (.cells #[.int .u32 z] e) :: stA x s' p') := by
  have hp4 : (256 : Nat) ^ 4 = 4294967296 := by decide
  refine CI Tryz.func92 Tryz.ntmps92 rfl fun F g0 hg0 => ?_
  replace hx := hx.mono hg0
  refine SR (La rfl (nS (T_seq (SR (Lm rfl (nS (T_block (SR (Lp (p_assertP rfl (fun w => by kernel_rfl)) ?_)))))))))
  refine Lx rfl rfl (Lx rfl rfl (nS (T_condF rfl (SR (Lp (p_assertP rfl (fun w => by kernel_rfl)) (Lx rfl rfl (Lx rfl rfl (nS (T_condF rfl ?_)))))))))
  refine SR (Lp (p_assertV rfl (fun w => by kernel_rfl)) (Lx rfl rfl (Lx rfl rfl (nS (T_condT rfl (SR (La rfl (TL_nil (E_seq ?_)))))))))
  refine SR (Lm rfl (Lk (e_call rfl (ct_zzBig g0 x hx s0 pos hs 4 (by omega)) (K1 (K1 (K1 (K1 (K1 (K1 (K1 .nil)))))))) ?_))
  rintro _ _ _ - ⟨_, rfl, ⟨s2, p2, z, er, rfl, h1, h2, h4, rfl⟩⟩
  refine Lm rfl (Lx rfl rfl (Lx rfl rfl (La rfl (La rfl (nS (T_seq (SR ?_)))))))
  obtain ⟨hec1, hec2, hin⟩ := rf_er (x := x) (n := pos + 4) (er := er) h1 h2
  refine Lm rfl (Lp (p_eqlE0 hin rfl Tryz.underlying64) (nS (T_cond rfl (fun hc2 => ?_) (fun hc2 => ?_))))
  ·
    have hee := hec1 (isB_t hc2)
    obtain ⟨hlen, rfl, rfl⟩ := hee
    have hbl := beN_lt 4 (x.C.drop pos)
    refine T_region (Lm rfl (Lm rfl (Lp (p_conv rfl Tryz.runUnderlying108 Tryz.runUnderlying29 (wrU32 (by omega) (by omega))) (Ln rfl (TL_k0 (e_store1 rfl rfl Tryz.sizeOf29 rfl (K7 .nil) rfl rfl rfl) ?_)))))
    rintro _ _ _ - ⟨rfl, rfl⟩
    refine nSR (Lm rfl (La rfl (nr (E_block_ret (E_seq_ret (E_ret1 [_, _, _, _, _, _, _, _] rfl (.refl _) rfl (K0 (K0 (K0 (K0 (K0 (K0 (K0 (K0 (K0 .nil))))))))) (fun g' hl => ?_)))))))
    exact ⟨s2, pos + 4, _, fun _ => ⟨isB_t (by assumption), rfl, rfl⟩, fun h => absurd h (by omega), h4, rfl⟩
  ·
    have hee := hec2 (isB_f hc2)
    refine kS (SR (Lm rfl (La rfl (nr (E_block_ret (E_seq_ret (E_ret1 [_, _, _, _, _, _, _, _] rfl (.refl _) rfl (K7 (K0 (K0 (K0 (K0 (K0 (K0 (K0 (K0 .nil))))))))) (fun g' hl => ?_))))))))
    exact ⟨s2, p2, z0, fun h => absurd h (by omega), fun _ => hee.2, h4, rfl⟩
theorem ct_zzReadB (g : GW) (x : Fx) (hx : FxOk g x) (s0 : St) (pos : Nat) (hs : StOk x s0 pos) (pv : Value) (m : Nat) (A : List UInt8 → Atom) (xs : List UInt8) (hB : Bf pv m A) (hxs : xs.length = m) (hm2 : m ≤ 1000000000) :
    Ct Tryz.prog g 92 [srV x, .iface 25 pv] (A xs :: stA x s0 pos)
      (fun v _ H' => ∃ (s' : St) (p' : Nat) (ys : List UInt8), ys.length = m ∧ (pos + m ≤ x.C.length → v = .nilIface ∧ p' = pos + m) ∧ (x.C.length < pos + m → ErE x v) ∧ StOk x s' p' ∧ H' = A ys :: stA x s' p') := by
  refine CI Tryz.func92 Tryz.ntmps92 rfl fun F g0 hg0 => ?_
  replace hx := hx.mono hg0
  refine SR (La rfl (nS (T_seq (SR (Lm rfl (nS (T_block (SR (Lp (p_assertP rfl (fun w => by kernel_rfl)) ?_)))))))))
  refine Lx rfl rfl (Lx rfl rfl (nS (T_condF rfl (SR (Lp (p_assertP rfl (fun w => by kernel_rfl)) (Lx rfl rfl (Lx rfl rfl (nS (T_condF rfl ?_)))))))))
  refine SR (Lp (p_assertP rfl (fun w => by kernel_rfl)) (Lx rfl rfl (Lx rfl rfl (nS (T_condF rfl (SR (Lp (p_assertP rfl (fun w => by kernel_rfl)) (Lx rfl rfl (Lx rfl rfl ?_)))))))))
  refine nS (T_condF rfl (SR (Lp (p_assertP rfl (fun w => by kernel_rfl)) (Lx rfl rfl (Lx rfl rfl (nS (T_condF rfl (SR (Lp (p_assertP rfl (fun w => by kernel_rfl)) ?_)))))))))
  refine Lx rfl rfl (Lx rfl rfl (nS (T_condF rfl (SR (Lp (p_assertV rfl (fun w => by kernel_rfl)) (Lx rfl rfl (Lx rfl rfl (nS (T_condT rfl ?_)))))))))
  refine SR (La rfl (nSR (Lm rfl (Lm rfl (Lk (e_call rfl (ct_readFull g0 x hx s0 pos hs pv m A xs hB hxs hm2) (K0 (K0 (K0 (K0 (K0 (K0 (K0 (K0 .nil))))))))) ?_)))))
  rintro _ _ _ - ⟨_, rfl, ⟨s2, k, er, ys, rfl, h1, h2, h3, h4, rfl⟩⟩
  refine Lm rfl (Lx rfl rfl (Lx rfl rfl (La rfl (La rfl (nSR (Lm rfl (La rfl (nr (E_block_ret ?_)))))))))
  refine E_seq_ret (E_ret1 [_, _, _, _, _, _, _, _] rfl (.refl _) rfl (K0 (K0 (K0 (K0 (K0 (K0 (K0 (K0 (K0 .nil))))))))) (fun g' hl => ?_))
  exact ⟨s2, pos + k, ys, h1, fun h => ⟨(h2 h).2.1, by rw [(h2 h).1]⟩, h3, h4, rfl⟩
theorem ct_readUint32 (g : GW) (x : Fx) (hx : FxOk g x) (s0 : St) (pos : Nat) (hs : StOk x s0 pos) :
    Ct Tryz.prog g 78 [srV x] (stA x s0 pos)
      (fun v _ H' => ∃ (s' : St) (p' : Nat) (z : Int) (er : Value), v = .tuple #[.int .u32 z, er] ∧ (pos + 4 ≤ x.C.length → er = .nilIface ∧ p' = pos + 4 ∧ z = (beN ((x.C.drop pos).take 4) : Nat)) ∧ (x.C.length < pos + 4 → ErE x er) ∧ StOk x s' p' ∧ H' = stA x s' p') := by
  refine CI Tryz.func78 Tryz.ntmps78 rfl fun F g0 hg0 => ?_
  replace hx := hx.mono hg0
  refine SR (La rfl (La rfl (nSR (Lk (e_alloc Tryz.zeroValue29 (show _ = #[Value.int .u32 0] from rfl)) ?_))))
  rintro _ _ _ - ⟨e, rfl, rfl⟩
  refine nS (T_seq (SR (Lm rfl (Lp (p_mkIface rfl Tryz.runUnderlying261 (fun _ h => by cases h)) (Lk (e_call rfl (ct_zzRead32 g0 x hx s0 pos hs e 0 _) (K0 (K0 (K0 (K0 (K0 (K0 (K0 (K0 .nil))))))))) ?_)))))
  rintro _ _ _ - ⟨_, rfl, ⟨s2, p2, z, h1, h2, h4, rfl⟩⟩
  refine La rfl (nSR ?_)
  obtain ⟨hec1, hec2, hin⟩ := rf_er (x := x) (n := pos + 4) h1 h2
  refine Lm rfl (Lp (p_neqE0 hin rfl Tryz.underlying64) (nS (T_condNB rfl (fun hc3 => ?_) (fun hc3 => ?_))))
  ·
    have hee := hec2 (isB_f hc3)
    refine SR (Lm rfl (La rfl (La rfl (nr (E_seq_ret (E_ret2 [_, _, _, _, _, _, _] rfl (.refl _) rfl rfl (K1 (K1 (K1 (K1 (K1 (K1 (K1 (K1 .nil)))))))) (fun g' hl => ?_)))))))
    exact ⟨s2, p2, 0, _, rfl, fun h => absurd h (by omega), fun _ => hee.2, h4, rfl⟩
  ·
    have hee := hec1 (isB_t hc3)
    refine kS (SR (Lp (p_load rfl Tryz.isAgg29 (.head _) rfl) (La rfl (La rfl (nr (E_ret2 [_, _, _, _, _, _, _] rfl (.refl _) rfl rfl (K1 (K1 (K1 (K1 (K1 (K1 (K1 (K1 .nil)))))))) (fun g' hl => ?_)))))))
    exact ⟨s2, p2, z, _, rfl, fun _ => ⟨rfl, hee.2.1, hee.2.2⟩, fun h => absurd h (by omega), h4, rfl⟩
theorem ct_binRead (g : GW) (x : Fx) (hx : FxOk g x) (s0 : St) (pos : Nat) (hs : StOk x s0 pos) (cb : Nat) (c0 : UInt8) (e : TypeId) (dv : Value) (hdv : Shp dv 1) (et : TypeId) :
    Ct Tryz.prog g 131 [srV x, dv] (own dv 1 et [.iface 269 (.pointer (some ⟨cb, 0, none⟩))] :: blk cb (.cells #[.int .u8 c0.toNat] e) :: stA x s0 pos)
      (fun v _ H' => ∃ (s' : St) (p' : Nat) (c : UInt8), (pos + 1 ≤ x.C.length → v = .nilIface ∧ p' = pos + 1 ∧ x.C[pos]? = some c) ∧ (x.C.length < pos + 1 → ErE x v) ∧ StOk x s' p' ∧ H' = blk cb (.cells #[.int .u8 c.toNat] e) :: stA x s' p') := by
  refine CI Tryz.func131 Tryz.ntmps131 rfl fun F g0 hg0 => ?_
  replace hx := hx.mono hg0
  refine SR (La rfl (nS (T_seq (SR (Lm rfl (Lp (p_len (hdv) rfl rfl Tryz.runUnderlying317) (Lm rfl (nS (T_block (T_loop (ι := Nat × St × Nat × UInt8) (fun y _ => (y.1 = 0 ∧ y.2.1 = s0 ∧ y.2.2.1 = pos) ∨ (y.1 = 1 ∧ StOk x y.2.1 y.2.2.1 ∧ y.2.2.1 = pos + 1 ∧ pos + 1 ≤ x.C.length ∧ x.C[pos]? = some y.2.2.2)) (fun y => [(0, srV x), (8, dv), (9, .int .i64 1), (10, .int .i64 y.1)]) (fun y => [own dv 1 et [.iface 269 (.pointer (some ⟨cb, 0, none⟩))], blk cb (.cells #[.int .u8 y.2.2.2.toNat] e), blk x.sr (.cells (srC (brV x.br) x.wv x.rb x.wb y.2.2.1) 170), blk x.br (.cells (brC x.cv y.2.1.rb.i y.2.1.rb.pr) 133), blk x.rb (.cells (rbC x.bv (brV x.br) y.2.1.rb.r y.2.1.rb.w .nilIface y.2.1.rb.lb y.2.1.rb.lr) 263), own x.bv 1 5 (bvs y.2.1.rb.bl), blk x.wb (.cells (bwC .nilIface x.bv2 y.2.1.bw.n x.wv) 258), own x.bv2 1 5 (bvs y.2.1.bw.bl), y.2.1.bw.S, F]) (fun y => 1 - y.1) ((0, s0, pos, c0)) (fun g' hl => .inl ⟨rfl, rfl, rfl⟩) (by repeat (first | exact SubL.nil | refine SubL.cons rfl ?_)) (K0 (K0 (K0 (K0 (K0 (K0 (K0 (K0 (K0 (K0 .nil)))))))))) ?_))))))))))
  rintro ⟨k, s1, p1, c1⟩ gA hlgA hk
  try dsimp only
  try dsimp only at hk
  replace hx := hx.mono hlgA
  refine SR (Lp (p_lss rfl rfl) (nS (T_seq (T_condD rfl (fun hc2 => ?_) (fun hc2 => ?_)))))
  ·
    obtain ⟨rfl, rfl, rfl⟩ := hk.resolve_right (by omega)
    refine kS (T_seq (T_block (SR (Lp (p_ix (hdv) (j := 0) rfl rfl Tryz.runUnderlying317 Tryz.sizeOf20 (by omega) (by omega) rfl) (Lp (p_ldOwn rfl Tryz.isAgg20 (.head _) rfl) (La rfl (nSR (Lm rfl (Lm rfl ?_)))))))))
    refine Lk (e_call rfl (ct_zzRead8 gA x hx s1 p1 hs cb c1 e) (K1 (K1 (K1 (K1 (K1 (K1 (K1 (K1 .nil))))))))) ?_
    rintro _ _ _ - ⟨_, rfl, ⟨s2, p2, c, h1, h2, h4, rfl⟩⟩
    refine La rfl (nSR ?_)
    obtain ⟨hec1, hec2, hin⟩ := rf_er (x := x) (n := p1 + 1) h1 h2
    refine Lm rfl (Lp (p_neqE0 hin rfl Tryz.underlying64) (nS (T_condNB rfl (fun hc4 => ?_) (fun hc4 => ?_))))
    ·
      have hee := hec2 (isB_f hc4)
      refine SR (Lm rfl (La rfl (nr (E_block_ret (E_seq_ret (E_loop_ret (E_block_ret (E_seq_ret (E_ret1 [_, _, _, _, _, _, _, _] rfl hlgA rfl (K0 (K0 (K0 (K0 (K0 (K0 (K0 (K0 (K1 .nil))))))))) (fun g' hl => ?_))))))))))
      exact ⟨s2, p2, c, fun h => absurd h (by omega), fun _ => hee.2, h4, rfl⟩
    ·
      have hee := hec1 (isB_t hc4)
      refine T_skip (E_block (E_seq (T_region (Lp (p_add rfl rfl (wr64 (by omega) (by omega))) (Lm rfl (TL_nil (EL (.refl _) ((1, s2, p2, c)) ?hm ?hI ((K8 (K0 (K0 (K0 (K0 (K0 (K0 (K0 (K0 (K0 .nil))))))))))))))))))
      case hm => exact (by dsimp only; omega)
      case hI => exact (fun g' hl => .inr ⟨rfl, h4, hee.2.1, hee.1, hee.2.2⟩)
  ·
    obtain ⟨rfl, hk1, rfl, hk3, hk4⟩ := hk.resolve_left (by omega)
    refine T_exit (E_seq_exit (E_loop_exit (E_block_hit (E_seq (SR (La rfl (nr (E_ret1 [_, _, _, _, _, _, _, _] rfl hlgA rfl (K1 (K1 (K1 (K1 (K1 (K1 (K1 (K1 (K1 .nil))))))))) (fun g' hl => ?_)))))))))
    exact ⟨s1, _, c1, fun _ => ⟨rfl, rfl, hk4⟩, fun h => absurd h (by omega), hk1, rfl⟩
end Go.Proofs.YtolddodhmeaceaaGreatDoor
namespace Go.Proofs.YtolddodhmeaceaaGreatDoor
open Go.Hl Go.Pk
def IsE (g : GW) (er : Value) : Prop := ∃ p, er = EVal ES p ∧ EP g p.1
theorem IsE.mono {g g' : GW} {er : Value} (h : IsE g er) (hl : Le g g') : IsE g' er := let ⟨p, h1, h2⟩ := h; ⟨p, h1, h2.mono hl⟩
theorem IsE.ne {g : GW} {er : Value} (h : IsE g er) : er ≠ .nilIface := by obtain ⟨p, rfl, _⟩ := h; intro h; cases h
theorem FxOk.eofE {g : GW} {x : Fx} (hx : FxOk g x) : IsE g (EVal ES x.eE) := ⟨_, rfl, hx.env.peof⟩
theorem FxOk.ofE {g : GW} {x : Fx} (hx : FxOk g x) {er : Value} (h : ErE x er) : IsE g er := h.is hx
theorem pre_cons {C X : List UInt8} {N pos : Nat} {c : UInt8} (h : Pre C N pos (c :: X)) (hl : pos < C.length) : C[pos]? = some c ∧ Pre C N (pos + 1) X := by
  obtain ⟨d, X', he, h1, h2⟩ := h.get hl
  injection he with e1 e2
  subst e1; subst e2
  exact ⟨h1, h2⟩
theorem and128d : ∀ c : Nat, c < 256 → bitsOf .and .u8 (c : Int) 128 = ((c / 128 * 128 : Nat) : Int) := by decide
theorem and127d : ∀ c : Nat, c < 256 → bitsOf .and .u8 (c : Int) 127 = ((c % 128 : Nat) : Int) := by decide
theorem and112d : ∀ c : Nat, c < 256 → bitsOf .and .u8 (c : Int) 112 = ((c / 16 % 8 * 16 : Nat) : Int) := by decide
def scnC (sr : Nat) (crc hv pend : Value) (ver obj : Int) (sk : Bool) : Array Value := #[.pointer (some ⟨sr, 0, none⟩), crc, hv, pend, .int .u32 ver, .int .u32 obj, .bool sk]
theorem ct_parseType (g : GW) (c : UInt8) : Ct Tryz.prog g 153 [Hl.bv c] [] (fun v _ H' => v = .int .i8 ((c.toNat / 16 % 8 : Nat) : Int) ∧ H' = []) := by
  have hc := u8lt c
  refine CI Tryz.func153 Tryz.ntmps153 rfl fun F g0 hg0 => ?_
  refine SR (La rfl (nSR (Lm rfl (Lp (p_and rfl rfl (and112d c.toNat hc)) ?_))))
  refine Lp (p_shr rfl rfl (by decide) rfl (show ((c.toNat / 16 % 8 * 16 : Nat) : Int).fdiv (2 ^ 4) = ((c.toNat / 16 % 8 : Nat) : Int) from by rw [show (2 : Int) ^ 4 = ((16 : Nat) : Int) from rfl, fdivN]; omega)) ?_
  refine Lp (p_conv rfl Tryz.runUnderlying5 Tryz.runUnderlying77 (wrI8 (by omega) (by omega))) (La rfl (nr (E_ret1 [] rfl (.refl _) rfl (K0 .nil) (fun g' hl => ?_))))
  exact ⟨rfl, rfl⟩
theorem ct_readType (g : GW) (x : Fx) (hx : FxOk g x) (s0 : St) (pos : Nat) (hs : StOk x s0 pos) (sn : Nat) (crc hv pend : Value) (ver obj : Int) (sk : Bool) :
    Ct Tryz.prog g 129 [.pointer (some ⟨sn, 0, none⟩)] (blk sn (.cells (scnC x.sr crc hv pend ver obj sk) 131) :: stA x s0 pos)
      (fun v _ H' => ∃ (s' : St) (p' : Nat) (u : UInt8) (er : Value), (v = .tuple #[.int .i8 ((u.toNat / 16 % 8 : Nat) : Int), .int .u8 u.toNat, er]) ∧ (pos < x.C.length → er = .nilIface ∧ x.C[pos]? = some u ∧ p' = pos + 1) ∧ (pos = x.C.length → er = EVal ES x.eE) ∧ StOk x s' p' ∧ H' = blk sn (.cells (scnC x.sr crc hv pend ver obj sk) 131) :: stA x s' p') := by
  have hpl := hs.le
  refine CI Tryz.func129 Tryz.ntmps129 rfl fun F g0 hg0 => ?_
  replace hx := hx.mono hg0
  refine SR (La rfl (La rfl (La rfl (nSR (La rfl (nSR (La rfl (nS (T_seq ?_)))))))))
  refine SR (Lm rfl (Ln rfl (Lf rfl Tryz.runUnderlying131 rfl Tryz.sizeOf123 rfl (Lp (p_load rfl Tryz.isAgg123 (.head _) rfl) (Lk (e_call rfl (ct_srReadByte g0 x hx s0 pos hs) (K1 (K1 (K1 (K1 (K1 (K1 (K1 .nil)))))))) ?_)))))
  rintro _ _ _ - ⟨_, rfl, ⟨s2, p2, u, er, rfl, h1, h2, h4, rfl⟩⟩
  refine Lm rfl (Lx rfl rfl (Lx rfl rfl (La rfl (La rfl (nSR ?_)))))
  obtain ⟨hec1, hec2, hin⟩ := er_eof hpl (fun h => (h2 h).1) (fun h => (h1 h).1)
  refine Lm rfl (Lp (p_neqE0 hin rfl Tryz.underlying64) (nS (T_condNB rfl (fun hc2 => ?_) (fun hc2 => ?_))))
  ·
    have hee := hec2 (isB_f hc2)
    have hen := isB_f hc2
    refine SR (Lm rfl (La rfl (La rfl (La rfl (nr (E_seq_ret (E_ret3 [_, _, _, _, _, _, _, _] rfl (.refl _) rfl rfl rfl (K7 (K0 (K0 (K0 (K0 (K0 (K0 (K0 (K0 .nil))))))))) (fun g' hl => ?_))))))))
    exact ⟨s2, p2, 0, er, rfl, fun h => absurd h (by omega), fun h => (h2 h).1, h4, rfl⟩
  ·
    obtain rfl := isB_t hc2
    have hee := hec1 rfl
    refine kS (SR (Lm rfl (Lk (e_call rfl (ct_parseType g0 u) .nil) ?_)))
    rintro _ _ _ - ⟨_, rfl, ⟨rfl, rfl⟩⟩
    refine La rfl (nSR (Lm rfl (Lm rfl (La rfl (La rfl (La rfl (nr (E_ret3 [_, _, _, _, _, _, _, _] rfl (.refl _) rfl rfl rfl (K7 (K0 (K0 (K0 (K0 (K0 (K0 (K0 (K0 .nil))))))))) (fun g' hl => ?_)))))))))
    exact ⟨s2, p2, u, _, rfl, h1, fun h => absurd h (by omega), h4, rfl⟩
end Go.Proofs.YtolddodhmeaceaaGreatDoor
