/- Part 8 of the walk of laws.FnPackCut. -/
import Derived.Test.YtolddodhmeaceaaGreatDoorW07
set_option linter.unusedVariables false
set_option linter.unusedSimpArgs false
set_option maxRecDepth 100000
namespace Go.Hl
variable {P : Program}
def rowsA (e : TypeId) (R : List (Nat × Array Value)) : List Atom := R.map fun x => blk x.1 (.cells x.2 e)
section
variable {d : Option Nat} {ty : TypeId} {ps : String} {af : Array Edge} {gd : Option (Nat × Bool)} {g : GW} {L : List (Nat × Value)} {H Hr : List Atom}
theorem newRow_get {cs : Array Value} {len : Nat} {v : Value} {zc : Array Value} (hlc : len ≤ cs.size) : (∀ j, j < len → ((cs.toList.take len).toArray ++ #[v] ++ zc)[j]? = cs[j]?) ∧ ((cs.toList.take len).toArray ++ #[v] ++ zc)[len]? = some v := by
  have h1 : (cs.toList.take len).length = len := by rw [List.length_take, Array.length_toList]; omega
  constructor
  · intro j hj
    rw [Array.append_assoc, Array.getElem?_append_left (by simpa [h1] using hj), List.getElem?_toArray, List.getElem?_take_of_lt hj, Array.getElem?_toList]
  · rw [Array.getElem?_append_left (by simp [h1]), Array.getElem?_append_right (by simp [h1])]
    simp [h1]
/-- append(x, v) where the row of x is known to its last cell. -/
theorem run_appendB {sT xT elem by_ r len : Nat} {x : Value} {cs : Array Value} {v : Value} {e' : TypeId} {z : Value} {ti : TypeInfo} {at_ : Array TypeId}
    (h0 : at_[0]? = some sT) (h1 : at_[1]? = some xT) (hu : ∀ w, (underlying sT).run P w = .ok (.slice elem) w) (hux : ∀ w, (underlying xT).run P w = .ok (.slice e') w)
    (hz : ∀ w, (sizeOf elem).run P w = .ok 1 w) (hzv : ∀ w, (zeroValue elem).run P w = .ok z w) (hzs : z.cells.size = 1) (hti : ∀ w, (typeInfo elem).run P w = .ok ti w) (hby : ti.bytes = by_)
    (hby0 : 0 < by_) (hlc : len ≤ cs.size)
    (src : Src P g H x 1 1 [v]) (hroom : (len + 1) * by_ ≤ 70368744177664) {gw : GW} (hgw : Le g gw) (hsat : Sat H gw) (p : Part H [blk r (.cells cs elem)] Hr)
    (hone : v.oneCell' = true) :
    ∃ u w' R, (Builtin.append_ at_ ty #[.slice (some ⟨r, 0, none⟩) len cs.size, x]).run P gw.w = .ok u w' ∧ Le gw ⟨w', gw.I⟩ ∧ Sat (many (rowsA elem R) :: Hr) ⟨w', gw.I⟩ ∧
      ((len < cs.size ∧ u = .slice (some ⟨r, 0, none⟩) (len + 1) cs.size ∧ R = [(r, cs.setIfInBounds len v)]) ∨
       (∃ r2 cs2, u = .slice (some ⟨r2, 0, none⟩) (len + 1) cs2.size ∧ len + 1 ≤ cs2.size ∧ (∀ j, j < len → cs2[j]? = cs[j]?) ∧ cs2[len]? = some v ∧ R = [(r2, cs2), (r, cs)])) := by
  have hb : gw.w.heap[r]? = some (.cells cs elem) := hsat.head p
  have hd := (hsat.part p).dom (blk r (.cells cs elem)) (by simp)
  obtain ⟨hlen, hyl, hread⟩ := src
  have hfit' : len + 1 ≤ 70368744177664 := Nat.le_trans (Nat.le_mul_of_pos_right _ hby0) hroom
  have hfirst : ∀ g', Le g g' → Sat H g' → (Builtin.firstCells 1 1 x).run P g'.w = .ok #[v] g'.w := fun g' hl hs => by
    have := hread g' hl hs 1 (by simp)
    simpa using this
  by_cases hcap : len + 1 ≤ cs.size
  · have hpre : (Builtin.append_ at_ ty #[.slice (some ⟨r, 0, none⟩) len cs.size, x]).run P gw.w =
      (do
          storeCells (Addr.add ⟨r, 0, none⟩ (len * 1)) [v]
          pure (.slice (some ⟨r, 0, none⟩) (len + 1) cs.size) : Sem Value).run P gw.w := by
      unfold Builtin.append_
      simp [h0, h1, hu, hux, hz, hlen, hfirst gw hgw hsat, hcap]
    obtain ⟨w', hr, hw⟩ := run_storeCells_blk (P := P) r len elem (0, 0) [v] 0 cs gw.w hb (by simpa using hone) (by simp; omega) (fun k _ _ h => by simp at h)
    rw [hpre]
    refine ⟨.slice (some ⟨r, 0, none⟩) (len + 1) cs.size, w', [(r, cs.setIfInBounds len v)], ?_, ?_⟩
    · simp only [addr_add, Nat.mul_one, Nat.zero_add]
      rw [run_bind_ok hr]; rfl
    · obtain ⟨hs, hl⟩ := hsat.write p (.cells (cs.setIfInBounds len v) elem) w' hw.os hw.output hw.size (by have := hw.at_; simpa [setR] using this) (fun c hc => hw.other c hc)
      refine ⟨hl, ?_, .inl ⟨by omega, rfl, rfl⟩⟩
      exact Sat.foldTo (M := [blk r (.cells (cs.setIfInBounds len v) elem)]) hs
  · have hgw1 := hsat.drew (gw.w.drawn + 1)
    have hold : ∀ g', Sat H g' → (Builtin.firstCells 1 len (.slice (some ⟨r, 0, none⟩) len cs.size)).run P g'.w = .ok (cs.toList.take len).toArray g'.w := fun g' hs => by
      have hb' : g'.w.heap[r]? = some (.cells cs elem) := hs.head p
      have := firstCells_some (P := P) (w := g'.w) (b := r) (o := 0) (len := len) (cap := cs.size) (sz := 1) (k := len) (ys := cs.toList.take len) (by rw [List.length_take, Array.length_toList]; omega) (fun j u hj => by
        have hjl : j < len := by have := (List.getElem?_eq_some_iff.1 hj).1; rw [List.length_take] at this; omega
        rw [List.getElem?_take_of_lt hjl, Array.getElem?_toList] at hj
        simp only [World.cell?, hb', Option.isSome_none, Bool.false_eq_true, if_false, Nat.zero_add]
        exact hj)
      rw [show (cs.toList.take len).take (len * 1) = cs.toList.take len from by rw [Nat.mul_one, List.take_take, Nat.min_self]] at this
      exact this
    have h2 : ¬ ((9223372036854775807 < ((len : Int) + 1)) ∧ ti.bytes = 0) := by omega
    have h3 : ¬ (281474976710656 < Builtin.nextslicecap (len + 1) cs.size * ti.bytes) := by
      rw [hby]
      have := growslice_fits (need := len + 1) (old := cs.size) (bytes := by_) (by omega) (by omega)
      omega
    have hpre : (Builtin.append_ at_ ty #[.slice (some ⟨r, 0, none⟩) len cs.size, x]).run P gw.w =
      .ok (.slice (some ⟨gw.w.heap.size, 0, none⟩) (len + 1) (grownCap gw.w (len + 1) cs.size elem))
        { gw.w with drawn := gw.w.drawn + 1, heap := gw.w.heap.push (.cells ((cs.toList.take len).toArray ++ #[v] ++ Builtin.zeroCells z.cells (grownCap gw.w (len + 1) cs.size elem - (len + 1))) elem) } := by
      have hf1 := hfirst _ (hgw.trans hgw1.2) hgw1.1
      have hf2 := hold _ hgw1.1
      replace hf1 : (Builtin.firstCells 1 1 x).run P gw.w.drew = .ok #[v] gw.w.drew := hf1
      replace hf2 : (Builtin.firstCells 1 len (.slice (some ⟨r, 0, none⟩) len cs.size)).run P gw.w.drew = .ok (cs.toList.take len).toArray gw.w.drew := hf2
      unfold Builtin.append_
      simp [h0, h1, hu, hux, hz, hlen, hcap, hti, h2, h3, hzv, Question.forced, hf1, hf2, newRow, grownCap, -World.drew_eq, -World.alloc_eq]
      rfl
    have hcapge : len + 1 ≤ grownCap gw.w (len + 1) cs.size elem := by
      unfold grownCap; exact Nat.le_add_right _ _
    have hsize : ((cs.toList.take len).toArray ++ #[v] ++ Builtin.zeroCells z.cells (grownCap gw.w (len + 1) cs.size elem - (len + 1))).size = grownCap gw.w (len + 1) cs.size elem := by
      rw [Array.size_append, Array.size_append, size_zeroCells, hzs, List.size_toArray, List.length_take, Array.length_toList]
      simp; omega
    obtain ⟨hs, hl⟩ := hsat.alloc (.cells ((cs.toList.take len).toArray ++ #[v] ++ Builtin.zeroCells z.cells (grownCap gw.w (len + 1) cs.size elem - (len + 1))) elem)
    obtain ⟨hs2, hl2⟩ := hs.drew (gw.w.drawn + 1)
    refine ⟨_, _, [(gw.w.heap.size, _), (r, cs)], hpre, hl.trans hl2, ?_, .inr ⟨_, _, by rw [hsize], by rw [hsize]; exact hcapge, (newRow_get hlc).1, (newRow_get hlc).2, rfl⟩⟩
    exact Sat.foldTo (M := [blk gw.w.heap.size _, blk r (.cells cs elem)]) (hs2.part (.cons .here p))
theorem e_appendB {sT xT elem by_ r len : Nat} {xo so : Operand} {xv : Value} {cs : Array Value} {v : Value} {e' : TypeId} {z : Value} {ti : TypeInfo} {at_ : Array TypeId}
    (es : ev L so = some (.slice (some ⟨r, 0, none⟩) len cs.size)) (ex : ev L xo = some xv)
    (h0 : at_[0]? = some sT) (h1 : at_[1]? = some xT) (hu : ∀ w, (underlying sT).run P w = .ok (.slice elem) w) (hux : ∀ w, (underlying xT).run P w = .ok (.slice e') w)
    (hz : ∀ w, (sizeOf elem).run P w = .ok 1 w) (hzv : ∀ w, (zeroValue elem).run P w = .ok z w) (hzs : z.cells.size = 1) (hti : ∀ w, (typeInfo elem).run P w = .ok ti w) (hby : ti.bytes = by_)
    (hby0 : 0 < by_) (hlc : len ≤ cs.size) (src : Src P g H xv 1 1 [v]) (hroom : (len + 1) * by_ ≤ 70368744177664) (hone : v.oneCell' = true) (p : Part H [blk r (.cells cs elem)] Hr) :
    Op1 P ⟨d, .call ⟨.builtin .append, #[so, xo], at_⟩, ty, ps, af, gd⟩ g L H (fun u g' H' => ∃ R, H' = many (rowsA elem R) :: Hr ∧
      ((len < cs.size ∧ u = .slice (some ⟨r, 0, none⟩) (len + 1) cs.size ∧ R = [(r, cs.setIfInBounds len v)]) ∨
       (∃ r2 cs2, u = .slice (some ⟨r2, 0, none⟩) (len + 1) cs2.size ∧ len + 1 ≤ cs2.size ∧ (∀ j, j < len → cs2[j]? = cs[j]?) ∧ cs2[len]? = some v ∧ R = [(r2, cs2), (r, cs)]))) :=
  Op1.of_run fun a n D hk g' hl hs => by
    obtain ⟨u, w', R, hr, hl', hs', hR⟩ := run_appendB (P := P) (ty := ty) h0 h1 hu hux hz hzv hzs hti hby hby0 hlc src hroom hl hs p hone
    refine ⟨u, w', g'.I, _, ?_, hl', hs', R, rfl, hR⟩
    simp only [execOp, resolve, invoke, builtin, List.map_toArray, List.map_cons, List.map_nil, hk.eval es, hk.eval ex, Sem.run_bind, Sem.run_pure, Result.andThen_ok, hr]
/-- append(nil, v) -/
theorem run_appendN {sT xT elem by_ : Nat} {x : Value} {v : Value} {e' : TypeId} {z : Value} {ti : TypeInfo} {at_ : Array TypeId}
    (h0 : at_[0]? = some sT) (h1 : at_[1]? = some xT) (hu : ∀ w, (underlying sT).run P w = .ok (.slice elem) w) (hux : ∀ w, (underlying xT).run P w = .ok (.slice e') w)
    (hz : ∀ w, (sizeOf elem).run P w = .ok 1 w) (hzv : ∀ w, (zeroValue elem).run P w = .ok z w) (hzs : z.cells.size = 1) (hti : ∀ w, (typeInfo elem).run P w = .ok ti w) (hby : ti.bytes = by_)
    (hby0 : 0 < by_) (src : Src P g H x 1 1 [v]) (hroom : by_ ≤ 70368744177664) {gw : GW} (hgw : Le g gw) (hsat : Sat H gw) :
    ∃ u w' R, (Builtin.append_ at_ ty #[.slice none 0 0, x]).run P gw.w = .ok u w' ∧ Le gw ⟨w', gw.I⟩ ∧ Sat (many (rowsA elem R) :: H) ⟨w', gw.I⟩ ∧
       (∃ r2 cs2, u = .slice (some ⟨r2, 0, none⟩) 1 cs2.size ∧ 1 ≤ cs2.size ∧ cs2[0]? = some v ∧ R = [(r2, cs2)]) := by
  obtain ⟨hlen, hyl, hread⟩ := src
  have hfirst : ∀ g', Le g g' → Sat H g' → (Builtin.firstCells 1 1 x).run P g'.w = .ok #[v] g'.w := fun g' hl hs => by
    have := hread g' hl hs 1 (by simp)
    simpa using this
  have hgw1 := hsat.drew (gw.w.drawn + 1)
  have h2 : ¬ (9223372036854775807 < (1 : Int) ∧ ti.bytes = 0) := by omega
  have h3 : ¬ (281474976710656 < Builtin.nextslicecap 1 0 * ti.bytes) := by
    rw [hby]
    have := growslice_fits (need := 1) (old := 0) (bytes := by_) (by omega) (by omega)
    omega
  have hpre : (Builtin.append_ at_ ty #[.slice none 0 0, x]).run P gw.w =
    .ok (.slice (some ⟨gw.w.heap.size, 0, none⟩) 1 (grownCap gw.w 1 0 elem))
      { gw.w with drawn := gw.w.drawn + 1, heap := gw.w.heap.push (.cells (((#[] : Array Value).toList.take 0).toArray ++ #[v] ++ Builtin.zeroCells z.cells (grownCap gw.w 1 0 elem - 1)) elem) } := by
    have hf1 := hfirst _ (hgw.trans hgw1.2) hgw1.1
    replace hf1 : (Builtin.firstCells 1 1 x).run P gw.w.drew = .ok #[v] gw.w.drew := hf1
    have hf2 : (Builtin.firstCells 1 0 (.slice none 0 0)).run P gw.w.drew = .ok #[] gw.w.drew := rfl
    unfold Builtin.append_
    simp [h0, h1, hu, hux, hz, hlen, hti, h2, h3, hzv, Question.forced, hf1, hf2, newRow, grownCap, -World.drew_eq, -World.alloc_eq]
    rfl
  have hcapge : 1 ≤ grownCap gw.w 1 0 elem := by
    unfold grownCap; exact Nat.le_add_right _ _
  have hsize : (((#[] : Array Value).toList.take 0).toArray ++ #[v] ++ Builtin.zeroCells z.cells (grownCap gw.w 1 0 elem - 1)).size = grownCap gw.w 1 0 elem := by
    rw [Array.size_append, Array.size_append, size_zeroCells, hzs]
    simp; omega
  obtain ⟨hs, hl⟩ := hsat.alloc (.cells (((#[] : Array Value).toList.take 0).toArray ++ #[v] ++ Builtin.zeroCells z.cells (grownCap gw.w 1 0 elem - 1)) elem)
  obtain ⟨hs2, hl2⟩ := hs.drew (gw.w.drawn + 1)
  refine ⟨_, _, [(gw.w.heap.size, _)], hpre, hl.trans hl2, ?_, ⟨_, _, by rw [hsize], by rw [hsize]; exact hcapge, (newRow_get (cs := #[]) (len := 0) (Nat.le_refl _)).2, rfl⟩⟩
  exact Sat.foldTo (M := [blk gw.w.heap.size _]) hs2
theorem e_appendN {sT xT elem by_ : Nat} {xo so : Operand} {xv : Value} {v : Value} {e' : TypeId} {z : Value} {ti : TypeInfo} {at_ : Array TypeId}
    (es : ev L so = some (.slice none 0 0)) (ex : ev L xo = some xv)
    (h0 : at_[0]? = some sT) (h1 : at_[1]? = some xT) (hu : ∀ w, (underlying sT).run P w = .ok (.slice elem) w) (hux : ∀ w, (underlying xT).run P w = .ok (.slice e') w)
    (hz : ∀ w, (sizeOf elem).run P w = .ok 1 w) (hzv : ∀ w, (zeroValue elem).run P w = .ok z w) (hzs : z.cells.size = 1) (hti : ∀ w, (typeInfo elem).run P w = .ok ti w) (hby : ti.bytes = by_)
    (hby0 : 0 < by_) (src : Src P g H xv 1 1 [v]) (hroom : by_ ≤ 70368744177664) :
    Op1 P ⟨d, .call ⟨.builtin .append, #[so, xo], at_⟩, ty, ps, af, gd⟩ g L H (fun u g' H' => ∃ R, H' = many (rowsA elem R) :: H ∧
       (∃ r2 cs2, u = .slice (some ⟨r2, 0, none⟩) 1 cs2.size ∧ 1 ≤ cs2.size ∧ cs2[0]? = some v ∧ R = [(r2, cs2)])) :=
  Op1.of_run fun a n D hk g' hl hs => by
    obtain ⟨u, w', R, hr, hl', hs', hR⟩ := run_appendN (P := P) (ty := ty) h0 h1 hu hux hz hzv hzs hti hby hby0 src hroom hl hs
    refine ⟨u, w', g'.I, _, ?_, hl', hs', R, rfl, hR⟩
    simp only [execOp, resolve, invoke, builtin, List.map_toArray, List.map_cons, List.map_nil, hk.eval es, hk.eval ex, Sem.run_bind, Sem.run_pure, Result.andThen_ok, hr]
end
end Go.Hl
namespace Go.Proofs.YtolddodhmeaceaaGreatDoor
open Go.Hl Go.Pk
structure OI where
  off : Int
  len : Int
  t : Int
  dt : Int
  ext : Bool
  crc : Int
  par : Value
  ch : Value
  sha : List UInt8
def oiL (o : OI) : List Value := [.int .i64 o.off, .int .i64 o.len, .int .i8 o.t, .int .i8 o.dt, .bool o.ext, .int .u32 o.crc, o.par, o.ch]
def oiC (o : OI) : Array Value := (oiL o ++ bvs o.sha).toArray
theorem oi_size (o : OI) : (oiC o).size = 8 + o.sha.length := by
  unfold oiC; rw [List.size_toArray, List.length_append, bvs_length]; rfl
theorem oi_lt (o : OI) (i : Nat) (h : i < 8) : Nat.blt i (oiC o).size = true := by rw [oi_size, Nat.blt_eq]; omega
theorem oi_g (o : OI) {v : Value} (i : Nat) (hi : i < 8) (h : (oiL o)[i]? = some v) : (oiC o)[i]? = some v := by
  unfold oiC; rw [List.getElem?_toArray, List.getElem?_append_left (by exact hi)]; exact h
theorem oi_s (o o' : OI) {v : Value} (i : Nat) (hi : i < 8) (h : (oiL o).set i v = oiL o') (h1 : o.sha = o'.sha) : (oiC o).setIfInBounds i v = oiC o' := by
  unfold oiC; rw [List.setIfInBounds_toArray, List.set_append_left _ _ (by exact hi), h, h1]
theorem oi_gsha (o : OI) : ∀ i v, (bvs o.sha)[i]? = some v → (oiC o)[8 + i]? = some v := by
  intro i v h
  unfold oiC
  rw [List.getElem?_toArray, List.getElem?_append_right (by show 8 ≤ _; omega), show (8 + i - (oiL o).length) = i from by show 8 + i - 8 = i; omega]
  exact h
theorem oi_ssha (o : OI) (d : List UInt8) (h : o.sha.length = 20) (hd : d.length = 20) : setR (oiC o) 8 (bvs d) = oiC { o with sha := d } := by
  apply Array.ext_getElem?
  intro i
  rw [setR_get _ _ _ _ (by rw [oi_size, bvs_length]; omega), bvs_length, hd]
  by_cases h1 : 8 ≤ i ∧ i < 8 + 20
  · rw [if_pos h1]
    obtain ⟨c, hc⟩ := get_some (l := d) (k := i - 8) (by omega)
    have := oi_gsha { o with sha := d } (i - 8) (bv c) (by simp [bvs, hc])
    rw [show 8 + (i - 8) = i from by omega] at this
    rw [this]
    simp [bvs, hc]
  · rw [if_neg h1]
    by_cases h3 : i < 8
    · obtain ⟨v, hv⟩ : ∃ v, (oiL o)[i]? = some v := ⟨_, List.getElem?_eq_getElem (by exact h3)⟩
      rw [oi_g o i h3 hv]
      exact (oi_g { o with sha := d } i h3 hv).symm
    · rw [Array.getElem?_eq_none (by rw [oi_size]; omega), Array.getElem?_eq_none (by rw [oi_size]; show 8 + d.length ≤ _; omega)]
abbrev zero20 : List UInt8 := List.replicate 20 0
abbrev oiT : TypeId := 215
theorem oi_new (off len t : Int) (par : Value) : #[Value.int .i64 off, .int .i64 len, .int .i8 t, .int .i8 t, .bool false, .int .u32 0, par, nilV, .int .u8 0, .int .u8 0, .int .u8 0, .int .u8 0, .int .u8 0, .int .u8 0, .int .u8 0, .int .u8 0, .int .u8 0, .int .u8 0, .int .u8 0, .int .u8 0, .int .u8 0, .int .u8 0, .int .u8 0, .int .u8 0, .int .u8 0, .int .u8 0, .int .u8 0, .int .u8 0] = oiC ⟨off, len, t, t, false, 0, par, nilV, zero20⟩ := by rfl
attribute [irreducible] oiC
abbrev oiA (b : Nat) (o : OI) : Atom := blk b (.cells (oiC o) oiT)
abbrev ptrV (p : Option Nat) : Value := .pointer (p.map fun b => ⟨b, 0, none⟩)
theorem ct_newDelta (g : GW) (off len t : Int) (p : Option Nat) :
    Ct Tryz.prog g 98 [.int .i64 off, .int .i64 len, .int .i8 t, ptrV p] [] (fun r _ H' => ∃ ob, r = pV ob ∧ H' = [oiA ob ⟨off, len, t, t, false, 0, ptrV p, nilV, zero20⟩]) := by
  refine CI Tryz.func98 Tryz.ntmps98 rfl fun F g0 hg0 => ?_
  refine SR (La rfl (nSR (Lm rfl (Lm rfl (Lm rfl (Lm rfl (Lm rfl ?_)))))))
  refine Lp (p_build (cells := oiC ⟨off, len, t, t, false, 0, ptrV p, nilV, zero20⟩) rfl (by rw [← oi_new]; cases p <;> kernel_rfl)) ?_
  refine Lk (e_box rfl rfl) ?_
  rintro _ _ _ - ⟨b, rfl, rfl⟩
  refine La rfl (nSR (Lm rfl (La rfl (nr (E_ret1 [_] rfl (.refl _) rfl (K0 (K0 .nil)) (fun g' hl => ?_))))))
  exact ⟨b, rfl, rfl⟩
theorem ct_newBase (g : GW) (off len t : Int) :
    Ct Tryz.prog g 99 [.int .i64 off, .int .i64 len, .int .i8 t] [] (fun r _ H' => ∃ ob, r = pV ob ∧ H' = [oiA ob ⟨off, len, t, t, false, 0, .pointer none, nilV, zero20⟩]) := by
  refine CI Tryz.func99 Tryz.ntmps99 rfl fun F g0 hg0 => ?_
  refine SR (La rfl (nSR (Lm rfl (Lm rfl (Lm rfl (Lk (e_call rfl (ct_newDelta g0 off len t none) .nil) ?_))))))
  rintro _ _ _ - ⟨_, rfl, ⟨ob, rfl, rfl⟩⟩
  refine La rfl (nr (E_ret1 [_] rfl (.refl _) rfl (K0 (K0 .nil)) (fun g' hl => ?_)))
  exact ⟨ob, rfl, rfl⟩
theorem ct_getBuf (g : GW) : Ct Tryz.prog g 96 [] [] (fun r _ H' => ∃ b, r = pV b ∧ H' = [bufB b nilV]) := by
  refine CI Tryz.func96 Tryz.ntmps96 rfl fun F g0 hg0 => ?_
  refine SR (La rfl (nSR (Lk (e_alloc Tryz.zeroValue73 (show _ = bufC nilV from rfl)) ?_)))
  rintro _ _ _ - ⟨b, rfl, rfl⟩
  refine La rfl (nr (E_ret1 [_] rfl (.refl _) rfl (K0 (K0 .nil)) (fun g' hl => ?_)))
  exact ⟨b, rfl, rfl⟩
theorem cd_putBuf (g : GW) (v : Value) : CtD Tryz.prog g 97 [v] [] (fun _ H' => H' = []) := by
  refine CtD_intro Tryz.func97 rfl (by kernel_rfl) Tryz.ntmps97 rfl ?_
  intro F g0 hg0
  refine T_skip (E_end0 [] rfl (.refl _) (K0 .nil) (fun g' hl => ?_))
  exact rfl
theorem ct_objHint (g : GW) (n : Nat) (h : n ≤ 1000) : Ct Tryz.prog g 95 [.int .u32 n] [] (fun r _ H' => r = .int .i64 n ∧ H' = []) := by
  refine CI Tryz.func95 Tryz.ntmps95 rfl fun F g0 hg0 => ?_
  refine SR (La rfl (nS (T_seq (SR (Lm rfl (Lp (p_gtr rfl rfl) (nS (T_condD rfl (fun hc1 => ?_) (fun hc1 => ?_)))))))))
  ·
    exact absurd hc1 (by omega)
  ·
    skip
    refine kS (SR (Lm rfl (Lp (p_conv rfl Tryz.runUnderlying29 Tryz.runUnderlying3 (wr64 (by omega) (by omega))) (La rfl (nr (E_ret1 [] rfl (.refl _) rfl (K0 .nil) (fun g' hl => ?_)))))))
    exact ⟨rfl, rfl⟩
theorem ct_wrapEOF (g : GW) (eE uE : Nat × Nat) (hE : Env g eE uE) (er : Value) (he : IsE g er) : Ct Tryz.prog g 63 [er] [] (fun r g' H' => IsE g' r ∧ H' = []) := by
  obtain ⟨f1, f2, hf1, hf2, hf3, hf4⟩ := es_facts
  refine CI Tryz.func63 Tryz.ntmps63 rfl fun F g0 hg0 => ?_
  replace hE := hE.mono hg0
  replace he := he.mono hg0
  refine SR (La rfl (nS (T_seq (SR (Lm rfl (Lp (p_loadF rfl Tryz.isAgg64 hE.ueof) (Lp (p_eqlER (t := ES) (.inr he) hE.pueof rfl rfl Tryz.underlying64 Tryz.underlying272 hf1 hf2 hf3 hf4) (Lm rfl (TL_split 6 rfl (fun hg1 => ?_) (fun hg1 => ?_))))))))))
  ·
    refine Ls (Ls (Ls (Lp (p_pickT rfl rfl) (nS (T_condT rfl (SR (Lp (p_loadF rfl Tryz.isAgg64 (hE.var 4 (by decide)).1) (La rfl (nr ?_)))))))))
    refine E_seq_ret (E_ret1 [] rfl (.refl _) rfl (K0 .nil) (fun g' hl => ?_))
    exact ⟨⟨_, rfl, (hE.var 4 (by decide)).2.mono hl⟩, rfl⟩
  ·
    refine Lg (p_move rfl) (Lg (p_loadF rfl Tryz.isAgg64 hE.eof) (Lg (p_eqlER (t := ES) (.inr he) hE.peof rfl rfl Tryz.underlying64 Tryz.underlying272 hf1 hf2 hf3 hf4) (Lp (p_pickF rfl rfl) (nS (T_cond rfl (fun hc2 => ?_) (fun hc2 => ?_))))))
    ·
      refine SR (Lp (p_loadF rfl Tryz.isAgg64 (hE.var 4 (by decide)).1) (La rfl (nr (E_seq_ret (E_ret1 [] rfl (.refl _) rfl (K0 .nil) (fun g' hl => ?_))))))
      exact ⟨⟨_, rfl, (hE.var 4 (by decide)).2.mono hl⟩, rfl⟩
    ·
      refine kS (SR (Lm rfl (La rfl (nr (E_ret1 [] rfl (.refl _) rfl (K0 .nil) (fun g' hl => ?_))))))
      exact ⟨he.mono hl, rfl⟩
end Go.Proofs.YtolddodhmeaceaaGreatDoor
namespace Go.Proofs.YtolddodhmeaceaaGreatDoor
open Go.Hl Go.Pk
abbrev rowE : TypeId := 211
def objsA (l : List (Nat × OI)) : List Atom := l.map fun x => oiA x.1 x.2
structure Arn where
  objs : List (Nat × OI)
  rows : List (Nat × Array Value)
def Arn.M (a : Arn) : List Atom := objsA a.objs ++ rowsA rowE a.rows
abbrev arA (a : Arn) : Atom := Hl.many a.M
/-- A list of children. -/
def SlOk (V : List Nat) (rows : List (Nat × Array Value)) (n : Nat) (v : Value) : Prop :=
  v = nilV ∨ ∃ r cs len, (r, cs) ∈ rows ∧ v = .slice (some ⟨r, 0, none⟩) len cs.size ∧ len ≤ cs.size ∧ len ≤ n ∧ ∀ j, j < len → ∃ b ∈ V, cs[j]? = some (pV b)
structure ArOk (V : List Nat) (n : Nat) (a : Arn) : Prop where
  ch : ∀ x ∈ a.objs, SlOk V a.rows n x.2.ch
  sha : ∀ x ∈ a.objs, x.2.sha.length = 20
/-- All blocks that may be pointed at are there. -/
def VIn (V : List Nat) (a : Arn) : Prop := ∀ b ∈ V, ∃ o, (b, o) ∈ a.objs
theorem SlOk.mono {V V' : List Nat} {rows rows' : List (Nat × Array Value)} {n n' : Nat} {v : Value} (h : SlOk V rows n v) (hV : ∀ b ∈ V, b ∈ V') (hr : ∀ x ∈ rows, x ∈ rows') (hn : n ≤ n') : SlOk V' rows' n' v := by
  rcases h with h | ⟨r, cs, len, h1, h2, h3, h4, h5⟩
  · exact .inl h
  · exact .inr ⟨r, cs, len, hr _ h1, h2, h3, Nat.le_trans h4 hn, fun j hj => by obtain ⟨b, hb, he⟩ := h5 j hj; exact ⟨b, hV b hb, he⟩⟩
theorem SlOk.shp {V : List Nat} {rows : List (Nat × Array Value)} {n : Nat} {v : Value} (h : SlOk V rows n v) : ∃ m, Shp v m := by
  rcases h with rfl | ⟨r, cs, len, h1, rfl, h3, _⟩
  · exact ⟨0, Shp.nil⟩
  · exact ⟨len, .some _ _ _ _ h3⟩
theorem SlOk.one {V : List Nat} {rows : List (Nat × Array Value)} {n : Nat} {v : Value} (h : SlOk V rows n v) : v.oneCell' = true := by
  rcases h with rfl | ⟨r, cs, len, h1, rfl, h3, _⟩ <;> rfl
theorem mem_split {α : Type} {x : α} {l : List α} (h : x ∈ l) : ∃ l1 l2, l = l1 ++ x :: l2 := List.append_of_mem h
theorem rowsA_app (R S : List (Nat × Array Value)) : rowsA rowE (R ++ S) = rowsA rowE R ++ rowsA rowE S := by simp [rowsA]
theorem objsA_app (R S : List (Nat × OI)) : objsA (R ++ S) = objsA R ++ objsA S := by simp [objsA]
theorem perm_row {M0 : List Atom} {R1 R2 : List (Nat × Array Value)} {r : Nat} {cs : Array Value} : (M0 ++ rowsA rowE (R1 ++ (r, cs) :: R2)).Perm (blk r (.cells cs rowE) :: (M0 ++ rowsA rowE (R1 ++ R2))) := by
  rw [rowsA_app, rowsA_app, show rowsA rowE ((r, cs) :: R2) = blk r (.cells cs rowE) :: rowsA rowE R2 from rfl, ← List.append_assoc, ← List.append_assoc]
  exact List.perm_middle
theorem perm_obj {l1 l2 : List (Nat × OI)} {b : Nat} {o : OI} {M : List Atom} : (objsA (l1 ++ (b, o) :: l2) ++ M).Perm (oiA b o :: (objsA (l1 ++ l2) ++ M)) := by
  rw [objsA_app, objsA_app, show objsA ((b, o) :: l2) = oiA b o :: objsA l2 from rfl, List.append_assoc, List.append_assoc]
  exact List.perm_middle
section
variable {d : Option Nat} {ty : TypeId} {ps : String} {af : Array Edge} {gd : Option (Nat × Bool)} {g : GW} {L : List (Nat × Value)} {H Hr : List Atom}
theorem fold_rows {M0 : List Atom} {R S : List (Nat × Array Value)} {K : List Atom} {g : GW} (h : Sat (Hl.many (rowsA rowE R) :: Hl.many (M0 ++ rowsA rowE S) :: K) g) : Sat (Hl.many (M0 ++ rowsA rowE (R ++ S)) :: K) g := by
  have h1 : Sat (rowsA rowE R ++ (Hl.many (M0 ++ rowsA rowE S) :: K)) g := Sat.unfoldM h (K0 .nil)
  have h2 : Sat (Hl.many (M0 ++ rowsA rowE S) :: (rowsA rowE R ++ K)) g := h1.perm List.perm_middle
  have h3 : Sat ((M0 ++ rowsA rowE S) ++ (rowsA rowE R ++ K)) g := Sat.unfoldM h2 (K0 .nil)
  refine Sat.foldTo (h3.perm ?_)
  rw [rowsA_app]
  have : (M0 ++ rowsA rowE S ++ (rowsA rowE R ++ K)).Perm (M0 ++ (rowsA rowE R ++ rowsA rowE S) ++ K) := by
    rw [List.append_assoc, List.append_assoc, List.append_assoc]
    refine List.Perm.append_left M0 ?_
    rw [← List.append_assoc, ← List.append_assoc]
    exact List.Perm.append_right K List.perm_append_comm
  exact this
/-- append(children, ob), where the lists of children may share their rows. -/
theorem e_appendAr {V : List Nat} {rows : List (Nat × Array Value)} {n ob : Nat} {M0 : List Atom} {so xo : Operand} {v xv : Value} {at_ : Array TypeId} (hsl : SlOk V rows n v) (hn : n ≤ 1000000)
    (es : ev L so = some v) (ex : ev L xo = some xv) (h0 : at_[0]? = some 151) (h1 : at_[1]? = some 151) (src : Src Tryz.prog g H xv 1 1 [pV ob]) (p : Part H [Hl.many (M0 ++ rowsA rowE rows)] Hr) :
    Op1 Tryz.prog ⟨d, .call ⟨.builtin .append, #[so, xo], at_⟩, ty, ps, af, gd⟩ g L H (fun u g' H' => ∃ rows', H' = Hl.many (M0 ++ rowsA rowE rows') :: Hr ∧ SlOk (ob :: V) rows' (n + 1) u ∧ ∀ v', SlOk V rows n v' → SlOk (ob :: V) rows' (n + 1) v') :=
  Op1.of_run fun ac nn D hk g' hl hs => by
    have hb : 8 ≤ 70368744177664 := by decide
    rcases hsl with rfl | ⟨r, cs, len, hm, rfl, hlc, hln, hcs⟩
    · obtain ⟨u, w', R, hr, hl', hs', r2, cs2, rfl, h2, h3, rfl⟩ := run_appendN (P := Tryz.prog) (ty := ty) h0 h1 Tryz.runUnderlying151 Tryz.runUnderlying151 Tryz.sizeOf211 Tryz.zeroValue211 rfl Tryz.typeInfo211 rfl (by decide) src hb hl hs
      refine ⟨.slice (some ⟨r2, 0, none⟩) 1 cs2.size, w', g'.I, _, ?_, hl', fold_rows (hs'.part (K0 p)), [(r2, cs2)] ++ rows, rfl, ?_, ?_⟩
      · simp only [execOp, resolve, invoke, builtin, List.map_toArray, List.map_cons, List.map_nil, hk.eval es, hk.eval ex, Sem.run_bind, Sem.run_pure, Result.andThen_ok, hr]
      · exact .inr ⟨r2, cs2, 1, by simp, rfl, h2, by omega, fun j hj => ⟨ob, by simp, by rw [show j = 0 from by omega]; exact h3⟩⟩
      · intro v' hv'
        exact hv'.mono (fun b hb => by simp [hb]) (fun x hx => by simp [hx]) (by omega)
    · obtain ⟨R1, R2, rfl⟩ := mem_split hm
      have hs2 := hs.focus p perm_row
      have src2 : Src Tryz.prog g (blk r (.cells cs rowE) :: Hl.many (M0 ++ rowsA rowE (R1 ++ R2)) :: Hr) xv 1 1 [pV ob] := by
        obtain ⟨s1, s2, s3⟩ := src
        refine ⟨s1, s2, fun g2 hl2 hs3 => s3 g2 hl2 ?_⟩
        have h5 := hs3.unfocus (K0 (K0 .nil)) perm_row
        exact h5.perm p.perm.symm
      obtain ⟨u, w', R, hr, hl', hs', hR⟩ := run_appendB (P := Tryz.prog) (ty := ty) h0 h1 Tryz.runUnderlying151 Tryz.runUnderlying151 Tryz.sizeOf211 Tryz.zeroValue211 rfl Tryz.typeInfo211 (rfl : _ = 8) (by decide) hlc src2 (by omega) hl hs2 (K0 .nil) rfl
      refine ⟨u, w', g'.I, _, ?_, hl', fold_rows hs', R ++ (R1 ++ R2), rfl, ?_⟩
      · simp only [execOp, resolve, invoke, builtin, List.map_toArray, List.map_cons, List.map_nil, hk.eval es, hk.eval ex, Sem.run_bind, Sem.run_pure, Result.andThen_ok, hr]
      · rcases hR with ⟨h2, rfl, rfl⟩ | ⟨r2, cs2, rfl, h2, h3, h4, rfl⟩
        · have hset : ∀ len', (∀ j, j < len' → ∃ b ∈ V, cs[j]? = some (pV b)) → ∀ j, (j < len' ∨ j = len) → ∃ b ∈ ob :: V, (cs.setIfInBounds len (pV ob))[j]? = some (pV b) := by
            intro len' hc j hj
            by_cases hjl : j = len
            · subst hjl; exact ⟨ob, by simp, by rw [Array.getElem?_setIfInBounds_self_of_lt h2]⟩
            · obtain ⟨b, hb, he⟩ := hc j (by omega)
              exact ⟨b, by simp [hb], by rw [Array.getElem?_setIfInBounds_ne (by omega)]; exact he⟩
          refine ⟨.inr ⟨r, cs.setIfInBounds len (pV ob), len + 1, by simp, by rw [Array.size_setIfInBounds], by rw [Array.size_setIfInBounds]; omega, by omega, fun j hj => hset len hcs j (by omega)⟩, ?_⟩
          intro v' hv'
          rcases hv' with rfl | ⟨r', cs', len', hm', rfl, hlc', hln', hcs'⟩
          · exact .inl rfl
          · simp only [List.mem_append, List.mem_cons] at hm'
            by_cases he : (r', cs') = (r, cs)
            · injection he with e1 e2; subst e1; subst e2
              exact .inr ⟨r', cs'.setIfInBounds len (pV ob), len', by simp, by rw [Array.size_setIfInBounds], by rw [Array.size_setIfInBounds]; exact hlc', by omega, fun j hj => hset len' hcs' j (.inl hj)⟩
            · refine .inr ⟨r', cs', len', ?_, rfl, hlc', by omega, fun j hj => by obtain ⟨b, hb, he⟩ := hcs' j hj; exact ⟨b, by simp [hb], he⟩⟩
              simp only [List.mem_append, List.mem_cons]
              rcases hm' with h | h | h
              · exact .inr (.inl h)
              · exact absurd h he
              · exact .inr (.inr h)
        · refine ⟨.inr ⟨r2, cs2, len + 1, by simp, rfl, h2, by omega, fun j hj => ?_⟩, ?_⟩
          · by_cases hjl : j = len
            · subst hjl; exact ⟨ob, by simp, h4⟩
            · obtain ⟨b, hb, he⟩ := hcs j (by omega)
              exact ⟨b, by simp [hb], by rw [h3 j (by omega)]; exact he⟩
          · intro v' hv'
            refine hv'.mono (fun b hb => by simp [hb]) (fun x hx => ?_) (by omega)
            simp only [List.mem_append, List.mem_cons] at hx ⊢
            rcases hx with h | h | h
            · exact .inr (.inl h)
            · exact .inl (.inr (.inl h))
            · exact .inr (.inr h)
end
end Go.Proofs.YtolddodhmeaceaaGreatDoor
namespace Go.Proofs.YtolddodhmeaceaaGreatDoor
open Go.Hl Go.Pk
abbrev obsV (ob : Nat) : Value := .iface 88 (pV ob)
structure PF where
  sn : Nat
  n : Int
  oi : Value
  mh : Value
  mo : Value
  ca : Value
  obv : Value
def parC (p : PF) : Array Value := #[.nilIface, pV p.sn, .int .u32 p.n, p.oi, p.mh, p.mo, p.ca, .map none, p.obv]
abbrev parA (pb : Nat) (p : PF) : Atom := blk pb (.cells (parC p) 157)
theorem ct_obsHdr (g : GW) (v : Value) (n : Int) : Ct Tryz.prog g 258 [v, .int .u32 n] [] (fun r _ H' => r = .nilIface ∧ H' = []) := by
  refine CI Tryz.func258 Tryz.ntmps258 rfl fun F g0 hg0 => ?_
  refine SR (La rfl (nSR (La rfl (nr (E_ret1 [] rfl (.refl _) rfl (K0 .nil) (fun g' hl => ?_))))))
  exact ⟨rfl, rfl⟩
theorem ct_onHdr1 (g : GW) (ob c : Nat) (n : Int) : Ct Tryz.prog g 135 [obsV ob, pV c] [blk c (.cells #[.int .u32 n] 29)] (fun r _ H' => r = .nilIface ∧ H' = [blk c (.cells #[.int .u32 n] 29)]) := by
  refine CI Tryz.func135 Tryz.ntmps135 rfl fun F g0 hg0 => ?_
  refine SR (La rfl (nSR (Lm rfl (Lp (p_load rfl Tryz.isAgg29 (.head _) rfl) (Lk (e_invoke rfl (fun w => by kernel_rfl) rfl (ct_obsHdr g0 (pV ob) n) .nil) ?_)))))
  rintro _ _ _ - ⟨_, rfl, ⟨rfl, rfl⟩⟩
  refine La rfl (nr (E_ret1 [_] rfl (.refl _) rfl (K0 (K0 .nil)) (fun g' hl => ?_)))
  exact ⟨rfl, rfl⟩
theorem ct_forEach (g : GW) (pb c ob : Nat) (n : Int) (p : PF) (hob : Shp p.obv 1) :
    Ct Tryz.prog g 115 [pV pb, .func (.func 135) #[] #[pV c]] [parA pb p, own p.obv 1 246 [obsV ob], blk c (.cells #[.int .u32 n] 29)]
      (fun r _ H' => r = .nilIface ∧ H' = [parA pb p, own p.obv 1 246 [obsV ob], blk c (.cells #[.int .u32 n] 29)]) := by
  refine CI Tryz.func115 Tryz.ntmps115 rfl fun F g0 hg0 => ?_
  refine SR (La rfl (nS (T_seq (SR (Lm rfl (Ln rfl (Lf rfl Tryz.runUnderlying157 rfl Tryz.sizeOf146 rfl (Lp (p_load rfl Tryz.isAgg146 (.head _) rfl) (Lp (p_len (hob) rfl rfl Tryz.runUnderlying146) ?_)))))))))
  refine Lm rfl (nS (T_block (T_loop (ι := Nat) (fun i _ => i ≤ 1) (fun i => [(0, pV pb), (1, .func (.func 135) #[] #[pV c]), (11, p.obv), (12, .int .i64 1), (13, .int .i64 i)]) (fun _ => [parA pb p, own p.obv 1 246 [obsV ob], blk c (.cells #[.int .u32 n] 29), F]) (fun i => 1 - i) (0) (fun g' hl => by simp) (by repeat (first | exact SubL.nil | refine SubL.cons rfl ?_)) (K0 (K0 (K0 (K0 .nil)))) ?_)))
  rintro i gA hlgA hi
  refine SR (Lp (p_lss rfl rfl) (nS (T_seq (T_condD rfl (fun hc2 => ?_) (fun hc2 => ?_)))))
  ·
    replace hc2 : i < 1 := by omega
    obtain rfl : i = 0 := by omega
    refine kS (T_seq (T_block (SR (Lp (p_ix (hob) (j := 0) rfl rfl Tryz.runUnderlying146 Tryz.sizeOf246 (by omega) (by omega) rfl) (Lp (p_ldOwn (k := 0) rfl Tryz.isAgg246 (.tail _ (.head _)) rfl) (La rfl (nSR (Lm rfl (Lm rfl ?_)))))))))
    refine Lk (e_callV rfl rfl (ct_onHdr1 gA ob c n) (K2 .nil)) ?_
    rintro _ _ _ - ⟨_, rfl, ⟨rfl, rfl⟩⟩
    refine La rfl (nSR (Lm rfl (Lp (p_neqNN rfl Tryz.underlying64) (nS (T_condF rfl (T_skip (E_block (E_seq (T_region ?_)))))))))
    refine Lp (p_add rfl rfl (wr64 (by omega) (by omega))) (Lm rfl (TL_nil (EL (.refl _) (1) ?hm ?hI ((K1 (K1 (K0 (K0 .nil))))))))
    case hm => exact (by omega)
    case hI => exact (fun g' hl => Nat.le_refl _)
  ·
    skip
    refine T_exit (E_seq_exit (E_loop_exit (E_block_hit (E_seq (SR (La rfl (nr (E_ret1 [_, _, _] rfl hlgA rfl (K0 (K0 (K0 (K0 .nil)))) (fun g' hl => ?_)))))))))
    exact ⟨rfl, rfl⟩
theorem ct_onHdr (g : GW) (pb ob : Nat) (n : Int) (p : PF) (hob : Shp p.obv 1) :
    Ct Tryz.prog g 94 [pV pb, .int .u32 n] [parA pb p, own p.obv 1 246 [obsV ob]]
      (fun r _ H' => r = .nilIface ∧ H' = [parA pb p, own p.obv 1 246 [obsV ob]]) := by
  refine CI Tryz.func94 Tryz.ntmps94 rfl fun F g0 hg0 => ?_
  refine SR (Lk (e_box rfl rfl) ?_)
  rintro _ _ _ - ⟨c, rfl, rfl⟩
  refine La rfl (nSR (Lm rfl (Lp (p_makeFunc rfl rfl) (Lk (e_call rfl (ct_forEach g0 pb c ob n p hob) (K1 (K1 (K0 .nil)))) ?_))))
  rintro _ _ _ - ⟨_, rfl, ⟨rfl, rfl⟩⟩
  refine La rfl (nr (E_ret1 [_, _] rfl (.refl _) rfl (K0 (K0 (K1 .nil))) (fun g' hl => ?_)))
  exact ⟨rfl, rfl⟩
end Go.Proofs.YtolddodhmeaceaaGreatDoor
namespace Go.Hl
theorem Ct.folded {P : Program} {g f args H} {R : Value → GW → List Atom → Prop} (h : Ct P g f args H R) : Ct P g f args H (fun v g' H' => ∃ H0, H' = [Hl.many H0] ∧ R v g' H0) :=
  h.conv fun v g' H' F _ hR hs => ⟨[Hl.many H'], ⟨H', rfl, hR⟩, Sat.foldAt (pre := []) (K := H') (post := []) (by simpa using hs)⟩
end Go.Hl
namespace Go.Proofs.YtolddodhmeaceaaGreatDoor
open Go.Hl Go.Pk
theorem ct_newLRU (g : GW) : Ct Tryz.prog g 93 [] [] (fun r _ H' => ∃ c, r = pV c ∧ H' = []) := by
  refine CI Tryz.func93 Tryz.ntmps93 rfl fun F g0 hg0 => ?_
  refine SR (La rfl (nSR (Lp (p_build (cells := #[.int .i64 100663296, .int .i64 0, .pointer none, .map none]) rfl (by kernel_rfl)) (Lk (e_box rfl rfl) ?_))))
  rintro _ _ _ - ⟨c, rfl, rfl⟩
  refine La rfl (nr (E_ret1 [] rfl (.refl _) rfl (K1 .nil) (fun g' hl => ?_)))
  exact ⟨c, rfl, rfl⟩
abbrev scnA (sn sr : Nat) (crc hv pend : Value) (ver obj : Int) : Atom := blk sn (.cells (scnC sr crc hv pend ver obj true) 131)
theorem ct_NewPWS (g : GW) (sn sr : Nat) (crc hv pend : Value) (ver obj : Int) (obv : Value) (hob : Shp obv 1) :
    Ct Tryz.prog g 61 [pV sn, .nilIface, obv] [scnA sn sr crc hv pend ver obj]
      (fun r _ H' => ∃ pb c, r = .tuple #[pV pb, .nilIface] ∧ H' = [parA pb ⟨sn, 0, nilV, .map none, .map none, pV c, obv⟩, scnA sn sr crc hv pend ver obj]) := by
  obtain ⟨ta, tn, tc, rfl⟩ := Shp.is hob
  refine CI Tryz.func61 Tryz.ntmps61 rfl fun F g0 hg0 => ?_
  refine SR (La rfl (La rfl (nS (T_seq (SR (Lm rfl (Ln rfl (Lf rfl Tryz.runUnderlying131 rfl Tryz.sizeOf4 rfl (Lp (p_load rfl Tryz.isAgg4 (.head _) rfl) ?_)))))))))
  refine Lp (p_not rfl) (Lm rfl (Ls (Ls (Lp (p_pickF rfl rfl) (nS (T_condF rfl (kS (SR (La rfl ?_)))))))))
  refine nS (T_seq (SR (Lm rfl (Ln rfl (Lf rfl Tryz.runUnderlying131 rfl Tryz.sizeOf4 rfl (Lp (p_load rfl Tryz.isAgg4 (.head _) rfl) (Lp (p_not rfl) (nS (T_condF rfl ?_)))))))))
  refine T_skip (E_seq ?_)
  refine SR (Lm rfl (Lm rfl (Lm rfl (Lk (e_call rfl (ct_newLRU g0) .nil) ?_))))
  rintro _ _ _ - ⟨_, rfl, ⟨c, rfl, rfl⟩⟩
  refine Lm rfl (Lp (p_build (cells := parC ⟨sn, 0, nilV, .map none, .map none, pV c, .slice ta tn tc⟩) rfl (by kernel_rfl)) (Lk (e_box rfl rfl) ?_))
  rintro _ _ _ - ⟨p, rfl, rfl⟩
  refine La rfl (La rfl (nr (E_ret2 [_, _] rfl (.refl _) rfl rfl (K0 (K0 (K0 .nil))) (fun g' hl => ?_))))
  exact ⟨p, c, rfl, rfl⟩
theorem ct_NewParser (g : GW) (sn sr : Nat) (crc hv pend : Value) (ver obj : Int) (obv : Value) (hob : Shp obv 1) :
    Ct Tryz.prog g 31 [pV sn, obv] [scnA sn sr crc hv pend ver obj]
      (fun r _ H' => ∃ pb c, r = .tuple #[pV pb, .nilIface] ∧ H' = [parA pb ⟨sn, 0, nilV, .map none, .map none, pV c, obv⟩, scnA sn sr crc hv pend ver obj]) := by
  refine CI Tryz.func31 Tryz.ntmps31 rfl fun F g0 hg0 => ?_
  refine SR (La rfl (La rfl (nSR (Lm rfl (Lm rfl (Lk (e_call rfl (ct_NewPWS g0 sn sr crc hv pend ver obj obv hob) (K0 .nil)) ?_))))))
  rintro _ _ _ - ⟨_, rfl, ⟨pb, c, rfl, rfl⟩⟩
  refine Lx rfl rfl (Lx rfl rfl (La rfl (La rfl (nr (E_ret2 [_, _] rfl (.refl _) rfl rfl (K0 (K0 (K0 .nil))) (fun g' hl => ?_))))))
  exact ⟨pb, c, rfl, rfl⟩
def InitR (x : Fx) (pb sn n N ob cb hb : Nat) (ca obv : Value) (X : List UInt8) (H' : List Atom) : Prop :=
  ∃ (s' : St) (p' mhb mob : Nat) (oi : Value), StOk x s' p' ∧ Pre x.C N p' X ∧ Shp oi 0 ∧
    H' = parA pb ⟨sn, n, oi, .map (some mhb), .map (some mob), ca, obv⟩ :: blk mhb (mapO (hkey (n := 20)) []) :: blk mob (mapO i64v []) :: own oi 1 211 [] :: scA x s' p' sn (crcV cb) (hashV hb) (.pointer none) 2 n true
theorem ct_init (g : GW) (x : Fx) (hx : FxOk g x) (s0 : St) (hs : StOk x s0 0) (pb sn cb hb ob : Nat) (N n : Nat) (hn : n ≤ 1000) (X : List UInt8) (hP : Pre x.C N 0 (head12 n ++ X)) (ca obv : Value) (hob : Shp obv 1) :
    Ct Tryz.prog g 62 [pV pb] (parA pb ⟨sn, 0, nilV, .map none, .map none, ca, obv⟩ :: own obv 1 246 [obsV ob] :: scA x s0 0 sn (crcV cb) (hashV hb) (.pointer none) 0 0 true)
      (fun v g' H' => IsE g' v ∨ (v = .nilIface ∧ InitR x pb sn n N ob cb hb ca obv X H')) := by
  refine CI Tryz.func62 Tryz.ntmps62 rfl fun F g0 hg0 => ?_
  replace hx := hx.mono hg0
  refine SR (La rfl (nSR (Lm rfl (Ln rfl (Lf rfl Tryz.runUnderlying157 rfl Tryz.sizeOf59 rfl (Lp (p_load rfl Tryz.isAgg59 (.head _) rfl) (LE (e_call rfl (ct_header g0 x hx s0 0 hs sn (crcV cb) (hashV hb) (.pointer none) 0 true N n X (by omega) hP) (K2 (K2 (K2 (K2 (K2 (K2 (K2 (K2 .nil))))))))) ?_)))))))
  rintro _ gB _ hlgB ⟨_, rfl, ⟨s1, p1, va, vb, ver, obj, er, rfl, hEr, hs1, rfl⟩⟩
  refine Lm rfl (Lx rfl rfl (Lx rfl rfl (Lx rfl rfl (La rfl (La rfl (La rfl (nS (T_seq (SR ?_)))))))))
  refine Lm rfl (Lp (p_neqE0 hEr.ifn rfl Tryz.underlying64) (nS (T_condNB rfl (fun hc2 => ?_) (fun hc2 => ?_))))
  ·
    have hee := hEr.bad (isB_f hc2)
    refine SR (Lm rfl (La rfl (nr (E_seq_ret (E_ret1 [_, _, _, _, _, _, _, _, _, _] rfl hlgB rfl (K8 (K8 (K0 (K0 (K0 (K0 (K0 (K0 (K0 (K0 (K0 .nil))))))))))) (fun g' hl => ?_))))))
    exact .inl (hee.mono hl)
  ·
    obtain ⟨rfl, rfl, rfl, e3, hP2⟩ := hEr.ok (isB_t hc2)
    refine kS (T_seq (SR (Lm rfl (Lm rfl (Lk (e_call rfl (ct_onHdr gB pb ob _ _ hob) (K8 (K8 .nil))) ?_)))))
    rintro _ _ _ - ⟨_, rfl, ⟨rfl, rfl⟩⟩
    refine La rfl (nSR (Lm rfl (Lp (p_neqNN rfl Tryz.underlying64) (nS (T_condF rfl (kS (SR (Lm rfl (Lm rfl ?_)))))))))
    refine Ln rfl (Lf rfl Tryz.runUnderlying157 rfl Tryz.sizeOf29 rfl (TL_k0 (e_store1 rfl rfl Tryz.sizeOf29 rfl (K0 .nil) rfl rfl rfl) ?_))
    rintro _ _ _ - ⟨rfl, rfl⟩
    refine nSR (Lm rfl (Ln rfl (Lf rfl Tryz.runUnderlying157 rfl Tryz.sizeOf29 rfl (Lp (p_load rfl Tryz.isAgg29 (.head _) rfl) (Lk (e_call rfl (ct_objHint gB n hn) .nil) ?_)))))
    rintro _ _ _ - ⟨_, rfl, ⟨rfl, rfl⟩⟩
    refine La rfl (nSR (Lm rfl (Lm rfl (Lk (e_makeMapH (hkey (n := 20)) rfl Tryz.runUnderlying152) ?_))))
    rintro _ _ _ - ⟨m1, rfl, rfl⟩
    refine Ln rfl (Lf rfl Tryz.runUnderlying157 rfl Tryz.sizeOf152 rfl (TL_k0 (e_store1 rfl rfl Tryz.sizeOf152 rfl (K1 .nil) rfl rfl rfl) ?_))
    rintro _ _ _ - ⟨rfl, rfl⟩
    refine nSR (Lm rfl (Lm rfl (Lk (e_makeMapH i64v rfl Tryz.runUnderlying153) ?_)))
    rintro _ _ _ - ⟨m2, rfl, rfl⟩
    refine Ln rfl (Lf rfl Tryz.runUnderlying157 rfl Tryz.sizeOf153 rfl (TL_k0 (e_store1 rfl rfl Tryz.sizeOf153 rfl (K1 .nil) rfl rfl rfl) ?_))
    rintro _ _ _ - ⟨rfl, rfl⟩
    refine nSR (Lm rfl (Lm rfl ?_))
    refine Lk (e_make (l := 0) (c := n) rfl rfl Tryz.runUnderlying151 Tryz.typeInfo211 rfl rfl rfl (by omega) (by show 8 * _ ≤ _; omega) (by omega)) ?_
    rintro _ _ _ - ⟨l, rfl, rfl⟩
    refine Ln rfl (Lf rfl Tryz.runUnderlying157 rfl Tryz.sizeOf151 rfl (TL_k0 (e_store1 rfl rfl Tryz.sizeOf151 rfl (K1 .nil) rfl rfl rfl) ?_))
    rintro _ _ _ - ⟨rfl, rfl⟩
    refine nSR (La rfl (nr (E_ret1 [_, _, _, _, _, _, _, _, _, _, _, _] rfl hlgB rfl (K0 (K2 (K1 (K0 (K1 (K1 (K1 (K1 (K1 (K1 (K1 (K1 (K1 .nil))))))))))))) (fun g' hl => ?_))))
    exact .inr ⟨rfl, s1, p1, m1, m2, _, hs1, hP2, .some _ _ _ _ (Nat.zero_le _), rfl⟩
end Go.Proofs.YtolddodhmeaceaaGreatDoor
namespace Go.Hl
variable {P : Program}
/-- i is taken now. -/
def TO (P : Program) (n : Nat) (ops : Array Oper) (bar : Nat) (fuel : Nat) (listed : Array Bool) (gS g : GW) (L : List (Nat × Value)) (D : List Deferred) (Hs H : List Atom) (K : KT) (i : Nat) : Prop :=
  Le gS g → ∀ a g', Le g g' → Kn n L D a → Sat (Hs ++ H) g' → ∀ Q : Exit → Act → World → Prop, (∀ a w, (∃ I, K a ⟨w, I⟩) → Q .normal a w) → (∀ c a a' w, Q (.panic c) a w → Q (.panic c) a' w) →
    wpOp P ops Q i (fun a' w' => (Ahead bar (listed.setIfInBounds i true) → SW gS Hs w') ∧ wpB P ops Q bar (SW gS Hs) fuel (listed.setIfInBounds i true) a' w') a g'.w
section
variable {n : Nat} {ops : Array Oper} {bar fuel : Nat} {listed : Array Bool} {gS g : GW} {L : List (Nat × Value)} {D : List Deferred} {Hs H Hr : List Atom} {K : KT} {o : Oper} {i j : Nat}
theorem TD_two (hr : Region.ready .any ops listed = [i, j]) (h1 : TO P n ops bar fuel listed gS g L D Hs H K i) (h2 : TO P n ops bar fuel listed gS g L D Hs H K j) : TD P n ops bar (fuel + 1) listed gS g L D Hs H K :=
  fun hS a g' hl hk hsat Q hQ hp => wpB_all hr (by simp) fun k hk' => by
    simp only [List.mem_cons, List.not_mem_nil, or_false] at hk'
    rcases hk' with rfl | rfl
    · exact h1 hS a g' hl hk hsat Q hQ hp
    · exact h2 hS a g' hl hk hsat Q hQ hp
theorem TO_e {R : Value → GW → List Atom → Prop} (hi : ops[i]? = some o) (hg : o.guard = none)
    (hd : okDst n o.dst = true) (h : Op1 P o g L (Hs ++ H) R)
    (k : ∀ v g' H'', Le g g' → R v g' H'' → ∃ H', Part H'' Hs H' ∧ TD P n ops bar fuel (listed.setIfInBounds i true) gS g' (pu L o.dst v) D Hs H' K) : TO P n ops bar fuel listed gS g L D Hs H K i :=
  fun hS a g' hl hk hsat Q hQ hp => by
    unfold wpOp
    rw [hi]
    simp only [Region.wanted, hg, if_true]
    refine .inl ?_
    unfold Oper.wp
    refine h a n D hk g' hl hsat _ _ fun v g'' H'' hl' hs' hR => ?_
    obtain ⟨H', p, hk'⟩ := k v g'' H'' (hl.trans hl') hR
    have hs2 := hs'.part p
    exact ⟨fun _ => sw_of (hS.trans (hl.trans hl')) (.refl _) hs2, hk' (hS.trans (hl.trans hl')) _ g'' (.refl _) (hk.pu o.dst v hd) hs2 Q hQ hp⟩
theorem TO_k {R : Value → GW → List Atom → Prop} (hi : ops[i]? = some o) (hg : o.guard = none)
    (hd : okDst n o.dst = true) (h : Op1 P o g L (Hs ++ H) R)
    (k : ∀ v g' H'', Le g g' → R v g' H'' → ∃ H', Part H'' Hs H' ∧ TD P n ops bar fuel (listed.setIfInBounds i true) gS g (pu L o.dst v) D Hs H' K) : TO P n ops bar fuel listed gS g L D Hs H K i :=
  fun hS => TO_e hi hg hd h (fun v g' H'' hl hR => let ⟨H', p, t⟩ := k v g' H'' hl hR; ⟨H', p, fun _ a g'' hl' => t hS a g'' (hl.trans hl')⟩) hS
end
end Go.Hl
namespace Go.Proofs.YtolddodhmeaceaaGreatDoor
open Go.Hl Go.Pk
theorem list20 {l : List UInt8} (h : l.length = 20) : ∃ c0 c1 c2 c3 c4 c5 c6 c7 c8 c9 c10 c11 c12 c13 c14 c15 c16 c17 c18 c19, l = [c0, c1, c2, c3, c4, c5, c6, c7, c8, c9, c10, c11, c12, c13, c14, c15, c16, c17, c18, c19] := by
  obtain _ | ⟨c0, l⟩ := l
  · simp at h
  obtain _ | ⟨c1, l⟩ := l
  · simp at h
  obtain _ | ⟨c2, l⟩ := l
  · simp at h
  obtain _ | ⟨c3, l⟩ := l
  · simp at h
  obtain _ | ⟨c4, l⟩ := l
  · simp at h
  obtain _ | ⟨c5, l⟩ := l
  · simp at h
  obtain _ | ⟨c6, l⟩ := l
  · simp at h
  obtain _ | ⟨c7, l⟩ := l
  · simp at h
  obtain _ | ⟨c8, l⟩ := l
  · simp at h
  obtain _ | ⟨c9, l⟩ := l
  · simp at h
  obtain _ | ⟨c10, l⟩ := l
  · simp at h
  obtain _ | ⟨c11, l⟩ := l
  · simp at h
  obtain _ | ⟨c12, l⟩ := l
  · simp at h
  obtain _ | ⟨c13, l⟩ := l
  · simp at h
  obtain _ | ⟨c14, l⟩ := l
  · simp at h
  obtain _ | ⟨c15, l⟩ := l
  · simp at h
  obtain _ | ⟨c16, l⟩ := l
  · simp at h
  obtain _ | ⟨c17, l⟩ := l
  · simp at h
  obtain _ | ⟨c18, l⟩ := l
  · simp at h
  obtain _ | ⟨c19, l⟩ := l
  · simp at h
  obtain _ | ⟨c20, l⟩ := l
  · exact ⟨c0, c1, c2, c3, c4, c5, c6, c7, c8, c9, c10, c11, c12, c13, c14, c15, c16, c17, c18, c19, rfl⟩
  · simp at h
theorem ph_explicit (c0 c1 c2 c3 c4 c5 c6 c7 c8 c9 c10 c11 c12 c13 c14 c15 c16 c17 c18 c19 : UInt8) : Tryz.prog.built oiT ([8, 4, 2, 3].zip [.agg (bvs [c0, c1, c2, c3, c4, c5, c6, c7, c8, c9, c10, c11, c12, c13, c14, c15, c16, c17, c18, c19]).toArray, .bool true, .int .i8 (-127), .int .i8 (-127)]) = some (oiC ⟨0, 0, -127, -127, true, 0, .pointer none, nilV, [c0, c1, c2, c3, c4, c5, c6, c7, c8, c9, c10, c11, c12, c13, c14, c15, c16, c17, c18, c19]⟩) := by
  unfold oiC; kernel_rfl
theorem ph_built {l : List UInt8} (hl : l.length = 20) : Tryz.prog.built oiT ([8, 4, 2, 3].zip [.agg (bvs l).toArray, .bool true, .int .i8 (-127), .int .i8 (-127)]) = some (oiC ⟨0, 0, -127, -127, true, 0, .pointer none, nilV, l⟩) := by
  obtain ⟨c0, c1, c2, c3, c4, c5, c6, c7, c8, c9, c10, c11, c12, c13, c14, c15, c16, c17, c18, c19, rfl⟩ := list20 hl
  exact ph_explicit ..
def MapOk {α : Type} (V : List Nat) (l : List (α × Value)) : Prop := ∀ x ∈ l, ∃ b ∈ V, x.2 = pV b
theorem MapOk.mono {α : Type} {V V' : List Nat} {l : List (α × Value)} (h : MapOk V l) (hV : ∀ b ∈ V, b ∈ V') : MapOk V' l := fun x hx => let ⟨b, hb, he⟩ := h x hx; ⟨b, hV b hb, he⟩
theorem MapOk.put {α : Type} [DecidableEq α] {V : List Nat} {l : List (α × Value)} (h : MapOk V l) {b : Nat} (hb : b ∈ V) (a : α) : MapOk V (putA a (pV b) l) :=
  putA_all (p := fun v => ∃ b ∈ V, v = pV b) ⟨b, hb, rfl⟩ h
theorem look_ok {α : Type} [DecidableEq α] {V : List Nat} {l : List (α × Value)} {a : α} {z r : Value} (h : MapOk V l) (hr : (lookA a l).getD z = r) (hq : (lookA a l).isSome = true) : ∃ b ∈ V, r = pV b := by
  obtain ⟨v, hv⟩ := Option.isSome_iff_exists.1 hq
  obtain ⟨b, hb, he⟩ := h _ (lookA_mem hv)
  rw [hv] at hr
  exact ⟨b, hb, hr.symm.trans he⟩
theorem ArOk.cons {V V' : List Nat} {n n' : Nat} {a : Arn} (h : ArOk V n a) (hV : ∀ b ∈ V, b ∈ V') (hn : n ≤ n') (b : Nat) (o : OI) (h1 : SlOk V' a.rows n' o.ch) (h2 : o.sha.length = 20) : ArOk V' n' ⟨(b, o) :: a.objs, a.rows⟩ := by
  constructor
  · intro x hx
    rcases List.mem_cons.1 hx with rfl | hx
    · exact h1
    · exact (h.ch x hx).mono hV (fun _ h => h) hn
  · intro x hx
    rcases List.mem_cons.1 hx with rfl | hx
    · exact h2
    · exact h.sha x hx
theorem ArOk.mono {V V' : List Nat} {n n' : Nat} {a : Arn} (h : ArOk V n a) (hV : ∀ b ∈ V, b ∈ V') (hn : n ≤ n') : ArOk V' n' a := ⟨fun x hx => (h.ch x hx).mono hV (fun _ h => h) hn, h.sha⟩
theorem upd_mem {l1 l2 : List (Nat × OI)} {b : Nat} {o o' : OI} {x : Nat × OI} (hx : x ∈ l1 ++ (b, o') :: l2) : x = (b, o') ∨ x ∈ l1 ++ (b, o) :: l2 := by
  simp only [List.mem_append, List.mem_cons] at hx ⊢
  rcases hx with h | h | h
  · exact .inr (.inl h)
  · exact .inl h
  · exact .inr (.inr (.inr h))
theorem ArOk.upd {V V' : List Nat} {n n' : Nat} {a : Arn} {l1 l2 : List (Nat × OI)} {b : Nat} {o o' : OI} {rows' : List (Nat × Array Value)} (h : ArOk V n a) (hs : a.objs = l1 ++ (b, o) :: l2)
    (hold : ∀ v, SlOk V a.rows n v → SlOk V' rows' n' v) (h1 : SlOk V' rows' n' o'.ch) (h2 : o'.sha.length = 20) : ArOk V' n' ⟨l1 ++ (b, o') :: l2, rows'⟩ := by
  constructor
  · intro x hx
    rcases upd_mem (o := o) hx with rfl | hx
    · exact h1
    · exact hold _ (h.ch x (hs ▸ hx))
  · intro x hx
    rcases upd_mem (o := o) hx with rfl | hx
    · exact h2
    · exact h.sha x (hs ▸ hx)
theorem VIn.upd {V : List Nat} {a : Arn} {l1 l2 : List (Nat × OI)} {b : Nat} {o o' : OI} {rows' : List (Nat × Array Value)} (h : VIn V a) (hs : a.objs = l1 ++ (b, o) :: l2) : VIn V ⟨l1 ++ (b, o') :: l2, rows'⟩ := by
  intro c hc
  obtain ⟨oc, hoc⟩ := h c hc
  rw [hs] at hoc
  simp only [List.mem_append, List.mem_cons] at hoc
  rcases hoc with h | h | h
  · exact ⟨oc, by simp [h]⟩
  · injection h with h1 h2; exact ⟨o', by simp [h1]⟩
  · exact ⟨oc, by simp [h]⟩
theorem VIn.cons {V : List Nat} {a : Arn} (h : VIn V a) (b : Nat) (o : OI) : VIn (b :: V) ⟨(b, o) :: a.objs, a.rows⟩ := by
  intro c hc
  rcases List.mem_cons.1 hc with rfl | hc
  · exact ⟨o, by simp⟩
  · obtain ⟨oc, hoc⟩ := h c hc; exact ⟨oc, by simp [hoc]⟩
theorem mAr {a : Arn} {l1 l2 : List (Nat × OI)} {b : Nat} {o : OI} (hs : a.objs = l1 ++ (b, o) :: l2) : a.M.Perm (oiA b o :: (objsA (l1 ++ l2) ++ rowsA rowE a.rows)) := by
  unfold Arn.M; rw [hs]; exact perm_obj
theorem SlOk.at {V : List Nat} {rows : List (Nat × Array Value)} {n m j : Nat} {v : Value} (h : SlOk V rows n v) (hm : Shp v m) (hj : j < m) : ∃ r cs b, (r, cs) ∈ rows ∧ v = .slice (some ⟨r, 0, none⟩) m cs.size ∧ b ∈ V ∧ cs[j]? = some (pV b) := by
  rcases h with rfl | ⟨r, cs, len, h1, rfl, h3, h4, h5⟩
  · rcases hm with ⟨p0, cap, h, rfl, hp0⟩ | ⟨b, o, cap, _, h⟩
    · omega
    · cases h
  · rcases hm with ⟨p0, cap, h, rfl, hp0⟩ | ⟨b, o, cap, _, h⟩
    · omega
    · injection h with e1 e2 e3
      subst e2
      obtain ⟨b, hb, he⟩ := h5 j hj
      exact ⟨r, cs, b, h1, rfl, hb, he⟩
theorem keyH : KeyS Tryz.prog 79 (hkey (n := 20)) := keyArr (e := 5) Tryz.underlying79 Tryz.underlying5 (info_of Tryz.typeInfo5) (by kernel_rfl)
theorem keyI : KeyS Tryz.prog 2 i64v := keyInt Tryz.underlying2
end Go.Proofs.YtolddodhmeaceaaGreatDoor
namespace Go.Proofs.YtolddodhmeaceaaGreatDoor
open Go.Hl Go.Pk
structure PI where
  i : Nat
  s : St
  pos : Nat
  a : Arn
  V : List Nat
  mh : List (Hn 20 × Value)
  mo : List (Int × Value)
  oi : Value
  xs : List Value
structure PInv (x : Fx) (l : List En) (y : PI) : Prop where
  i : y.i ≤ l.length
  s : StOk x y.s y.pos
  p : Pre x.C (bodyL l).length y.pos ((l.drop y.i).flatMap En.bytes)
  a : ArOk y.V y.i y.a
  v : VIn y.V y.a
  mh : MapOk y.V y.mh
  mo : MapOk y.V y.mo
  xs : y.xs.length = y.i
structure PK where
  a : Arn
  V : List Nat
  mh : List (Hn 20 × Value)
  pb : Nat
structure KInv (V0 : List Nat) (i : Nat) (k : PK) : Prop where
  a : ArOk k.V i k.a
  v : VIn k.V k.a
  mh : MapOk k.V k.mh
  pb : k.pb ∈ k.V
  sub : ∀ b ∈ V0, b ∈ k.V
structure PJ where
  a : Arn
  V : List Nat
  mh : List (Hn 20 × Value)
  ob : Nat
  o : OI
  dl : Bool
structure JInv (V0 : List Nat) (i : Nat) (j : PJ) : Prop where
  a : ArOk (bif j.dl then j.ob :: j.V else j.V) (i + 1) j.a
  v : VIn j.V j.a
  mh : MapOk j.V j.mh
  sub : ∀ b ∈ V0, b ∈ j.V
  ch : j.o.ch = nilV
  sha : j.o.sha.length = 20
structure PL where
  a : Arn
  mh : List (Hn 20 × Value)
  o : OI
structure LInv (V : List Nat) (ob i : Nat) (k : PL) : Prop where
  a : ArOk (ob :: V) (i + 1) k.a
  v : VIn V k.a
  mh : MapOk (ob :: V) k.mh
  ch : SlOk (ob :: V) k.a.rows (i + 1) k.o.ch
  sha : k.o.sha.length = 20
theorem SlOk.le {V : List Nat} {rows : List (Nat × Array Value)} {n m : Nat} {v : Value} (h : SlOk V rows n v) (hm : Shp v m) {k : Nat} (hn : n ≤ k) : m ≤ k := by
  rcases h with rfl | ⟨r, cs, len, h1, rfl, h3, h4, h5⟩
  · rcases hm with ⟨p0, cap, h, rfl, hp0⟩ | ⟨b, o, cap, _, h⟩
    · omega
    · cases h
  · rcases hm with ⟨p0, cap, h, rfl, hp0⟩ | ⟨b, o, cap, _, h⟩
    · omega
    · injection h with e1 e2 e3; omega
theorem shp_one {v : Value} {n : Nat} (h : Shp v n) : v.oneCell' = true := by
  obtain ⟨ta, tn, tc, rfl⟩ := Shp.is h; rfl
theorem ct_index (g : GW) (hT : Cells g 25 0 pow10V) (x : Fx) (hx : FxOk g x) (l : List En) (hOk : ∀ e ∈ l, e.Ok) (hl : l.length ≤ 40) (hlt : x.C.length < (bodyL l).length)
    (s0 : St) (pos : Nat) (hs : StOk x s0 pos) (hP : Pre x.C (bodyL l).length pos (l.flatMap En.bytes)) (pb sn cb hb mhb mob : Nat) (hSk : x.Sk = skC cb hb) (oi ca obv : Value) (hoi : Shp oi 0) :
    Ct Tryz.prog g 64 [pV pb] (parA pb ⟨sn, l.length, oi, .map (some mhb), .map (some mob), ca, obv⟩ :: blk mhb (mapO (hkey (n := 20)) []) :: blk mob (mapO i64v []) :: own oi 1 211 [] :: scA x s0 pos sn (crcV cb) (hashV hb) (.pointer none) 2 l.length true)
      (fun v g' H' => IsE g' v ∧ H' = []) := by
  refine Ct_introD Tryz.func64 rfl (by kernel_rfl) Tryz.ntmps64 rfl ?_
  intro F g0 hg0
  replace hx := hx.mono hg0
  replace hT := hT.mono hg0
  refine SR (La rfl (nSR (Lk (e_call rfl (ct_getBuf g0) .nil) ?_)))
  rintro _ _ _ - ⟨_, rfl, ⟨bb, rfl, rfl⟩⟩
  refine La rfl (nSR (Lm rfl (TL_defer rfl (nS (T_seq (SR (TL_sat (fun g' hs => Sat.foldTo (M := []) hs) (La rfl (nS ?_)))))))))
  refine T_block (T_loop (ι := PI) (fun y _ => PInv x l y) (fun y => [(0, pV pb), (3, pV bb), (4, .int .u32 y.i)]) (fun y => (parA pb ⟨sn, l.length, y.oi, .map (some mhb), .map (some mob), ca, obv⟩ :: blk mhb (mapO (hkey (n := 20)) y.mh) :: blk mob (mapO i64v y.mo) :: own y.oi 1 211 y.xs :: arA y.a :: scA x y.s y.pos sn (crcV cb) (hashV hb) (.pointer none) 2 l.length true) ++ [F]) (fun y => l.length - y.i) (⟨0, s0, pos, ⟨[], []⟩, [], [], [], oi, []⟩) (fun g' hl => ⟨Nat.zero_le _, hs, hP, ⟨fun _ h => absurd h List.not_mem_nil, fun _ h => absurd h List.not_mem_nil⟩, fun _ h => absurd h List.not_mem_nil, fun _ h => absurd h List.not_mem_nil, fun _ h => absurd h List.not_mem_nil, rfl⟩) (by repeat (first | exact SubL.nil | refine SubL.cons rfl ?_)) (K2 (K2 (K2 (K2 (K0 (K1 (K1 (K1 (K1 (K1 (K1 (K1 (K1 (K1 .nil)))))))))))))) ?_)
  rintro ⟨i, s3, p3, a0, V0, mh0, mo0, lv, xs⟩ gD hlgD hI
  try dsimp only
  try dsimp only at hI
  obtain ⟨hi, hs3, hP3, har0, hv0, hmh0, hmo0, hxs⟩ := hI
  dsimp only at hi hs3 hP3 har0 hv0 hmh0 hmo0 hxs
  refine T_seq (SR (Lm rfl (Lm rfl (Ln rfl (Lf rfl Tryz.runUnderlying157 rfl Tryz.sizeOf29 rfl (Lp (p_load rfl Tryz.isAgg29 (.head _) rfl) (Lp (p_lss rfl rfl) (nS (T_condD rfl (fun hc3 => ?_) (fun hc3 => ?_))))))))))
  ·
    try dsimp only at hc3
    replace hc3 : i < l.length := by omega
    replace hx := hx.mono hlgD
    replace hT := hT.mono hlgD
    obtain ⟨e, hem, hed⟩ := ents_at hc3
    rw [hed] at hP3
    have he := hOk e hem
    have hk7 := kind_le he
    refine kS (T_seq (T_block (SR (Lm rfl (Ln rfl (Lf rfl Tryz.runUnderlying157 rfl Tryz.sizeOf59 rfl (Lp (p_load rfl Tryz.isAgg59 (.head _) rfl) (LE (e_call rfl (ct_NextHdr gD x hx s3 p3 hs3 sn cb hb hSk (hashV hb) 2 l.length (by decide) true _ _ e he hP3) (K5 (K5 (K5 (K5 (K5 (K5 (K5 (K5 .nil))))))))) ?_))))))))
    rintro _ gE _ hlgE ⟨_, rfl, ⟨s4, p4, eb, ⟨o1, o2, o3, o4, o5⟩, vp, er, rfl, hEr, hs4, rfl⟩⟩
    replace hx := hx.mono hlgE
    replace hT := hT.mono hlgE
    refine Lm rfl (Lx rfl rfl (Lx rfl rfl (La rfl (La rfl (nS (T_seq (SR (Lm rfl (Lp (p_neqE0 hEr.ifn rfl Tryz.underlying64) ?_)))))))))
    refine nS (T_condNB rfl (fun hc5 => ?_) (fun hc5 => ?_))
    ·
      try dsimp only at hc5
      have hee := hEr.bad (isB_f hc5)
      refine SR (Lm rfl (La rfl (nr (E_seq_ret (E_block_ret (E_seq_ret (E_loop_ret (E_block_ret (E_seq_ret ?_)))))))))
      refine E_pop (cd_putBuf _ _) .nil ?_
      rintro gp6 _ hlgp6 rfl
      refine E_retVD [] rfl ((hlgD.trans hlgE).trans hlgp6) (.cons (.tmp rfl) .nil) (.cons (.there (.there (.there (.there (.there (.there (.there (.there (.there (.there (.there (.there (.there (.there .here)))))))))))))) .nil) (fun g' hl => ?_)
      exact ⟨hee.mono (Le.trans (by assumption) hl), rfl⟩
    ·
      try dsimp only at hc5
      obtain ⟨rfl, e1, e2, hP4⟩ := hEr.ok (isB_t hc5)
      dsimp only at e1 e2
      subst e1
      subst e2
      refine kS (SR (La rfl (nSR (La rfl (nS (T_cut (ι := PJ) (fun j _ => JInv V0 i j) (fun j => [(0, pV pb), (3, pV bb), (4, .int .u32 i), (5, pV eb), (7, .bool j.dl), (8, pV j.ob)]) (fun j => (parA pb ⟨sn, l.length, lv, .map (some mhb), .map (some mob), ca, obv⟩ :: blk mhb (mapO (hkey (n := 20)) j.mh) :: blk mob (mapO i64v mo0) :: own lv 1 211 xs :: arA j.a :: oiA j.ob j.o :: ohA eb ⟨e.kind, o2, e.text.length, o4, o5⟩ :: scA x s4 p4 sn (crcV cb) (hashV hb) (pV eb) 2 l.length true) ++ [F]) ?_ ?_))))))
      ·
        refine SR (Lm rfl (Ln rfl (Lf rfl Tryz.runUnderlying81 rfl Tryz.sizeOf77 rfl (Lp (p_load rfl Tryz.isAgg77 (.head _) (oh_g81_0 _ rfl)) (La rfl (nSR (Lm rfl (nS (T_block ?_)))))))))
        refine SR (Lp (p_eql rfl rfl) (La rfl (nS (T_condD rfl (fun hc7 => ?_) (fun hc7 => ?_)))))
        ·
          try dsimp only at hc7
          refine SR (La rfl (nS (T_seq (T_regionD 14 Tryz.mixed rfl Part.all ?_))))
          obtain ⟨r1, hr1⟩ : ∃ r, (lookA o5 mo0).getD (.pointer none) = r := ⟨_, rfl⟩
          obtain ⟨q1, hq1⟩ : ∃ q, (lookA o5 mo0).isSome = q := ⟨_, rfl⟩
          refine Dp 0 rfl (p_move rfl) (Dp 1 rfl (p_nilCheck rfl) (Dp 2 rfl (p_fieldAddr rfl Tryz.runUnderlying157 rfl Tryz.sizeOf153 rfl) (Dp 3 rfl (p_load rfl Tryz.isAgg153 (.tail _ (.tail _ (.tail _ (.tail _ (.tail _ (.tail _ (.tail _ (.tail _ (.tail _ (.head _)))))))))) rfl) (Dp 4 rfl (p_move rfl) (Dp 5 rfl (p_nilCheck rfl) (Dp 6 rfl (p_fieldAddr rfl Tryz.runUnderlying81 rfl Tryz.sizeOf2 rfl) (Dp 7 rfl (p_load rfl Tryz.isAgg2 (.head _) (oh_g81_4 _ rfl)) (Dp 8 rfl (p_lookupOkE (keyI.toKeyT) (hr1) (hq1) rfl rfl Tryz.runUnderlying153 Tryz.zeroValue211 (.tail _ (.tail _ (.tail _ (.tail _ (.tail _ (.tail _ (.tail _ (.tail _ (.tail _ (.tail _ (.tail _ (.head _))))))))))))) (Dp 9 rfl (p_move rfl) ?_)))))))))
          refine Dp 10 rfl (p_extractL rfl rfl) (Dp 11 rfl (p_extractL rfl rfl) (Dp 12 rfl (p_assign rfl) (Dp 13 rfl (p_assign rfl) (DD (E_seq (T_seq (SR (Lm rfl (Lp (p_not rfl) ?_)))))))))
          refine nS (T_condNB rfl (fun hc8 => ?_) (fun hc8 => ?_))
          ·
            try dsimp only at hc8
            skip
            refine SR (Lp (p_loadF rfl Tryz.isAgg64 (hx.env.var 9 (by decide)).1) (La rfl (nr (E_seq_ret (E_block_ret (E_cut_ret (E_block_ret (E_seq_ret (E_loop_ret ?_)))))))))
            refine E_block_ret (E_seq_ret (E_pop (cd_putBuf _ _) .nil ?_))
            rintro gp9 _ hlgp9 rfl
            refine E_retVD [] rfl ((hlgD.trans hlgE).trans hlgp9) (.cons (.tmp rfl) .nil) (.cons (.there (.there (.there (.there (.there (.there (.there (.there (.there (.there (.there (.there (.there (.there .here)))))))))))))) .nil) (fun g' hl => ?_)
            exact ⟨⟨_, rfl, (hx.env.var 9 (by decide)).2.mono (Le.trans (by assumption) hl)⟩, rfl⟩
          ·
            try dsimp only at hc8
            obtain ⟨pb1, hpb1, rfl⟩ := look_ok hmo0 hr1 (hq1.trans hc8)
            refine kS (T_seq (T_regionD 12 Tryz.mixed rfl (K0 (.cons (.there (.there (.there (.there (.there (.there (.there (.there (.there (.there (.there (.there (.there .here))))))))))))) .nil)) (Dp 0 rfl (p_move rfl) (Dp 1 rfl (p_nilCheck rfl) (Dp 2 rfl (p_fieldAddr rfl Tryz.runUnderlying81 rfl Tryz.sizeOf2 rfl) (Dp 3 rfl (p_load rfl Tryz.isAgg2 (.head _) (oh_g81_1 _ rfl)) (Dp 4 rfl (p_move rfl) (Dp 5 rfl (p_nilCheck rfl) (Dp 6 rfl (p_fieldAddr rfl Tryz.runUnderlying81 rfl Tryz.sizeOf2 rfl) ?_)))))))))
            refine Dp 7 rfl (p_load rfl Tryz.isAgg2 (.head _) (oh_g81_2 _ rfl)) (Dp 8 rfl (p_move rfl) (Dp 9 rfl (p_move rfl) (DK 10 rfl (e_call rfl (ct_newDelta gE o2 e.text.length e.kind (some pb1)) .nil) ?_)))
            rintro _ _ _ - ⟨_, rfl, ⟨ob, rfl, rfl⟩⟩
            refine ⟨_, (K1 (K1 .nil)), ?_⟩
            refine Dp 11 rfl (p_assign rfl) (DD (E_seq (T_region ?_)))
            obtain ⟨po, hpo⟩ := hv0 pb1 hpb1
            obtain ⟨l1, l2, hsp⟩ := mem_split hpo
            have hsl := har0.ch _ hpo
            have hps := har0.sha _ hpo
            refine TL_sat (fun g' hs => Sat.focus hs (.cons (.there (.there (.there (.there (.there (.there (.there (.there (.there (.there (.there (.there (.there (.there (.there .here))))))))))))))) .nil) (mAr hsp)) (Lm rfl (Lm rfl (Ln rfl (Lf rfl Tryz.runUnderlying215 rfl Tryz.sizeOf151 rfl (Lp (p_load rfl Tryz.isAgg151 (.head _) (oi_g po 7 (by decide) rfl)) (Lm rfl (Lk (e_buildSlice rfl rfl rfl Tryz.runUnderlying151 Tryz.sizeOf211 Tryz.zeroValue211 rfl (by simp [Value.cells])) ?_)))))))
            rintro _ _ _ - ⟨q9, rfl, rfl⟩
            refine Lk (e_appendAr hsl (by omega) rfl rfl rfl rfl (src_ownS rfl (.head _)) (K2 .nil)) ?_
            rintro u _ _ - ⟨rows2, rfl, hu, hold⟩
            refine Ln rfl (Lf rfl Tryz.runUnderlying215 rfl Tryz.sizeOf151 rfl (TL_k0 (e_store1 rfl rfl Tryz.sizeOf151 hu.one (K2 .nil) (oi_lt po 7 (by decide)) rfl (oi_s po { po with ch := u } 7 (by decide) rfl rfl)) ?_))
            rintro _ _ _ - ⟨rfl, rfl⟩
            refine TL_nil (E_block (E_sat (fun g' hs => Sat.unfocus hs (K0 (K0 .nil)) (mAr (a := ⟨l1 ++ (pb1, { po with ch := u }) :: l2, rows2⟩) rfl)) (EC (.refl _) (⟨⟨l1 ++ (pb1, { po with ch := u }) :: l2, rows2⟩, V0, mh0, ob, _, true⟩) ?hI (.cons (.there (.there (.there (.there (.there (.there (.there (.there (.there (.there (.there (.there (.there .here))))))))))))) (.cons (.there (.there (.there (.there (.there (.there (.there (.there (.there (.there (.there (.there (.there .here))))))))))))) (.cons (.there (.there (.there (.there (.there (.there (.there (.there (.there (.there (.there (.there (.there .here))))))))))))) (.cons (.there (.there (.there (.there (.there (.there (.there (.there (.there (.there (.there (.there (.there .here))))))))))))) (K0 (K3 (K1 (K2 (K2 (K2 (K2 (K2 (K2 (K2 (K2 (K1 .nil)))))))))))))))))))
            case hI => intro g' hl; exact ⟨har0.upd hsp hold hu hps, hv0.upd hsp, hmh0, fun _ h => h, rfl, rfl⟩
        ·
          try dsimp only at hc7
          refine SR (Lp (p_eql rfl rfl) (La rfl (nS (T_condD rfl (fun hc14 => ?_) (fun hc14 => ?_)))))
          ·
            try dsimp only at hc14
            refine SR (La rfl (nS (T_seq (T_regionD 14 Tryz.mixed rfl Part.all ?_))))
            obtain ⟨r1, hr1⟩ : ∃ r, (lookA (⟨ref20 o4, ref20_len o4⟩ : Hn 20) mh0).getD (.pointer none) = r := ⟨_, rfl⟩
            obtain ⟨q1, hq1⟩ : ∃ q, (lookA (⟨ref20 o4, ref20_len o4⟩ : Hn 20) mh0).isSome = q := ⟨_, rfl⟩
            refine Dp 0 rfl (p_move rfl) (Dp 1 rfl (p_nilCheck rfl) (Dp 2 rfl (p_fieldAddr rfl Tryz.runUnderlying157 rfl Tryz.sizeOf152 rfl) (Dp 3 rfl (p_load rfl Tryz.isAgg152 (.tail _ (.tail _ (.tail _ (.tail _ (.tail _ (.tail _ (.tail _ (.tail _ (.tail _ (.head _)))))))))) rfl) (Dp 4 rfl (p_move rfl) (Dp 5 rfl (p_nilCheck rfl) (Dp 6 rfl (p_fieldAddr rfl Tryz.runUnderlying81 rfl Tryz.sizeOf79 rfl) (Dp 7 rfl (p_loadN (vs := bvs (ref20 o4)) rfl Tryz.isAgg79 Tryz.sizeOf79 (.head _) (by rw [bvs_length, ref20_len]) (oh_gref ⟨e.kind, o2, e.text.length, o4, o5⟩)) (Dp 8 rfl (p_lookupOkE (keyH.toKeyT) (hr1) (hq1) rfl rfl Tryz.runUnderlying152 Tryz.zeroValue211 (.tail _ (.tail _ (.tail _ (.tail _ (.tail _ (.tail _ (.tail _ (.tail _ (.tail _ (.tail _ (.head _)))))))))))) (Dp 9 rfl (p_move rfl) ?_)))))))))
            refine Dp 10 rfl (p_extractL rfl rfl) (Dp 11 rfl (p_extractL rfl rfl) (Dp 12 rfl (p_assign rfl) (Dp 13 rfl (p_assign rfl) (DD (E_seq (T_cut (ι := PK) (fun k _ => KInv V0 i k) (fun k => [(0, pV pb), (3, pV bb), (4, .int .u32 i), (5, pV eb), (7, .bool true), (9, .int .i8 e.kind), (12, pV k.pb)]) (fun k => (parA pb ⟨sn, l.length, lv, .map (some mhb), .map (some mob), ca, obv⟩ :: blk mhb (mapO (hkey (n := 20)) k.mh) :: blk mob (mapO i64v mo0) :: own lv 1 211 xs :: arA k.a :: ohA eb ⟨e.kind, o2, e.text.length, o4, o5⟩ :: scA x s4 p4 sn (crcV cb) (hashV hb) (pV eb) 2 l.length true) ++ [F]) ?_ ?_))))))
            ·
              refine SR (Lm rfl (Lp (p_not rfl) (nS (T_condNB rfl (fun hc15 => ?_) (fun hc15 => ?_)))))
              ·
                try dsimp only at hc15
                skip
                refine SR (Lm rfl (Ln rfl (Lf rfl Tryz.runUnderlying81 rfl Tryz.sizeOf79 rfl (Lp (p_loadN (vs := bvs (ref20 o4)) rfl Tryz.isAgg79 Tryz.sizeOf79 (.head _) (by rw [bvs_length, ref20_len]) (oh_gref ⟨e.kind, o2, e.text.length, o4, o5⟩)) (Lp (p_build (cells := oiC ⟨0, 0, -127, -127, true, 0, .pointer none, nilV, ref20 o4⟩) rfl (ph_built (ref20_len o4))) (Lk (e_box rfl rfl) ?_))))))
                rintro _ _ _ - ⟨f, rfl, rfl⟩
                refine La rfl (nS (T_regionD 10 Tryz.mixed rfl (.cons (.there (.there (.there (.there (.there (.there (.there (.there (.there (.there .here)))))))))) (K1 (.cons (.there (.there (.there (.there (.there (.there (.there (.there (.there (.there (.there (.there (.there .here))))))))))))) .nil))) (Dp 0 rfl (p_move rfl) (Dp 1 rfl (p_nilCheck rfl) (Dp 2 rfl (p_fieldAddr rfl Tryz.runUnderlying157 rfl Tryz.sizeOf152 rfl) (Dp 3 rfl (p_load rfl Tryz.isAgg152 (.head _) rfl) (Dp 4 rfl (p_move rfl) (Dp 5 rfl (p_nilCheck rfl) (Dp 6 rfl (p_fieldAddr rfl Tryz.runUnderlying81 rfl Tryz.sizeOf79 rfl) ?_)))))))))
                refine Dp 7 rfl (p_loadN (vs := bvs (ref20 o4)) rfl Tryz.isAgg79 Tryz.sizeOf79 (.tail _ (.head _)) (by rw [bvs_length, ref20_len]) (oh_gref ⟨e.kind, o2, e.text.length, o4, o5⟩)) (Dp 8 rfl (p_move rfl) (DK 9 rfl (e_mapSet (a := (⟨ref20 o4, ref20_len o4⟩ : Hn 20)) keyH rfl rfl rfl Tryz.runUnderlying152 (.cons (.there (.there (.there (.there (.there (.there (.there (.there (.there (.there (.there (.there .here)))))))))))) .nil)) ?_))
                rintro _ _ _ - ⟨rfl, rfl⟩
                refine ⟨_, (K1 (K1 (K1 .nil))), ?_⟩
                refine DD (E_sat (fun g' hs => Sat.unfocus hs (K4 (.cons (.there (.there (.there (.there (.there (.there (.there (.there (.there (.there (.there (.there (.there (.there .here)))))))))))))) .nil)) (mAr (a := ⟨(f, ⟨0, 0, -127, -127, true, 0, .pointer none, nilV, ref20 o4⟩) :: a0.objs, a0.rows⟩) (l1 := []) rfl)) (EC (.refl _) (⟨⟨(f, _) :: a0.objs, a0.rows⟩, f :: V0, _, f⟩) ?hI (K1 (K3 (.cons (.there (.there (.there (.there (.there (.there (.there (.there (.there (.there (.there .here))))))))))) (.cons (.there (.there (.there (.there (.there (.there (.there (.there (.there (.there (.there .here))))))))))) (K0 (K0 (K1 (K1 (K1 (K1 (K1 (K1 (K1 (K1 (K0 .nil)))))))))))))))))
                case hI => intro g' hl; exact ⟨har0.cons (fun _ h => by simp [h]) (Nat.le_refl _) _ _ (.inl rfl) (ref20_len o4), hv0.cons _ _, (hmh0.mono (fun _ h => by simp [h])).put (by simp) _, by simp, fun _ h => by simp [h]⟩
              ·
                try dsimp only at hc15
                obtain ⟨pb1, hpb1, rfl⟩ := look_ok hmh0 hr1 (hq1.trans hc15)
                refine T_skip (EC (.refl _) (⟨a0, V0, mh0, pb1⟩) ?hI (.cons (.there (.there (.there (.there (.there (.there (.there (.there (.there .here))))))))) (.cons (.there (.there (.there (.there (.there (.there (.there (.there (.there .here))))))))) (.cons (.there (.there (.there (.there (.there (.there (.there (.there (.there .here))))))))) (.cons (.there (.there (.there (.there (.there (.there (.there (.there (.there .here))))))))) (.cons (.there (.there (.there (.there (.there (.there (.there (.there (.there .here))))))))) (K0 (K0 (K0 (K0 (K0 (K0 (K0 (K0 (K0 (K0 .nil))))))))))))))))
                case hI => intro g' hl; exact ⟨har0, hv0, hmh0, hpb1, fun _ h => h⟩
            ·
              rintro ⟨a2, V2, mh2, pb2⟩ gK hlgK hK
              try dsimp only
              try dsimp only at hK
              obtain ⟨har2, hv2, hmh2, hpb2, hsub2⟩ := hK
              dsimp only at har2 hv2 hmh2 hpb2 hsub2
              refine T_seq (T_regionD 12 Tryz.mixed rfl (K5 (.cons (.there (.there (.there (.there (.there (.there (.there (.there (.there (.there (.there (.there (.there .here))))))))))))) .nil)) (Dp 0 rfl (p_move rfl) (Dp 1 rfl (p_nilCheck rfl) (Dp 2 rfl (p_fieldAddr rfl Tryz.runUnderlying81 rfl Tryz.sizeOf2 rfl) (Dp 3 rfl (p_load rfl Tryz.isAgg2 (.head _) (oh_g81_1 _ rfl)) (Dp 4 rfl (p_move rfl) (Dp 5 rfl (p_nilCheck rfl) (Dp 6 rfl (p_fieldAddr rfl Tryz.runUnderlying81 rfl Tryz.sizeOf2 rfl) (Dp 7 rfl (p_load rfl Tryz.isAgg2 (.head _) (oh_g81_2 _ rfl)) ?_)))))))))
              refine Dp 8 rfl (p_move rfl) (Dp 9 rfl (p_move rfl) (DK 10 rfl (e_call rfl (ct_newDelta gK o2 e.text.length e.kind (some pb2)) .nil) ?_))
              rintro _ _ _ - ⟨_, rfl, ⟨ob, rfl, rfl⟩⟩
              refine ⟨_, (K1 (K1 .nil)), ?_⟩
              refine Dp 11 rfl (p_assign rfl) (DD (E_seq (T_region ?_)))
              obtain ⟨po, hpo⟩ := hv2 pb2 hpb2
              obtain ⟨l1, l2, hsp⟩ := mem_split hpo
              have hsl := har2.ch _ hpo
              have hps := har2.sha _ hpo
              refine TL_sat (fun g' hs => Sat.focus hs (K7 .nil) (mAr hsp)) (Lm rfl (Lm rfl (Ln rfl (Lf rfl Tryz.runUnderlying215 rfl Tryz.sizeOf151 rfl (Lp (p_load rfl Tryz.isAgg151 (.head _) (oi_g po 7 (by decide) rfl)) (Lm rfl (Lk (e_buildSlice rfl rfl rfl Tryz.runUnderlying151 Tryz.sizeOf211 Tryz.zeroValue211 rfl (by simp [Value.cells])) ?_)))))))
              rintro _ _ _ - ⟨q9, rfl, rfl⟩
              refine Lk (e_appendAr hsl (by omega) rfl rfl rfl rfl (src_ownS rfl (.head _)) (K2 .nil)) ?_
              rintro u _ _ - ⟨rows2, rfl, hu, hold⟩
              refine Ln rfl (Lf rfl Tryz.runUnderlying215 rfl Tryz.sizeOf151 rfl (TL_k0 (e_store1 rfl rfl Tryz.sizeOf151 hu.one (K2 .nil) (oi_lt po 7 (by decide)) rfl (oi_s po { po with ch := u } 7 (by decide) rfl rfl)) ?_))
              rintro _ _ _ - ⟨rfl, rfl⟩
              refine TL_nil (E_block (E_sat (fun g' hs => Sat.unfocus hs (K0 (K0 .nil)) (mAr (a := ⟨l1 ++ (pb2, { po with ch := u }) :: l2, rows2⟩) rfl)) (EC hlgK (⟨⟨l1 ++ (pb2, { po with ch := u }) :: l2, rows2⟩, V2, mh2, ob, _, true⟩) ?hI (K5 (K5 (K5 (K5 (K0 (K3 (K1 (K2 (K2 (K2 (K2 (K2 (K2 (K2 (K2 (K1 .nil)))))))))))))))))))
              case hI => intro g' hl; exact ⟨har2.upd hsp hold hu hps, hv2.upd hsp, hmh2, hsub2, rfl, rfl⟩
          ·
            try dsimp only at hc14
            refine T_regionD 11 Tryz.mixed rfl (K0 (.cons (.there (.there (.there (.there (.there (.there (.there (.there (.there (.there (.there (.there (.there .here))))))))))))) .nil)) (Dp 0 rfl (p_move rfl) (Dp 1 rfl (p_nilCheck rfl) (Dp 2 rfl (p_fieldAddr rfl Tryz.runUnderlying81 rfl Tryz.sizeOf2 rfl) (Dp 3 rfl (p_load rfl Tryz.isAgg2 (.head _) (oh_g81_1 _ rfl)) (Dp 4 rfl (p_move rfl) (Dp 5 rfl (p_nilCheck rfl) (Dp 6 rfl (p_fieldAddr rfl Tryz.runUnderlying81 rfl Tryz.sizeOf2 rfl) (Dp 7 rfl (p_load rfl Tryz.isAgg2 (.head _) (oh_g81_2 _ rfl)) (Dp 8 rfl (p_move rfl) ?_)))))))))
            refine DK 9 rfl (e_call rfl (ct_newBase gE o2 e.text.length e.kind) .nil) ?_
            rintro _ _ _ - ⟨_, rfl, ⟨ob, rfl, rfl⟩⟩
            refine ⟨_, (K1 (K1 .nil)), ?_⟩
            refine Dp 10 rfl (p_assign rfl) (DD (E_block (EC (.refl _) (⟨a0, V0, mh0, ob, _, false⟩) ?hI (.cons (.there (.there (.there (.there (.there (.there (.there (.there (.there (.there (.there .here))))))))))) (.cons (.there (.there (.there (.there (.there (.there (.there (.there (.there (.there (.there .here))))))))))) (.cons (.there (.there (.there (.there (.there (.there (.there (.there (.there (.there (.there .here))))))))))) (.cons (.there (.there (.there (.there (.there (.there (.there (.there (.there (.there (.there .here))))))))))) (.cons (.there (.there (.there (.there (.there (.there (.there (.there (.there (.there (.there .here))))))))))) (K2 (K0 (K1 (K1 (K1 (K1 (K1 (K1 (K1 (K1 (K0 .nil)))))))))))))))))))
            case hI => intro g' hl; exact ⟨har0.mono (fun _ h => h) (Nat.le_succ _), hv0, hmh0, fun _ h => h, rfl, rfl⟩
      ·
        rintro ⟨a1, V1, mh1, ob, o, dl⟩ gJ hlgJ hJ
        try dsimp only
        try dsimp only at hJ
        obtain ⟨har1, hv1, hmh1, hsub1, hch1, hsha1⟩ := hJ
        dsimp only at har1 hv1 hmh1 hsub1 hch1 hsha1
        refine T_cut (ι := Nat × Nat × Atom × Nat) (fun y _ => SkHash y.2.1 y.2.2.2 y.2.2.1 ∧ y.2.2.2 ≤ 40) (fun y => [(0, pV pb), (3, pV bb), (4, .int .u32 i), (5, pV eb), (7, .bool dl), (8, pV ob), (14, pV y.1)]) (fun y => (parA pb ⟨sn, l.length, lv, .map (some mhb), .map (some mob), ca, obv⟩ :: blk mhb (mapO (hkey (n := 20)) mh1) :: blk mob (mapO i64v mo0) :: own lv 1 211 xs :: arA a1 :: oiA ob o :: ohA eb ⟨e.kind, o2, e.text.length, o4, o5⟩ :: blk y.1 (.cells #[hashV y.2.1] 218) :: y.2.2.1 :: scA x s4 p4 sn (crcV cb) (hashV hb) (pV eb) 2 l.length true) ++ [F]) ?_ ?_
        ·
          refine T_regionD 10 Tryz.mixed rfl (K6 (.cons (.there (.there (.there (.there (.there (.there (.there (.there (.there (.there (.there (.there (.there (.there .here)))))))))))))) .nil)) ?_
          replace hx := hx.mono hlgJ
          replace hT := hT.mono hlgJ
          refine Dp 0 rfl (p_move rfl) (Dp 1 rfl (p_nilCheck rfl) (Dp 2 rfl (p_fieldAddr rfl Tryz.runUnderlying81 rfl Tryz.sizeOf77 rfl) (Dp 3 rfl (p_load rfl Tryz.isAgg77 (.head _) (oh_g81_0 _ rfl)) (Dp 4 rfl (p_move rfl) (Dp 5 rfl (p_nilCheck rfl) (Dp 6 rfl (p_fieldAddr rfl Tryz.runUnderlying81 rfl Tryz.sizeOf2 rfl) (Dp 7 rfl (p_load rfl Tryz.isAgg2 (.head _) (oh_g81_2 _ rfl)) (TD_two (i := 8) (j := 9) (by kernel_rfl) ?_ ?_))))))))
          ·
            refine TO_k (i := 8) rfl rfl rfl (e_call rfl (ct_NewHasher gJ hT e.kind e.text.length (by have := he.len; omega)) .nil) ?_
            rintro _ _ _ - ⟨_, rfl, ⟨hh, v1, l1, hl1, rfl, rfl⟩⟩
            refine ⟨_, (K2 (K2 .nil)), ?_⟩
            refine DK 9 rfl (e_alloc Tryz.zeroValue218 (show _ = #[Value.nilIface] from rfl)) ?_
            rintro _ _ _ - ⟨z, rfl, rfl⟩
            refine ⟨_, (K1 (K1 .nil)), ?_⟩
            refine DB rfl (e_storeW rfl rfl Tryz.sizeOf218 rfl rfl (by intro u hu; simp [Value.cells] at hu; subst hu; rfl) (K2 .nil) rfl) ?_
            rintro _ _ _ - ⟨rfl, rfl⟩
            refine TA_done (by kernel_rfl) (E_sat (fun g' hs => Sat.foldTo (M := hashA hh v1 l1) (hs.part (K3 (K3 .nil)))) (EC (.refl _) ((z, hh, _, l1.length)) ?hI (K4 (K4 (K4 (K4 (K4 (K4 (K2 (K1 (K0 (K1 (K1 (K1 (K1 (K1 (K1 (K1 (K1 (K0 .nil))))))))))))))))))))
            case hI => intro g' hl; exact ⟨⟨v1, l1, rfl, rfl⟩, hl1⟩
          ·
            refine TO_k (i := 9) rfl rfl rfl (e_alloc Tryz.zeroValue218 (show _ = #[Value.nilIface] from rfl)) ?_
            rintro _ _ _ - ⟨z, rfl, rfl⟩
            refine ⟨_, (K1 (K1 .nil)), ?_⟩
            refine DK 8 rfl (e_call rfl (ct_NewHasher gJ hT e.kind e.text.length (by have := he.len; omega)) .nil) ?_
            rintro _ _ _ - ⟨_, rfl, ⟨hh, v1, l1, hl1, rfl, rfl⟩⟩
            refine ⟨_, (K2 (K2 .nil)), ?_⟩
            refine DB rfl (e_storeW rfl rfl Tryz.sizeOf218 rfl rfl (by intro u hu; simp [Value.cells] at hu; subst hu; rfl) (K4 .nil) rfl) ?_
            rintro _ _ _ - ⟨rfl, rfl⟩
            refine TA_done (by kernel_rfl) (E_sat (fun g' hs => Sat.foldTo (M := hashA hh v1 l1) (hs.part (K3 (K3 .nil)))) (EC (.refl _) ((z, hh, _, l1.length)) ?hI (K4 (K4 (K4 (K4 (K4 (K4 (K2 (K1 (K0 (K1 (K1 (K1 (K1 (K1 (K1 (K1 (K1 (K0 .nil))))))))))))))))))))
            case hI => intro g' hl; exact ⟨⟨v1, l1, rfl, rfl⟩, hl1⟩
        ·
          rintro ⟨tb, hh, S, n0⟩ gQ hlgQ ⟨hS, hn0⟩
          try dsimp only
          try dsimp only at hS hn0
          refine SR (Lp (p_loadW (cs := #[hashV hh]) rfl Tryz.isAgg218 Tryz.sizeOf218 (.tail _ (.tail _ (.tail _ (.tail _ (.tail _ (.tail _ (.tail _ (.head _)))))))) rfl) (Lp (p_mkIface rfl Tryz.runUnderlying218 (fun _ h => by cases h)) (Lk (e_buildSlice rfl rfl rfl Tryz.runUnderlying172 Tryz.sizeOf126 Tryz.zeroValue126 rfl (by simp [Value.cells])) ?_)))
          rintro _ _ _ - ⟨w9, rfl, rfl⟩
          refine La rfl (nSR (La rfl (nS (T_seq (SR (Lm rfl (Ln rfl (Lf rfl Tryz.runUnderlying157 rfl Tryz.sizeOf150 rfl (Lp (p_load rfl Tryz.isAgg150 (.tail _ (.head _)) rfl) ?_)))))))))
          refine Lp (p_neqNN rfl Tryz.underlying150) (Lm rfl (Ls (Ls (Lp (p_pickF rfl rfl) (nS (T_condF rfl (kS (T_cut (ι := Unit) (fun _ _ => True) (fun _ => [(0, pV pb), (3, pV bb), (4, .int .u32 i), (5, pV eb), (7, .bool dl), (8, pV ob), (14, pV tb), (15, .slice (some ⟨w9, 0, none⟩) 1 1), (16, .pointer none)]) (fun _ => (parA pb ⟨sn, l.length, lv, .map (some mhb), .map (some mob), ca, obv⟩ :: blk mhb (mapO (hkey (n := 20)) mh1) :: blk mob (mapO i64v mo0) :: own lv 1 211 xs :: arA a1 :: oiA ob o :: ohA eb ⟨e.kind, o2, e.text.length, o4, o5⟩ :: blk tb (.cells #[hashV hh] 218) :: S :: own (.slice (some ⟨w9, 0, none⟩) 1 1) 1 126 [.iface 218 (hasherV hh)] :: scA x s4 p4 sn (crcV cb) (hashV hb) (pV eb) 2 l.length true) ++ [F]) ?_ ?_))))))))
          ·
            refine SR (Lm rfl (Lm rfl (TL_split 236 rfl (fun hg33 => ?_) (fun hg33 => ?_))))
            ·
              try dsimp only at hg33
              refine Lg (p_move rfl) (Lg (p_nilCheck rfl) (Lg (p_fieldAddr rfl Tryz.runUnderlying157 rfl Tryz.sizeOf59 rfl) (Lg (p_load rfl Tryz.isAgg59 (.tail _ (.head _)) rfl) (Lg (p_nilCheck rfl) (Lg (p_fieldAddr rfl Tryz.runUnderlying131 rfl Tryz.sizeOf4 rfl) (Lg (p_load rfl Tryz.isAgg4 (.tail _ (.tail _ (.tail _ (.tail _ (.tail _ (.tail _ (.tail _ (.tail _ (.tail _ (.tail _ (.head _))))))))))) rfl) (Lg (p_not rfl) (Lp (p_pickT rfl rfl) (nS ?_)))))))))
              refine T_condF rfl (T_skip (EC (.refl _) (()) ?hI (K1 (K1 (K1 (K1 (K1 (K1 (K1 (K1 (K1 (K0 (K0 (K0 (K0 (K0 (K0 (K0 (K0 (K0 (K0 .nil)))))))))))))))))))))
              case hI => intro g' hl; trivial
            ·
              try dsimp only at hg33
              refine Ls (Ls (Ls (Ls (Ls (Ls (Ls (Ls (Lp (p_pickF rfl rfl) (nS ?_)))))))))
              refine T_condF rfl (T_skip (EC (.refl _) (()) ?hI (K1 (K1 (K1 (K1 (K1 (K1 (K1 (K1 (K1 (K0 (K0 (K0 (K0 (K0 (K0 (K0 (K0 (K0 (K0 .nil)))))))))))))))))))))
              case hI => intro g' hl; trivial
          ·
            rintro _ gR hlgR _
            refine SR (Lm rfl ?_)
            refine LE (e_call rfl (ct_multi gR [.iface 218 (hasherV hh)] (by intro w hw; simp at hw; subst hw; exact ⟨_, _, rfl, by decide⟩) (show 1 ≤ 100 from by decide) _ (.some _ _ _ _ (Nat.le_refl _)) _) (.cons (.there (.there (.there (.there (.there (.there (.there (.there (.there .here))))))))) .nil)) ?_
            rintro _ gM _ hlgM ⟨_, rfl, ⟨mw, wsv, rfl, hm1, hm2, hm3, rfl⟩⟩
            have hMw : Mw gM mw [.iface 218 (hasherV hh)] (Q1 (SkHash hh)) := ⟨⟨wsv, hm1, hm2, hm3⟩, fun k wv hk => by (match k, hk with | 0, h => injection h with h; subst h; exact (wr_hasher gM hh).q1)⟩
            replace hx := hx.mono (((hlgJ.trans hlgQ).trans hlgR).trans hlgM)
            refine La rfl (nSR (Lm rfl (Ln rfl (Lf rfl Tryz.runUnderlying157 rfl Tryz.sizeOf59 rfl (Lp (p_load rfl Tryz.isAgg59 (.head _) rfl) (Lm rfl ?_))))))
            refine LE (e_call rfl (ct_NextObject gM x hx s4 p4 hs4 sn cb hb hSk (hashV hb) 2 l.length true _ e.text _ hP4 eb ⟨e.kind, o2, e.text.length, o4, o5⟩ rfl (.iface 173 (pV mw)) n0 (SkHash hh) (wr_mw1 hMw) S hS (by have := he.len; omega)) (K8 (K6 (K7 (K7 (K7 (K7 (K7 (K7 (K7 (K7 .nil))))))))))) ?_
            rintro _ gG _ hlgG ⟨_, rfl, ⟨s5, p5, S', w, cs, er2, rfl, hEr2, hs5, rfl⟩⟩
            replace hx := hx.mono hlgG
            refine Lm rfl (Lx rfl rfl (Lx rfl rfl (Lx rfl rfl (La rfl (La rfl (La rfl (nS (T_seq (SR ?_)))))))))
            refine Lm rfl (Lp (p_neqE0 hEr2.ifn rfl Tryz.underlying64) (nS (T_condNB rfl (fun hc37 => ?_) (fun hc37 => ?_))))
            ·
              try dsimp only at hc37
              have hee := hEr2.bad (isB_f hc37)
              refine SR (Lm rfl (La rfl (nr (E_seq_ret (E_block_ret (E_seq_ret (E_loop_ret (E_block_ret (E_seq_ret ?_)))))))))
              refine E_pop (cd_putBuf _ _) .nil ?_
              rintro gp38 _ hlgp38 rfl
              refine E_retVD [] rfl (((((((hlgD.trans hlgE).trans hlgJ).trans hlgQ).trans hlgR).trans hlgM).trans hlgG).trans hlgp38) (.cons (.tmp rfl) .nil) (.cons (.there (.there (.there (.there (.there (.there (.there (.there (.there (.there (.there (.there (.there (.there (.there (.there (.there .here))))))))))))))))) .nil) (fun g' hl => ?_)
              exact ⟨hee.mono (Le.trans (by assumption) hl), rfl⟩
            ·
              try dsimp only at hc37
              obtain ⟨e3, hS', hP5⟩ := hEr2.ok (isB_t hc37)
              refine kS (T_seq (SR (Lm rfl (Lp (p_neqP0 rfl rfl Tryz.underlying220) (nS (T_condF rfl (kS (SR (Lm rfl ?_)))))))))
              refine Lm rfl (Ln rfl (Lf rfl Tryz.runUnderlying215 rfl Tryz.sizeOf29 rfl (TL_k0 (e_store1 rfl rfl Tryz.sizeOf29 rfl (.cons (.there (.there (.there (.there (.there (.there (.there (.there (.there (.there (.there (.there (.there (.there (.there .here))))))))))))))) .nil) (oi_lt o 5 (by decide)) rfl (oi_s o { o with crc := cs } 5 (by decide) rfl rfl)) ?_)))
              rintro _ _ _ - ⟨rfl, rfl⟩
              refine nSR (Lm rfl (Lm rfl (Ln rfl (Lf rfl Tryz.runUnderlying81 rfl Tryz.sizeOf2 rfl (Lp (p_load rfl Tryz.isAgg2 (.tail _ (.tail _ (.head _))) (oh_g81_2 _ rfl)) (Ln rfl (Lf rfl Tryz.runUnderlying215 rfl Tryz.sizeOf2 rfl (TL_k0 (e_store1 rfl rfl Tryz.sizeOf2 rfl (K0 .nil) (oi_lt _ 1 (by decide)) rfl (oi_s { o with crc := cs } { o with crc := cs, len := e.text.length } 1 (by decide) rfl rfl)) ?_))))))))
              rintro _ _ _ - ⟨rfl, rfl⟩
              refine nS (T_cut (ι := PL) (fun k _ => LInv V1 ob i k) (fun k => [(0, pV pb), (3, pV bb), (4, .int .u32 i), (5, pV eb), (7, .bool dl), (8, pV ob)]) (fun k => (parA pb ⟨sn, l.length, lv, .map (some mhb), .map (some mob), ca, obv⟩ :: blk mhb (mapO (hkey (n := 20)) k.mh) :: blk mob (mapO i64v mo0) :: own lv 1 211 xs :: arA k.a :: oiA ob k.o :: ohA eb ⟨e.kind, o2, e.text.length, o4, o5⟩ :: scA x s5 p5 sn (crcV cb) (hashV hb) (.pointer none) 2 l.length true) ++ [F]) ?_ ?_)
              ·
                refine SR (Lm rfl (Lp (p_not rfl) (nS (T_condNB rfl (fun hc41 => ?_) (fun hc41 => ?_)))))
                ·
                  try dsimp only at hc41
                  subst hc41
                  replace har1 : ArOk V1 (i + 1) a1 := har1
                  refine SR ?_
                  obtain ⟨v9, l9, hl9, rfl⟩ := hS'
                  refine TL_sat (fun g' hs => Sat.unfoldM hs (K1 .nil)) (Lp (p_loadW (cs := #[hashV hh]) rfl Tryz.isAgg218 Tryz.sizeOf218 (.tail _ (.tail _ (.tail _ (.tail _ (.tail _ (.tail _ (.tail _ (.tail _ (.tail _ (.tail _ (.tail _ (.tail _ (.tail _ (.tail _ (.tail _ (.tail _ (.tail _ (.head _)))))))))))))))))) rfl) ?_)
                  refine Lk (e_call rfl (ct_hasherSum gG hh v9 l9 (by have := he.len; omega)) (K0 (K0 .nil))) ?_
                  rintro _ _ _ - ⟨_, rfl, ⟨d9, hd9, rfl, rfl⟩⟩
                  refine Lk (e_alloc Tryz.zeroValue79 rfl) ?_
                  rintro _ _ _ - ⟨y9, rfl, rfl⟩
                  refine TL_k0 (e_storeW rfl rfl Tryz.sizeOf79 rfl (by simp [Value.cells, bvs_length, hd9]) (one_bvs _) (K0 .nil) rfl) ?_
                  rintro _ _ _ - ⟨rfl, rfl⟩
                  refine nS (T_cut (ι := Arn × OI) (fun k _ => ArOk V1 (i + 1) k.1 ∧ VIn V1 k.1 ∧ SlOk V1 k.1.rows (i + 1) k.2.ch ∧ k.2.sha.length = 20) (fun k => [(0, pV pb), (3, pV bb), (4, .int .u32 i), (5, pV eb), (7, .bool false), (8, pV ob), (27, pV y9)]) (fun k => (parA pb ⟨sn, l.length, lv, .map (some mhb), .map (some mob), ca, obv⟩ :: blk mhb (mapO (hkey (n := 20)) mh1) :: blk mob (mapO i64v mo0) :: own lv 1 211 xs :: arA k.1 :: oiA ob k.2 :: ohA eb ⟨e.kind, o2, e.text.length, o4, o5⟩ :: blk y9 (.cells (bvs d9).toArray 79) :: scA x s5 p5 sn (crcV cb) (hashV hb) (.pointer none) 2 l.length true) ++ [F]) ?_ ?_)
                  ·
                    refine T_seq (T_regionD 11 Tryz.mixed rfl Part.all ?_)
                    obtain ⟨r1, hr1⟩ : ∃ r, (lookA (⟨d9, hd9⟩ : Hn 20) mh1).getD (.pointer none) = r := ⟨_, rfl⟩
                    obtain ⟨q1, hq1⟩ : ∃ q, (lookA (⟨d9, hd9⟩ : Hn 20) mh1).isSome = q := ⟨_, rfl⟩
                    refine Dp 0 rfl (p_move rfl) (Dp 1 rfl (p_nilCheck rfl) (Dp 2 rfl (p_fieldAddr rfl Tryz.runUnderlying157 rfl Tryz.sizeOf152 rfl) (Dp 3 rfl (p_load rfl Tryz.isAgg152 (.tail _ (.tail _ (.tail _ (.tail _ (.tail _ (.tail _ (.tail _ (.tail _ (.tail _ (.tail _ (.tail _ (.tail _ (.tail _ (.head _)))))))))))))) rfl) (Dp 4 rfl (p_loadW (cs := (bvs d9).toArray) rfl Tryz.isAgg79 Tryz.sizeOf79 (.head _) (by simp [bvs_length, hd9])) (Dp 5 rfl (p_lookupOkE (keyH.toKeyT) (hr1) (hq1) rfl rfl Tryz.runUnderlying152 Tryz.zeroValue211 (.tail _ (.tail _ (.tail _ (.tail _ (.tail _ (.tail _ (.tail _ (.tail _ (.tail _ (.tail _ (.tail _ (.tail _ (.tail _ (.tail _ (.head _)))))))))))))))) (Dp 6 rfl (p_move rfl) (Dp 7 rfl (p_extractL rfl rfl) (Dp 8 rfl (p_extractL rfl rfl) (Dp 9 rfl (p_assign rfl) ?_)))))))))
                    refine Dp 10 rfl (p_assign rfl) (DD (E_seq (SR (Lm rfl (nS (T_cond rfl (fun hc45 => ?_) (fun hc45 => ?_)))))))
                    ·
                      try dsimp only at hc45
                      obtain ⟨fb, hfb, rfl⟩ := look_ok hmh1 hr1 (hq1.trans hc45)
                      refine SR ?_
                      obtain ⟨fo, hfo⟩ := hv1 fb hfb
                      obtain ⟨l1, l2, hsp⟩ := mem_split hfo
                      have hfs := har1.ch _ hfo
                      obtain ⟨mm, hmsh⟩ := hfs.shp
                      refine TL_sat (fun g' hs => Sat.focus hs (.cons (.there (.there (.there (.there (.there (.there (.there (.there (.there (.there (.there (.there (.there (.there (.there (.there (.there .here))))))))))))))))) .nil) (mAr hsp)) (Lm rfl (Lm rfl (Ln rfl (Lf rfl Tryz.runUnderlying215 rfl Tryz.sizeOf151 rfl (Lp (p_load rfl Tryz.isAgg151 (.head _) (oi_g fo 7 (by decide) rfl)) (Ln rfl (Lf rfl Tryz.runUnderlying215 rfl Tryz.sizeOf151 rfl (TL_k0 (e_store1 rfl rfl Tryz.sizeOf151 hfs.one (K5 .nil) (oi_lt _ 7 (by decide)) rfl (oi_s { o with crc := cs, len := e.text.length } { o with crc := cs, len := e.text.length, ch := fo.ch } 7 (by decide) rfl rfl)) ?_))))))))
                      rintro _ _ _ - ⟨rfl, rfl⟩
                      refine nSR (TL_sat (fun g' hs => Sat.unfocus hs (K1 (K1 .nil)) (mAr hsp)) (Lm rfl (Ln rfl (Lf rfl Tryz.runUnderlying215 rfl Tryz.sizeOf151 rfl (Lp (p_load rfl Tryz.isAgg151 (.tail _ (.head _)) (oi_g _ 7 (by decide) rfl)) (Lp (p_len hmsh rfl rfl Tryz.runUnderlying151) (Lm rfl (nS (T_block (T_loop (ι := Nat × List (Nat × OI)) (fun y _ => y.1 ≤ mm ∧ ArOk V1 (i + 1) ⟨y.2, a1.rows⟩ ∧ VIn V1 ⟨y.2, a1.rows⟩) (fun y => [(0, pV pb), (3, pV bb), (4, .int .u32 i), (5, pV eb), (7, .bool false), (8, pV ob), (27, pV y9), (325, fo.ch), (326, .int .i64 mm), (327, .int .i64 y.1)]) (fun y => (parA pb ⟨sn, l.length, lv, .map (some mhb), .map (some mob), ca, obv⟩ :: blk mhb (mapO (hkey (n := 20)) mh1) :: blk mob (mapO i64v mo0) :: own lv 1 211 xs :: arA ⟨y.2, a1.rows⟩ :: oiA ob { o with crc := cs, len := e.text.length, ch := fo.ch } :: ohA eb ⟨e.kind, o2, e.text.length, o4, o5⟩ :: blk y9 (.cells (bvs d9).toArray 79) :: scA x s5 p5 sn (crcV cb) (hashV hb) (.pointer none) 2 l.length true) ++ [F]) (fun y => mm - y.1) ((0, a1.objs)) (fun g' hl => ⟨Nat.zero_le _, har1, hv1⟩) (by repeat (first | exact SubL.nil | refine SubL.cons rfl ?_)) (.cons (.there (.there (.there (.there (.there (.there (.there (.there (.there (.there (.there (.there (.there (.there .here)))))))))))))) (.cons (.there (.there (.there (.there (.there (.there (.there (.there (.there (.there (.there (.there (.there (.there .here)))))))))))))) (.cons (.there (.there (.there (.there (.there (.there (.there (.there (.there (.there (.there (.there (.there (.there .here)))))))))))))) (.cons (.there (.there (.there (.there (.there (.there (.there (.there (.there (.there (.there (.there (.there (.there .here)))))))))))))) (K0 (K0 (K3 (K0 (K2 (K2 (K2 (K2 (K2 (K2 (K2 (K2 (K3 .nil))))))))))))))))) ?_))))))))))
                      rintro ⟨j, ol⟩ gO hlgO ⟨hj, hAj, hVj⟩
                      try dsimp only
                      try dsimp only at hj hAj hVj
                      refine SR (Lp (p_lss rfl rfl) (nS (T_seq (T_condD rfl (fun hc48 => ?_) (fun hc48 => ?_)))))
                      ·
                        try dsimp only at hc48
                        replace hc48 : j < mm := by omega
                        obtain ⟨rr, ccs, cbk, hrow, hveq, hcb, hce⟩ := hfs.at hmsh hc48
                        obtain ⟨R1, R2, hrs⟩ := mem_split hrow
                        refine kS (T_seq (T_block (SR (Lp (p_ix (hmsh) (j := j) rfl rfl Tryz.runUnderlying151 Tryz.sizeOf211 (by omega) (by omega) rfl) ?_))))
                        refine TL_sat (fun g' hs => Sat.focus hs (K4 .nil) (M' := objsA ol ++ rowsA rowE (R1 ++ R2)) (show (Arn.M ⟨ol, a1.rows⟩).Perm _ from by unfold Arn.M; dsimp only; rw [hrs]; exact perm_row)) ?_
                        refine Lp (p_load (b := rr) (o := j) (by show some (ep fo.ch (j * 1)) = _; rw [hveq]; show some (Value.pointer (some ⟨rr, 0 + j * 1, none⟩)) = _; rw [Nat.zero_add, Nat.mul_one]) Tryz.isAgg211 (.head _) hce) ?_
                        refine La rfl (nR ?_)
                        obtain ⟨co, hco⟩ := hVj cbk hcb
                        obtain ⟨m1, m2, hsp2⟩ := mem_split hco
                        refine TL_sat (fun g' hs => Sat.unfocus hs (K0 (K0 .nil)) (show (Arn.M ⟨ol, a1.rows⟩).Perm _ from by unfold Arn.M; dsimp only; rw [hrs]; exact perm_row)) ?_
                        refine TL_sat (fun g' hs => Sat.focus hs (K0 .nil) (mAr hsp2)) (Lm rfl (Lm rfl (Ln rfl (Lf rfl Tryz.runUnderlying215 rfl Tryz.sizeOf211 rfl (TL_k0 (e_store1 rfl rfl Tryz.sizeOf211 rfl (K0 .nil) (oi_lt co 6 (by decide)) rfl (oi_s co { co with par := pV ob } 6 (by decide) rfl rfl)) ?_)))))
                        rintro _ _ _ - ⟨rfl, rfl⟩
                        refine TL_nil (E_block (E_seq (T_region (TL_sat (fun g' hs => Sat.unfocus hs (K0 (K0 .nil)) (mAr (a := ⟨m1 ++ (cbk, { co with par := pV ob }) :: m2, a1.rows⟩) rfl)) ?_))))
                        refine Lp (p_add rfl rfl ((show IntKind.i64.wrap ((j : Int) + 1) = ((j + 1 : Nat) : Int) from by have hmm : mm ≤ 1000000 := hfs.le hmsh (by omega); rw [wr64 (by omega) (by omega)]; omega))) ?_
                        refine Lm rfl (TL_nil (EL (.refl _) ((j + 1, m1 ++ (cbk, { co with par := pV ob }) :: m2)) ?hm ?hI ((K1 (K1 (K1 (K1 (K0 (K0 (K0 (K0 (K0 (K0 (K0 (K0 (K0 (K0 (K0 (K0 (K0 .nil))))))))))))))))))))
                        case hm => exact (by dsimp only; omega)
                        case hI => exact (fun g' hl => ⟨by dsimp only; omega, hAj.upd hsp2 (fun _ h => h) (hAj.ch _ hco) (hAj.sha _ hco), hVj.upd hsp2⟩)
                      ·
                        try dsimp only at hc48
                        skip
                        refine T_exit (E_seq_exit (E_loop_exit (E_block_hit (EC hlgO ((⟨ol, a1.rows⟩, { o with crc := cs, len := e.text.length, ch := fo.ch })) ?hI (K0 (K0 (K0 (K0 (K0 (K0 (K0 (K0 (K0 (K0 (K0 (K0 (K0 (K0 (K0 (K0 (K0 .nil)))))))))))))))))))))
                        case hI => intro g' hl; exact ⟨hAj, hVj, hfs, hsha1⟩
                    ·
                      try dsimp only at hc45
                      skip
                      refine T_skip (EC (.refl _) ((a1, { o with crc := cs, len := e.text.length })) ?hI (.cons (.there (.there (.there (.there (.there (.there (.there (.there (.there (.there (.there (.there (.there .here))))))))))))) (.cons (.there (.there (.there (.there (.there (.there (.there (.there (.there (.there (.there (.there (.there .here))))))))))))) (.cons (.there (.there (.there (.there (.there (.there (.there (.there (.there (.there (.there (.there (.there .here))))))))))))) (.cons (.there (.there (.there (.there (.there (.there (.there (.there (.there (.there (.there (.there (.there .here))))))))))))) (.cons (.there (.there (.there (.there (.there (.there (.there (.there (.there (.there (.there (.there (.there .here))))))))))))) (K3 (K3 (K0 (K2 (K2 (K2 (K2 (K2 (K2 (K2 (K2 (K3 .nil))))))))))))))))))
                      case hI => intro g' hl; exact ⟨har1, hv1, .inl hch1, hsha1⟩
                  ·
                    rintro ⟨a4, o4'⟩ gN hlgN ⟨har4, hv4, hch4, hsha4⟩
                    try dsimp only
                    try dsimp only at har4 hv4 hch4 hsha4
                    refine SR (Lm rfl (Lp (p_loadW (cs := (bvs d9).toArray) rfl Tryz.isAgg79 Tryz.sizeOf79 (.tail _ (.tail _ (.tail _ (.tail _ (.tail _ (.tail _ (.tail _ (.head _)))))))) (by simp [bvs_length, hd9])) (Ln rfl (Lf rfl Tryz.runUnderlying215 rfl Tryz.sizeOf79 rfl ?_))))
                    refine TL_k0 (e_storeN rfl rfl Tryz.sizeOf79 ((size_bvs _).trans hd9) (one_bvs _) (K5 .nil) (by rw [oi_size, hsha4]; decide) (fun k _ _ h => by simp at h) (oi_ssha _ d9 hsha4 hd9)) ?_
                    rintro _ _ _ - ⟨rfl, rfl⟩
                    refine nS (T_regionD 10 Tryz.mixed rfl (K1 (K0 (.cons (.there (.there (.there (.there (.there (.there (.there (.there (.there (.there (.there (.there (.there (.there .here)))))))))))))) .nil))) (Dp 0 rfl (p_move rfl) (Dp 1 rfl (p_nilCheck rfl) (Dp 2 rfl (p_fieldAddr rfl Tryz.runUnderlying157 rfl Tryz.sizeOf152 rfl) (Dp 3 rfl (p_load rfl Tryz.isAgg152 (.head _) rfl) (Dp 4 rfl (p_move rfl) (Dp 5 rfl (p_nilCheck rfl) (Dp 6 rfl (p_fieldAddr rfl Tryz.runUnderlying215 rfl Tryz.sizeOf79 rfl) (Dp 7 rfl (p_loadN (vs := bvs d9) rfl Tryz.isAgg79 Tryz.sizeOf79 (.tail _ (.head _)) (by rw [bvs_length, hd9]) (oi_gsha { o4' with sha := d9 })) ?_)))))))))
                    refine Dp 8 rfl (p_move rfl) (DK 9 rfl (e_mapSet (a := (⟨d9, hd9⟩ : Hn 20)) keyH rfl rfl rfl Tryz.runUnderlying152 (K3 .nil)) ?_)
                    rintro _ _ _ - ⟨rfl, rfl⟩
                    refine ⟨_, (K1 (K1 (K1 .nil))), ?_⟩
                    refine DD (EC hlgN (⟨a4, _, { o4' with sha := d9 }⟩) ?hI (K0 (K2 (K2 (K2 (K2 (K0 (K1 (K2 (K2 (K2 (K2 (K2 (K2 (K2 (K2 (K0 .nil)))))))))))))))))
                    case hI => intro g' hl; exact ⟨har4.mono (fun _ h => by simp [h]) (Nat.le_refl _), hv4, (hmh1.mono (fun _ h => by simp [h])).put (by simp) _, hch4.mono (fun _ h => by simp [h]) (fun _ h => h) (Nat.le_refl _), hd9⟩
                ·
                  try dsimp only at hc41
                  subst hc41
                  replace har1 : ArOk (ob :: V1) (i + 1) a1 := har1
                  refine T_skip (EC (.refl _) (⟨a1, mh1, { o with crc := cs, len := e.text.length }⟩) ?hI (.cons (.there (.there (.there (.there (.there (.there (.there (.there (.there (.there (.there .here))))))))))) (.cons (.there (.there (.there (.there (.there (.there (.there (.there (.there (.there (.there .here))))))))))) (.cons (.there (.there (.there (.there (.there (.there (.there (.there (.there (.there (.there .here))))))))))) (.cons (.there (.there (.there (.there (.there (.there (.there (.there (.there (.there (.there .here))))))))))) (.cons (.there (.there (.there (.there (.there (.there (.there (.there (.there (.there (.there .here))))))))))) (K0 (K1 (K1 (K1 (K1 (K1 (K1 (K1 (K1 (K1 (K2 .nil)))))))))))))))))
                  case hI => intro g' hl; exact ⟨har1, hv1, hmh1.mono (fun _ h => by simp [h]), .inl hch1, hsha1⟩
              ·
                rintro ⟨a3, mh3, o3⟩ gL hlgL hK3
                try dsimp only
                try dsimp only at hK3
                obtain ⟨har3, hv3, hmh3, hch3, hsha3⟩ := hK3
                dsimp only at har3 hv3 hmh3 hch3 hsha3
                refine T_cut (ι := Unit) (fun _ _ => True) (fun _ => [(0, pV pb), (3, pV bb), (4, .int .u32 i), (5, pV eb), (8, pV ob)]) (fun _ => (parA pb ⟨sn, l.length, lv, .map (some mhb), .map (some mob), ca, obv⟩ :: blk mhb (mapO (hkey (n := 20)) mh3) :: blk mob (mapO i64v mo0) :: own lv 1 211 xs :: arA a3 :: oiA ob o3 :: ohA eb ⟨e.kind, o2, e.text.length, o4, o5⟩ :: scA x s5 p5 sn (crcV cb) (hashV hb) (.pointer none) 2 l.length true) ++ [F]) ?_ ?_
                ·
                  refine SR (Lm rfl (Lm rfl (TL_split 350 rfl (fun hg54 => ?_) (fun hg54 => ?_))))
                  ·
                    try dsimp only at hg54
                    refine Lg (p_move rfl) (Lg (p_nilCheck rfl) (Lg (p_fieldAddr rfl Tryz.runUnderlying157 rfl Tryz.sizeOf59 rfl) (Lg (p_load rfl Tryz.isAgg59 (.head _) rfl) (Lg (p_nilCheck rfl) (Lg (p_fieldAddr rfl Tryz.runUnderlying131 rfl Tryz.sizeOf4 rfl) (Lg (p_load rfl Tryz.isAgg4 (.tail _ (.tail _ (.tail _ (.tail _ (.tail _ (.tail _ (.tail _ (.head _)))))))) rfl) (Lg (p_not rfl) (Lp (p_pickT rfl rfl) (nS ?_)))))))))
                    refine T_condF rfl (T_skip (EC (.refl _) (()) ?hI (K0 (K0 (K0 (K0 (K0 (K0 (K0 (K0 (K0 (K0 (K0 (K0 (K0 (K0 (K0 (K0 .nil))))))))))))))))))
                    case hI => intro g' hl; trivial
                  ·
                    try dsimp only at hg54
                    refine Ls (Ls (Ls (Ls (Ls (Ls (Ls (Ls (Lp (p_pickF rfl rfl) (nS ?_)))))))))
                    refine T_condF rfl (T_skip (EC (.refl _) (()) ?hI (K0 (K0 (K0 (K0 (K0 (K0 (K0 (K0 (K0 (K0 (K0 (K0 (K0 (K0 (K0 (K0 .nil))))))))))))))))))
                    case hI => intro g' hl; trivial
                ·
                  rintro _ gP hlgP _
                  refine T_seq (T_regionD 10 Tryz.mixed rfl (K0 (K5 (.cons (.there (.there (.there (.there (.there (.there (.there (.there (.there (.there (.there (.there (.there .here))))))))))))) .nil))) (Dp 0 rfl (p_move rfl) (Dp 1 rfl (p_nilCheck rfl) (Dp 2 rfl (p_fieldAddr rfl Tryz.runUnderlying157 rfl Tryz.sizeOf153 rfl) (Dp 3 rfl (p_load rfl Tryz.isAgg153 (.head _) rfl) (Dp 4 rfl (p_move rfl) (Dp 5 rfl (p_nilCheck rfl) (Dp 6 rfl (p_fieldAddr rfl Tryz.runUnderlying81 rfl Tryz.sizeOf2 rfl) (Dp 7 rfl (p_load rfl Tryz.isAgg2 (.tail _ (.head _)) (oh_g81_1 _ rfl)) ?_)))))))))
                  refine Dp 8 rfl (p_move rfl) (DK 9 rfl (e_mapSet (a := o2) keyI rfl rfl rfl Tryz.runUnderlying153 (K4 .nil)) ?_)
                  rintro _ _ _ - ⟨rfl, rfl⟩
                  refine ⟨_, (K1 (K1 (K1 .nil))), ?_⟩
                  refine DD (E_seq (T_region (Lm rfl (Lm rfl (Ln rfl (Lf rfl Tryz.runUnderlying157 rfl Tryz.sizeOf151 rfl (Lp (p_load rfl Tryz.isAgg151 (.head _) rfl) (Lm rfl (Lk (e_buildSlice rfl rfl rfl Tryz.runUnderlying151 Tryz.sizeOf211 Tryz.zeroValue211 rfl (by simp [Value.cells])) ?_)))))))))
                  rintro _ _ _ - ⟨q8, rfl, rfl⟩
                  refine Lk (e_append (by_ := 8) rfl rfl rfl rfl Tryz.runUnderlying151 Tryz.runUnderlying151 (.inr ⟨_, rfl⟩) Tryz.sizeOf211 Tryz.zeroValue211 rfl Tryz.typeInfo211 rfl (by decide) (by decide) (src_ownS rfl (.head _)) (by simp [flatC, Value.cells]; omega) (K6 .nil) (by intro u hu; simp [flatC, Value.cells] at hu; subst hu; rfl)) ?_
                  rintro v8 _ _ - ⟨n_v8, hs_v8, hn_v8, rfl⟩
                  refine Ln rfl (Lf rfl Tryz.runUnderlying157 rfl Tryz.sizeOf151 rfl (TL_k0 (e_store1 rfl rfl Tryz.sizeOf151 (shp_one hs_v8) (K2 .nil) rfl rfl rfl) ?_))
                  rintro _ _ _ - ⟨rfl, rfl⟩
                  refine TL_nil (E_block (E_seq (T_region (Lm rfl (Lp (p_add rfl rfl (wrU32 (by omega) (by omega))) (La rfl (TL_nil (E_sat (fun g' hs => Sat.unfocus hs (K8 (K7 .nil)) (mAr (a := ⟨(ob, o3) :: a3.objs, a3.rows⟩) (l1 := []) rfl)) (EL (((((((hlgE.trans hlgJ).trans hlgQ).trans hlgR).trans hlgM).trans hlgG).trans hlgL).trans hlgP) (⟨i + 1, s5, p5, ⟨(ob, o3) :: a3.objs, a3.rows⟩, ob :: V1, mh3, _, v8, _⟩) ?hm ?hI ((K1 (K6 (K5 (K1 (K0 (K3 (K3 (K3 (K3 (K3 (K3 (K3 (K3 (K2 .nil))))))))))))))))))))))))
                  case hm => exact (by dsimp only; omega)
                  case hI => exact (fun g' hl => ⟨by dsimp only; omega, hs5, hP5, har3.cons (fun _ h => h) (Nat.le_refl _) _ _ hch3 hsha3, hv3.cons _ _, hmh3, (hmo0.mono (fun b hb => by simp [hsub1 b hb])).put (by simp) _, by dsimp only; simp [flatC, Value.cells, hxs]⟩)
  ·
    try dsimp only at hc3
    exact (Pre.nil (by have hh := hP3; rw [show i = l.length from by omega, List.drop_length] at hh; exact hh) hlt).elim
end Go.Proofs.YtolddodhmeaceaaGreatDoor
namespace Go.Proofs.YtolddodhmeaceaaGreatDoor
open Go.Hl Go.Pk
theorem or_ifn {g : GW} {v : Value} {Q : Prop} (h : IsE g v ∨ (v = .nilIface ∧ Q)) : IfN v := by
  rcases h with h | h
  · exact h.ifn
  · exact .inl h.1
theorem ct_Parse (g : GW) (hT : Cells g 25 0 pow10V) (x : Fx) (hx : FxOk g x) (l : List En) (hOk : ∀ e ∈ l, e.Ok) (hl : l.length ≤ 40) (hpre : x.C <+: bodyL l) (hlt : x.C.length < (bodyL l).length)
    (s0 : St) (hs : StOk x s0 0) (pb sn cb hb ob : Nat) (hSk : x.Sk = skC cb hb) (ca obv : Value) (hob : Shp obv 1) :
    Ct Tryz.prog g 32 [pV pb] (parA pb ⟨sn, 0, nilV, .map none, .map none, ca, obv⟩ :: own obv 1 246 [obsV ob] :: scA x s0 0 sn (crcV cb) (hashV hb) (.pointer none) 0 0 true)
      (fun v g' H' => ∃ h er, v = .tuple #[.agg (bvs h).toArray, er] ∧ h.length = 20 ∧ IsE g' er ∧ H' = []) := by
  have hP0 : Pre x.C (bodyL l).length 0 (head12 l.length ++ l.flatMap En.bytes) := Pre.start hpre
  refine CI Tryz.func32 Tryz.ntmps32 rfl fun F g0 hg0 => ?_
  replace hx := hx.mono hg0
  replace hT := hT.mono hg0
  refine SR (Lk (e_alloc Tryz.zeroValue79 (show _ = (bvs zero20).toArray from rfl)) ?_)
  rintro _ _ _ - ⟨z, rfl, rfl⟩
  refine La rfl (nS (T_seq (SR (Lm rfl (LE (e_call rfl ((ct_init g0 x hx s0 hs pb sn cb hb ob _ l.length (by omega) _ hP0 ca obv hob).folded) (K1 (K1 (K1 (K1 (K1 (K1 (K1 (K1 (K1 (K1 .nil))))))))))) ?_)))))
  rintro _ gB _ hlgB ⟨_, rfl, ⟨HI, rfl, hR⟩⟩
  replace hx := hx.mono hlgB
  replace hT := hT.mono hlgB
  refine La rfl (nSR (Lm rfl (Lp (p_neqE0 (or_ifn hR) rfl Tryz.underlying64) (nS (T_condNB rfl (fun hc3 => ?_) (fun hc3 => ?_))))))
  ·
    have hee := hR.resolve_right (fun h => isB_f hc3 h.1)
    refine SR (Lp (p_build (cells := (bvs zero20).toArray) rfl (by kernel_rfl)) (Lm rfl (LE (e_call rfl (ct_wrapEOF gB x.eE x.uE hx.env _ hee) .nil) ?_)))
    rintro _ gW _ hlgW ⟨_, rfl, ⟨he2, rfl⟩⟩
    refine TL_k0 (e_storeW rfl rfl Tryz.sizeOf79 rfl rfl (one_bvs _) (K1 .nil) rfl) ?_
    rintro _ _ _ - ⟨rfl, rfl⟩
    refine La rfl (nr (E_seq_ret (E_retV [] rfl (hlgB.trans hlgW) (.cons (.whole rfl Tryz.isAgg79 Tryz.sizeOf79 (.head _) rfl) (.cons (.tmp rfl) .nil)) (K2 .nil) (fun g' hl => ?_))))
    exact ⟨zero20, _, rfl, rfl, he2.mono hl, rfl⟩
  ·
    obtain ⟨rfl, s1, p1, mhb, mob, oi, hs1, hP1, hoi, rfl⟩ := hR.resolve_left (fun h => h.ne (isB_t hc3))
    refine T_sat (fun g' hs => Sat.unfoldM hs (K0 .nil)) (kS (T_seq (SR (Lm rfl (LE (e_call rfl (ct_index gB hT x hx l hOk hl hlt s1 p1 hs1 hP1 pb sn cb hb mhb mob hSk oi ca obv hoi) (K0 (K0 (K0 (K0 (K0 (K0 (K0 (K0 (K0 (K0 (K0 (K0 .nil))))))))))))) ?_)))))
    rintro _ gI _ hlgI ⟨_, rfl, ⟨hie, rfl⟩⟩
    replace hx := hx.mono hlgI
    refine La rfl (nSR (Lm rfl (Lp (p_neqE0 hie.ifn rfl Tryz.underlying64) (nS (T_condNB rfl (fun hc7 => ?_) (fun hc7 => ?_))))))
    ·
      skip
      refine SR (Lp (p_build (cells := (bvs zero20).toArray) rfl (by kernel_rfl)) (Lm rfl (LE (e_call rfl (ct_wrapEOF gI x.eE x.uE hx.env _ hie) .nil) ?_)))
      rintro _ gW _ hlgW ⟨_, rfl, ⟨he2, rfl⟩⟩
      refine TL_k0 (e_storeW rfl rfl Tryz.sizeOf79 rfl rfl (one_bvs _) (K0 .nil) rfl) ?_
      rintro _ _ _ - ⟨rfl, rfl⟩
      refine La rfl (nr (E_seq_ret (E_retV [] rfl ((hlgB.trans hlgI).trans hlgW) (.cons (.whole rfl Tryz.isAgg79 Tryz.sizeOf79 (.head _) rfl) (.cons (.tmp rfl) .nil)) (K1 .nil) (fun g' hl => ?_))))
      exact ⟨zero20, _, rfl, rfl, he2.mono hl, rfl⟩
    ·
      exact (hie.ne (isB_t hc7)).elim
theorem ct_ParsePack (g : GW) (eE uE : Nat × Nat) (hE : Env g eE uE) (hT : Cells g 25 0 pow10V) (cv : Value) (C : List UInt8) (hcv : Bytes g cv C) (hC : C.length ≤ 900000000) (l : List En) (hOk : ∀ e ∈ l, e.Ok) (hl : l.length ≤ 40) (hpre : C <+: bodyL l) (hlt : C.length < (bodyL l).length) :
    Ct Tryz.prog g 9 [cv] [] (fun v _ H' => ∃ a b, v = .tuple #[a, b, .bool false] ∧ H' = []) := by
  refine CI Tryz.func9 Tryz.ntmps9 rfl fun F g0 hg0 => ?_
  replace hE := hE.mono hg0
  replace hcv := hcv.mono hg0
  replace hT := hT.mono hg0
  refine SR (La rfl (La rfl (La rfl (nSR (Lk (e_makeMap i64v) ?_)))))
  rintro _ _ _ - ⟨m1, rfl, rfl⟩
  refine Lk (e_makeMap i64v) ?_
  rintro _ _ _ - ⟨m2, rfl, rfl⟩
  refine Lp (p_build (cells := #[.map (some m1), .map (some m2), nilV]) rfl (by kernel_rfl)) (Lk (e_box rfl rfl) ?_)
  rintro _ _ _ - ⟨ob, rfl, rfl⟩
  refine La rfl (nSR (Lm rfl (Lk (e_call rfl (ct_bytesNewReader g0 cv C.length hcv.1) .nil) ?_)))
  rintro _ _ _ - ⟨_, rfl, ⟨br, rfl, rfl⟩⟩
  refine Lp (p_mkIface rfl Tryz.runUnderlying61 (fun _ h => by cases h)) (LE (e_call rfl (ct_NewScanner g0 eE uE hE br cv C hcv hC (-1)) (K0 .nil)) ?_)
  rintro _ gB _ hlgB ⟨_, rfl, ⟨x, s1, sn, cb, hb, rfl, hx, hxC, hSk, hs1, rfl⟩⟩
  subst hxC
  replace hT := hT.mono hlgB
  refine Lm rfl (Lp (p_mkIface rfl Tryz.runUnderlying88 (fun _ h => by cases h)) (Lk (e_buildSlice rfl rfl rfl Tryz.runUnderlying146 Tryz.sizeOf246 Tryz.zeroValue246 rfl (by simp [Value.cells])) ?_))
  rintro _ _ _ - ⟨w, rfl, rfl⟩
  refine Lk (e_call rfl (ct_NewParser gB sn x.sr (crcV cb) (hashV hb) (.pointer none) 0 0 _ (.some _ _ _ _ (Nat.le_refl _))) (K1 .nil)) ?_
  rintro _ _ _ - ⟨_, rfl, ⟨pb, ca, rfl, rfl⟩⟩
  refine Lm rfl (Lx rfl rfl (Lx rfl rfl (La rfl (La rfl (nS (T_seq (SR (Lm rfl (Lp (p_neqNN rfl Tryz.underlying64) ?_)))))))))
  refine nS (T_condF rfl (kS (SR (Lm rfl (Lk (e_call rfl (ct_Parse gB hT x hx l hOk hl hpre hlt s1 hs1 pb sn cb hb ob hSk (pV ca) _ (.some _ _ _ _ (Nat.le_refl _))) (K0 (K1 (K0 (K0 (K0 (K0 (K0 (K0 (K0 (K0 .nil))))))))))) ?_)))))
  rintro _ _ _ - ⟨_, rfl, ⟨h, er, rfl, hh, hie, rfl⟩⟩
  refine Lm rfl (Lx rfl rfl (Lx rfl rfl (Lk (e_alloc Tryz.zeroValue79 rfl) ?_)))
  rintro _ _ _ - ⟨z, rfl, rfl⟩
  refine TL_k0 (e_storeW rfl rfl Tryz.sizeOf79 rfl (by simp [Value.cells, bvs_length, hh]) (one_bvs _) (K0 .nil) rfl) ?_
  rintro _ _ _ - ⟨rfl, rfl⟩
  refine La rfl (nS (T_seq (SR (Lm rfl (Lp (p_neqE0 hie.ifn rfl Tryz.underlying64) (nS (T_condNB rfl (fun hc11 => ?_) (fun hc11 => ?_))))))))
  ·
    skip
    refine SR (La rfl (La rfl (La rfl (nr (E_seq_ret (E_ret3 [] rfl hlgB rfl rfl rfl (K4 .nil) (fun g' hl => ?_)))))))
    exact ⟨_, _, rfl, rfl⟩
  ·
    exact (hie.ne (isB_t hc11)).elim
end Go.Proofs.YtolddodhmeaceaaGreatDoor
namespace Go.Proofs.YtolddodhmeaceaaGreatDoor
open Go.Hl Go.Pk
theorem ct_isSrc (g : GW) (c : Int) (t : Bool) (h : (!decide (bitsOf .and .u8 c 128 = 0)) = t) : Ct Tryz.prog g 118 [.int .u8 c] [] (fun r _ H' => r = .bool t ∧ H' = []) := by
  refine CI Tryz.func118 Tryz.ntmps118 rfl fun F g0 hg0 => ?_
  refine SR (La rfl (nSR (Lm rfl (Lp (p_and rfl rfl rfl) (Lp (p_neq rfl rfl) (La rfl (nr (E_ret1 [] rfl (.refl _) rfl (K0 .nil) (fun g' hl => ?_)))))))))
  exact ⟨by rw [← h]; simp, rfl⟩
theorem ct_isDelta2 (g : GW) : Ct Tryz.prog g 124 [.int .u8 2] [] (fun r _ H' => r = .bool true ∧ H' = []) := by
  refine CI Tryz.func124 Tryz.ntmps124 rfl fun F g0 hg0 => ?_
  refine SR (La rfl (nSR (Lm rfl (Lp (p_and rfl rfl (show bitsOf .and .u8 2 128 = 0 from by decide)) (Lp (p_eql rfl rfl) (Lm rfl (Lg (p_move rfl) (Lg (p_neq rfl rfl) (Lp (p_pickT rfl rfl) ?_)))))))))
  refine La rfl (nr (E_ret1 [] rfl (.refl _) rfl (K0 .nil) (fun g' hl => ?_)))
  exact ⟨rfl, rfl⟩
theorem ct_invSize (g : GW) (a b : Nat) (h : a ≤ b) : Ct Tryz.prog g 121 [.int .u64 a, .int .u64 b] [] (fun r _ H' => r = .bool false ∧ H' = []) := by
  refine CI Tryz.func121 Tryz.ntmps121 rfl fun F g0 hg0 => ?_
  refine SR (La rfl (nSR (Lm rfl (Lm rfl (Lp (p_gtr rfl rfl) (La rfl (nr (E_ret1 [] rfl (.refl _) rfl (K0 .nil) (fun g' hl => ?_)))))))))
  exact ⟨by rw [decide_eq_false (by omega)], rfl⟩
theorem ct_sumOv (g : GW) (a b : Nat) (h : a + b < 18446744073709551616) : Ct Tryz.prog g 150 [.int .u64 a, .int .u64 b] [] (fun r _ H' => r = .bool false ∧ H' = []) := by
  refine CI Tryz.func150 Tryz.ntmps150 rfl fun F g0 hg0 => ?_
  refine SR (La rfl (nSR (Lm rfl (Lm rfl (Lp (p_add rfl rfl ((fa (k := .u64) rfl a b h))) (Lm rfl (Lp (p_lss rfl rfl) (La rfl (nr (E_ret1 [] rfl (.refl _) rfl (K0 .nil) (fun g' hl => ?_)))))))))))
  exact ⟨by rw [decide_eq_false (by omega)], rfl⟩
theorem ct_invOff (g : GW) (a b c : Nat) (h : a + b ≤ c) (hc : c < 18446744073709551616) : Ct Tryz.prog g 122 [.int .u64 a, .int .u64 b, .int .u64 c] [] (fun r _ H' => r = .bool false ∧ H' = []) := by
  refine CI Tryz.func122 Tryz.ntmps122 rfl fun F g0 hg0 => ?_
  refine SR (La rfl (nSR (Lm rfl (Lm rfl (Lk (e_call rfl (ct_sumOv g0 a b (by omega)) .nil) ?_)))))
  rintro _ _ _ - ⟨_, rfl, ⟨rfl, rfl⟩⟩
  refine Lm rfl (Lg (p_move rfl) (Lg (p_move rfl) ?_))
  refine Lg (p_add rfl rfl ((fa (k := .u64) rfl a b (by show _ < 18446744073709551616; omega)))) ?_
  refine Lg (p_move rfl) (Lg (p_gtr rfl rfl) (Lp (p_pickF rfl rfl) (La rfl (nr (E_ret1 [] rfl (.refl _) rfl (K0 .nil) (fun g' hl => ?_))))))
  exact ⟨by rw [decide_eq_false (by omega)], rfl⟩
theorem and128e : ∀ n : Nat, n < 128 → bitsOf .and .u64 (n : Int) 128 = 0 := by decide
theorem and127e : ∀ n : Nat, n < 128 → bitsOf .and .u64 (n : Int) 127 = (n : Int) := by decide
theorem ct_leb (g : GW) (v : Value) (c : UInt8) (l : List UInt8) (hv : Bytes g v (c :: l)) (hc : c.toNat < 128) (hl : l.length ≤ 1000000) :
    Ct Tryz.prog g 117 [v] [] (fun r _ H' => r = .tuple #[.int .u64 c.toNat, sl v 1 (l.length + 1) 1, .nilIface] ∧ H' = []) := by
  refine CI Tryz.func117 Tryz.ntmps117 rfl fun F g0 hg0 => ?_
  replace hv := hv.mono hg0
  refine SR (La rfl (La rfl (La rfl (nS (T_seq (SR (Lm rfl (Lp (p_len (hv.1) rfl rfl Tryz.runUnderlying25) (Lp (p_eql rfl rfl) ?_)))))))))
  refine nS (T_condD rfl (fun hc1 => ?_) (fun hc1 => ?_))
  ·
    exact absurd hc1 (by simp; omega)
  ·
    skip
    refine kS (SR (La rfl (La rfl (nSR (La rfl (nS (T_seq (T_block (T_loop (ι := Unit) (fun _ _ => True) (fun _ => [(0, v), (5, .int .u64 0), (6, .int .u64 0)]) (fun _ => [F]) (fun _ => 0) (()) (fun g' hl => trivial) (by repeat (first | exact SubL.nil | refine SubL.cons rfl ?_)) (K0 .nil) ?_)))))))))
    rintro _ gA hlgA _
    replace hv := hv.mono hlgA
    refine T_block (T_seq (SR (Lm rfl (Lp (p_mul rfl rfl (wrU64 (by omega) (by omega))) (Lp (p_gtr rfl rfl) (nS (T_condF rfl (kS (SR ?_)))))))))
    refine Lm rfl (Lm rfl (Lp (p_ix (hv.1) (j := 0) rfl rfl Tryz.runUnderlying25 Tryz.sizeOf5 (by omega) (by omega) rfl) (Lp (p_ldB (k := 0) hv rfl Tryz.isAgg5 rfl) (La rfl (nSR (Lm rfl (Lm rfl (Lp (p_conv rfl Tryz.runUnderlying5 Tryz.runUnderlying103 (wrU64 (by omega) (by omega))) (Lp (p_and rfl rfl (and127e _ hc)) ?_)))))))))
    refine Lm rfl (Lp (p_mul rfl rfl (wrU64 (by omega) (by omega))) (Lp (p_shl rfl rfl (by decide) rfl (show IntKind.u64.wrap ((c.toNat : Int) * 2 ^ 0) = (c.toNat : Int) from by rw [Int.pow_zero, Int.mul_one, wrU64 (by omega) (by omega)])) ?_))
    refine Lp (p_or rfl rfl (show bitsOf .or .u64 0 (c.toNat : Int) = (c.toNat : Int) from by rw [show (0 : Int) = ((0 : Nat) : Int) from rfl, bitsOf_orN (k := .u64) rfl 0 c.toNat (by decide) (by show _ < 18446744073709551616; omega), Nat.zero_or])) ?_
    refine La rfl (nSR (Lm rfl (Lp (p_add rfl rfl (wrU64 (by omega) (by omega))) (La rfl (nSR (Lm rfl (Lp (p_conv rfl Tryz.runUnderlying5 Tryz.runUnderlying103 (wrU64 (by omega) (by omega))) (Lp (p_and rfl rfl (and128e _ hc)) (Lp (p_eql rfl rfl) ?_)))))))))
    refine Lm rfl (Ls (Ls (Ls (Ls (Ls (Lp (p_pickT rfl rfl) (nS (T_condT rfl (T_exit ?_)))))))))
    refine E_block_pass rfl (E_loop_exit (E_block_hit (E_seq (T_seq (T_regionD 7 Tryz.mixed rfl Part.all (Dp 0 rfl (p_move rfl) (Dp 1 rfl (p_move rfl) (Dp 2 rfl (p_move rfl) (Dp 3 rfl (p_slL (a := 1) hv.1 rfl Tryz.runUnderlying25 Tryz.sizeOf5 rfl rfl (by simp) rfl) ?_)))))))))
    refine Dp 4 rfl (p_assign rfl) (Dp 5 rfl (p_assign rfl) (Dp 6 rfl (p_assign rfl) (DD ?_)))
    refine E_seq (T_ret (E_ret3 [] rfl hlgA rfl rfl rfl (K0 .nil) (fun g' hl => ?_)))
    exact ⟨rfl, rfl⟩
end Go.Proofs.YtolddodhmeaceaaGreatDoor
namespace Go.Proofs.YtolddodhmeaceaaGreatDoor
open Go.Hl Go.Pk
def offM (j : Nat) : Int := [1, 2, 4, 8].getD j 0
def offS (j : Nat) : Int := [0, 8, 16, 24].getD j 0
def offC : List Value := [.int .u8 1, .int .u64 0, .int .u8 2, .int .u64 8, .int .u8 4, .int .u64 16, .int .u8 8, .int .u64 24]
theorem off_at : ∀ j, j < 4 → ∀ i u, [Value.int .u8 (offM j), .int .u64 (offS j)][i]? = some u → offC[j * 2 + i]? = some u := by
  intro j hj i u h
  match j, hj with
  | 0, _ => match i, h with | 0, h => exact h | 1, h => exact h
  | 1, _ => match i, h with | 0, h => exact h | 1, h => exact h
  | 2, _ => match i, h with | 0, h => exact h | 1, h => exact h
  | 3, _ => match i, h with | 0, h => exact h | 1, h => exact h
theorem off_and : ∀ j, j < 4 → bitsOf .and .u8 144 (offM j) = 0 := by decide
def sizM (j : Nat) : Int := [16, 32, 64].getD j 0
def sizS (j : Nat) : Int := [0, 8, 16].getD j 0
def sizC : List Value := [.int .u8 16, .int .u64 0, .int .u8 32, .int .u64 8, .int .u8 64, .int .u64 16]
theorem siz_at : ∀ j, j < 3 → ∀ i u, [Value.int .u8 (sizM j), .int .u64 (sizS j)][i]? = some u → sizC[j * 2 + i]? = some u := by
  intro j hj i u h
  match j, hj with
  | 0, _ => match i, h with | 0, h => exact h | 1, h => exact h
  | 1, _ => match i, h with | 0, h => exact h | 1, h => exact h
  | 2, _ => match i, h with | 0, h => exact h | 1, h => exact h
theorem siz_and : ∀ j, j < 3 → bitsOf .and .u8 144 (sizM j) = (if j = 0 then 16 else 0) := by decide
theorem ct_decOff (g : GW) (tv : Value) (hc : Cell g 15 0 tv) (hs : Shp tv 4) (hr : Rd g tv offC) (v : Value) :
    Ct Tryz.prog g 119 [.int .u8 144, v] [] (fun r _ H' => r = .tuple #[.int .u64 0, v, .nilIface] ∧ H' = []) := by
  refine CI Tryz.func119 Tryz.ntmps119 rfl fun F g0 hg0 => ?_
  replace hc := hc.mono hg0
  replace hr := hr.mono hg0
  refine SR (La rfl (La rfl (La rfl (nSR (La rfl (nS (T_seq (SR (Lp (p_loadF rfl Tryz.isAgg308 hc) ?_)))))))))
  refine Lp (p_len hs rfl rfl Tryz.runUnderlying308) (Lm rfl (nS (T_block (T_loop (ι := Nat) (fun j _ => j ≤ 4) (fun j => [(0, .int .u8 144), (1, v), (7, .int .u64 0), (10, tv), (11, .int .i64 4), (12, .int .i64 j)]) (fun _ => [F]) (fun j => 4 - j) (0) (fun g' hl => by simp) (by repeat (first | exact SubL.nil | refine SubL.cons rfl ?_)) (K0 .nil) ?_))))
  rintro j gA hlgA hj
  replace hr := hr.mono hlgA
  refine SR (Lp (p_lss rfl rfl) (nS (T_seq (T_condD rfl (fun hc2 => ?_) (fun hc2 => ?_)))))
  ·
    replace hc2 : j < 4 := by omega
    refine kS (T_seq (T_block (SR (Lp (p_ix (hs) (j := j) rfl rfl Tryz.runUnderlying308 Tryz.sizeOf310 (by omega) (by omega) rfl) (Lp (p_ldRdN (vs := [.int .u8 (offM j), .int .u64 (offS j)]) hr rfl Tryz.isAgg310 Tryz.sizeOf310 rfl (by decide) (off_at j (by assumption))) (Lk (e_alloc Tryz.zeroValue310 rfl) ?_))))))
    rintro _ _ _ - ⟨z, rfl, rfl⟩
    refine TL_k0 (e_storeW rfl rfl Tryz.sizeOf310 rfl rfl (by intro u hu; simp [Value.cells] at hu; rcases hu with rfl | rfl <;> rfl) (K0 .nil) rfl) ?_
    rintro _ _ _ - ⟨rfl, rfl⟩
    refine nSR (Lm rfl (Lf rfl Tryz.runUnderlying310 rfl Tryz.sizeOf5 rfl (Lp (p_load rfl Tryz.isAgg5 (.head _) rfl) (Lp (p_and rfl rfl (off_and j (by assumption))) (Lp (p_neq rfl rfl) (nS (T_condF rfl (T_skip (E_block ?_)))))))))
    refine E_seq (T_region ?_)
    refine Lp (p_add rfl rfl ((show IntKind.i64.wrap ((j : Int) + 1) = ((j + 1 : Nat) : Int) from by rw [wr64 (by omega) (by omega)]; omega))) ?_
    refine Lm rfl (TL_nil (EL (.refl _) (j + 1) ?hm ?hI ((K1 .nil))))
    case hm => exact (by omega)
    case hI => exact (fun g' hl => by omega)
  ·
    skip
    refine T_exit (E_seq_exit (E_loop_exit (E_block_hit (E_seq (SR (Lm rfl (Lm rfl (La rfl (La rfl ?_)))))))))
    refine La rfl (nr (E_ret3 [] rfl hlgA rfl rfl rfl (K0 .nil) (fun g' hl => ?_)))
    exact ⟨rfl, rfl⟩
theorem ct_decSize (g : GW) (tv : Value) (hc : Cell g 16 0 tv) (hs : Shp tv 3) (hr : Rd g tv sizC) (v : Value) (l : List UInt8) (hv : Bytes g v (4 :: l)) :
    Ct Tryz.prog g 120 [.int .u8 144, v] [] (fun r _ H' => r = .tuple #[.int .u64 4, sl v 1 (l.length + 1) 1, .nilIface] ∧ H' = []) := by
  refine CI Tryz.func120 Tryz.ntmps120 rfl fun F g0 hg0 => ?_
  replace hc := hc.mono hg0
  replace hr := hr.mono hg0
  replace hv := hv.mono hg0
  refine SR (La rfl (La rfl (La rfl (nSR (La rfl (nS (T_seq (SR (Lp (p_loadF rfl Tryz.isAgg308 hc) ?_)))))))))
  refine Lp (p_len hs rfl rfl Tryz.runUnderlying308) (Lm rfl (nS (T_block (T_loop (ι := Nat × Nat × Value) (fun y _ => y.1 ≤ 3 ∧ ((y.1 = 0 ∧ y.2.1 = 0 ∧ y.2.2 = v) ∨ (1 ≤ y.1 ∧ y.2.1 = 4 ∧ y.2.2 = sl v 1 (l.length + 1) 1))) (fun y => [(0, .int .u8 144), (1, y.2.2), (7, .int .u64 y.2.1), (10, tv), (11, .int .i64 3), (12, .int .i64 y.1)]) (fun _ => [F]) (fun y => 3 - y.1) ((0, 0, v)) (fun g' hl => ⟨Nat.zero_le _, .inl ⟨rfl, rfl, rfl⟩⟩) (by repeat (first | exact SubL.nil | refine SubL.cons rfl ?_)) (K0 .nil) ?_))))
  rintro ⟨j, n, w⟩ gA hlgA ⟨hj, hI⟩
  try dsimp only
  try dsimp only at hj hI
  replace hr := hr.mono hlgA
  replace hv := hv.mono hlgA
  refine SR (Lp (p_lss rfl rfl) (nS (T_seq (T_condD rfl (fun hc2 => ?_) (fun hc2 => ?_)))))
  ·
    replace hc2 : j < 3 := by omega
    refine kS (T_seq (T_block (SR (Lp (p_ix (hs) (j := j) rfl rfl Tryz.runUnderlying308 Tryz.sizeOf310 (by omega) (by omega) rfl) (Lp (p_ldRdN (vs := [.int .u8 (sizM j), .int .u64 (sizS j)]) hr rfl Tryz.isAgg310 Tryz.sizeOf310 rfl (by decide) (siz_at j (by assumption))) (Lk (e_alloc Tryz.zeroValue310 rfl) ?_))))))
    rintro _ _ _ - ⟨z, rfl, rfl⟩
    refine TL_k0 (e_storeW rfl rfl Tryz.sizeOf310 rfl rfl (by intro u hu; simp [Value.cells] at hu; rcases hu with rfl | rfl <;> rfl) (K0 .nil) rfl) ?_
    rintro _ _ _ - ⟨rfl, rfl⟩
    refine nSR (Lm rfl (Lf rfl Tryz.runUnderlying310 rfl Tryz.sizeOf5 rfl (Lp (p_load rfl Tryz.isAgg5 (.head _) rfl) (Lp (p_and rfl rfl (siz_and j (by assumption))) (Lp (p_neq rfl rfl) (nS (T_condD rfl (fun hc5 => ?_) (fun hc5 => ?_))))))))
    ·
      obtain rfl : j = 0 := by { by_cases h : j = 0; (exact h); (rw [if_neg h] at hc5; exact absurd rfl hc5) }
      obtain ⟨rfl, hw⟩ : n = 0 ∧ w = v := hI.elim (fun h => h.2) (fun h => absurd h.1 (by omega))
      subst w
      refine T_seq (SR (Lm rfl (Lp (p_len hv.1 rfl rfl Tryz.runUnderlying25) (Lp (p_eql rfl rfl) (nS (T_condD rfl (fun hc6 => ?_) (fun hc6 => ?_)))))))
      ·
        exact absurd hc6 (by simp; omega)
      ·
        skip
        refine kS (T_seq (T_regionD 10 Tryz.mixed rfl Part.all (Dp 0 rfl (p_move rfl) (Dp 1 rfl (p_move rfl) (Dp 2 rfl (p_ix (hv.1) (j := 0) rfl rfl Tryz.runUnderlying25 Tryz.sizeOf5 rfl (by omega) rfl) (Dp 3 rfl (p_ldB (k := 0) hv rfl Tryz.isAgg5 rfl) (Dp 4 rfl (p_conv rfl Tryz.runUnderlying5 Tryz.runUnderlying103 rfl) (Dp 5 rfl (p_fieldAddr rfl Tryz.runUnderlying310 rfl Tryz.sizeOf103 rfl) (Dp 6 rfl (p_load rfl Tryz.isAgg103 (.head _) rfl) ?_)))))))))
        refine Dp 7 rfl (p_shl rfl rfl (by decide) rfl (show IntKind.u64.wrap (((4 : UInt8).toNat : Int) * 2 ^ 0) = 4 from by decide)) (Dp 8 rfl (p_or rfl rfl (show bitsOf .or .u64 0 4 = 4 from by decide)) (Dp 9 rfl (p_assign rfl) (DD (E_seq (T_region (Lm rfl (Lp (p_slL (a := 1) hv.1 rfl Tryz.runUnderlying25 Tryz.sizeOf5 rfl rfl (by simp) rfl) (La rfl (TL_nil ?_)))))))))
        refine E_block (E_seq (T_region (Lp (p_add rfl rfl ((by exact (rfl : IntKind.i64.wrap (((0 : Nat) : Int) + 1) = ((1 : Nat) : Int))))) (Lm rfl (TL_nil (EL (.refl _) ((1, 4, sl v 1 (l.length + 1) 1)) ?hm ?hI ((K1 .nil))))))))
        case hm => exact (by dsimp only; omega)
        case hI => exact (fun g' hl => ⟨by dsimp only; omega, .inr ⟨Nat.le_refl _, rfl, rfl⟩⟩)
    ·
      have hj0 : j ≠ 0 := by { rintro rfl; rw [if_pos rfl] at hc5; exact absurd hc5 (by decide) }
      refine T_skip (E_block (E_seq (T_region ?_)))
      refine Lp (p_add rfl rfl ((by (show IntKind.i64.wrap ((j : Int) + 1) = ((j + 1 : Nat) : Int); rw [wr64 (by omega) (by omega)]; omega)))) ?_
      refine Lm rfl (TL_nil (EL (.refl _) ((j + 1, n, w)) ?hm ?hI ((K1 .nil))))
      case hm => exact (by dsimp only; omega)
      case hI => exact (fun g' hl => ⟨by dsimp only; omega, .inr (by rcases hI with h | h; (exact absurd h.1 hj0); (exact ⟨by dsimp only; omega, h.2.1, h.2.2⟩))⟩)
  ·
    obtain ⟨rfl, rfl⟩ : n = 4 ∧ w = sl v 1 (l.length + 1) 1 := hI.elim (fun h => absurd h.1 (by omega)) (fun h => h.2)
    refine T_exit (E_seq_exit (E_loop_exit (E_block_hit (E_seq (T_seq (SR (Lm rfl (Lp (p_eql rfl rfl) (nS (T_condD rfl (fun hc7 => ?_) (fun hc7 => ?_)))))))))))
    ·
      exact absurd hc7 (by decide)
    ·
      skip
      refine kS (SR (Lm rfl (Lm rfl (La rfl (La rfl (La rfl (nr (E_ret3 [] rfl hlgA rfl rfl rfl (K0 .nil) (fun g' hl => ?_)))))))))
      exact ⟨rfl, rfl⟩
theorem ct_bufGrow (g : GW) (b n : Nat) (h0 : 0 < n) (hn : n ≤ 1000000) : Ct Tryz.prog g 104 [pV b, .int .i64 n] [bufB b nilV] (fun _ _ H' => ∃ S, H' = [S] ∧ BufSt b [] S) := by
  have h : Ct Tryz.prog g 104 [pV b, .int .i64 n] [bufB b nilV] (fun _ _ H' => ∃ r full, full.length ≤ 9223372036854775807 ∧ H' = [bufB b (rsV r 0 full.length), rowA r full]) := by
    refine CI Tryz.func104 Tryz.ntmps104 rfl fun F g0 hg0 => ?_
    refine T_seq (SR (Lm rfl (Lp (p_lss rfl rfl) (nS (T_condD rfl (fun hc1 => ?_) (fun hc1 => ?_))))))
    ·
      exact absurd hc1 (by omega)
    ·
      skip
      refine kS (SR (Lm rfl (Lm rfl (Lk (e_call rfl (ct_growN g0 b n h0 (by omega)) (K0 .nil)) ?_))))
      rintro _ _ _ - ⟨_, rfl, ⟨r2, full2, rfl, h1, h2, rfl⟩⟩
      refine La rfl (nR (Lm rfl (Lm rfl (Ln rfl (Lf rfl Tryz.runUnderlying73 rfl Tryz.sizeOf25 rfl (Lp (p_load rfl Tryz.isAgg25 (.head _) rfl) (Lm rfl (Lp (p_slCap (k := 0) rfl Tryz.runUnderlying25 Tryz.sizeOf5 rfl rfl (Nat.zero_le _)) (Ln rfl ?_)))))))))
      refine Lf rfl Tryz.runUnderlying73 rfl Tryz.sizeOf25 rfl (TL_k0 (e_store1 rfl rfl Tryz.sizeOf25 rfl (K0 .nil) rfl rfl rfl) ?_)
      rintro _ _ _ - ⟨rfl, rfl⟩
      refine TL_nil (E_end0 [_, _] rfl (.refl _) (K0 (K0 (K0 .nil))) (fun g' hl => ?_))
      exact ⟨r2, full2, h2, rfl⟩
  refine h.conv fun v g' H' F _ hR hs => ?_
  obtain ⟨r, full, h1, rfl⟩ := hR
  exact ⟨_, ⟨_, rfl, .row r 0 full (Nat.zero_le _) h1⟩, fold2 hs⟩
end Go.Proofs.YtolddodhmeaceaaGreatDoor
namespace Go.Proofs.YtolddodhmeaceaaGreatDoor
open Go.Hl Go.Pk
def base4 : List UInt8 := [98, 97, 115, 101]
def remN (k : Nat) : Nat := [6, 2, 0].getD k 0
structure DEnv (g : GW) (ov sv : Value) : Prop where
  oc : Cell g 15 0 ov
  os : Shp ov 4
  orr : Rd g ov offC
  sc : Cell g 16 0 sv
  ss : Shp sv 3
  srr : Rd g sv sizC
theorem DEnv.mono {g g' : GW} {ov sv : Value} (h : DEnv g ov sv) (hl : Le g g') : DEnv g' ov sv := ⟨h.oc.mono hl, h.os, h.orr.mono hl, h.sc.mono hl, h.ss, h.srr.mono hl⟩
structure PD where
  k : Nat
  S : Atom
  v : Value
  dl : List UInt8
  wr : List UInt8
structure PDI (g : GW) (b : Nat) (y : PD) : Prop where
  d : Bytes g y.v y.dl
  s : BufSt b y.wr y.S
  c : (y.k = 0 ∧ y.dl = [144, 4, 2, 45, 33] ∧ y.wr = []) ∨ (y.k = 1 ∧ y.dl = [2, 45, 33] ∧ y.wr = base4) ∨ (y.k = 2 ∧ y.dl = [] ∧ y.wr = base4 ++ [45, 33])
theorem pd_go {k : Nat} {dl wr : List UInt8} (h : (k = 0 ∧ dl = [144, 4, 2, 45, 33] ∧ wr = []) ∨ (k = 1 ∧ dl = [2, 45, 33] ∧ wr = base4) ∨ (k = 2 ∧ dl = [] ∧ wr = base4 ++ [45, 33])) (hr : (0 : Int) < (remN k : Int)) :
    ∃ c rest, dl = c :: rest ∧ (!decide (bitsOf .and .u8 (c.toNat : Int) 128 = 0)) = decide (k = 0) ∧ ((k = 0 ∧ c = 144 ∧ rest = [4, 2, 45, 33] ∧ wr = []) ∨ (k = 1 ∧ c = 2 ∧ rest = [45, 33] ∧ wr = base4)) := by
  rcases h with ⟨rfl, rfl, rfl⟩ | ⟨rfl, rfl, rfl⟩ | ⟨rfl, rfl, rfl⟩
  · exact ⟨144, _, rfl, by decide, .inl ⟨rfl, rfl, rfl, rfl⟩⟩
  · exact ⟨2, _, rfl, by decide, .inr ⟨rfl, rfl, rfl, rfl⟩⟩
  · exact absurd hr (by decide)
theorem pd_end {k : Nat} {dl wr : List UInt8} (h : (k = 0 ∧ dl = [144, 4, 2, 45, 33] ∧ wr = []) ∨ (k = 1 ∧ dl = [2, 45, 33] ∧ wr = base4) ∨ (k = 2 ∧ dl = [] ∧ wr = base4 ++ [45, 33])) (hr : ¬ (0 : Int) < (remN k : Int)) : dl = [] ∧ wr = base4 ++ [45, 33] := by
  rcases h with ⟨rfl, rfl, rfl⟩ | ⟨rfl, rfl, rfl⟩ | ⟨rfl, rfl, rfl⟩
  · exact absurd hr (by decide)
  · exact absurd hr (by decide)
  · exact ⟨rfl, rfl⟩
theorem ct_patchDelta (g : GW) (ov zv : Value) (hD : DEnv g ov zv) (b : Nat) (sv dv : Value) (hs : Bytes g sv base4) (hd : Bytes g dv [4, 6, 144, 4, 2, 45, 33]) :
    Ct Tryz.prog g 70 [pV b, sv, dv] [bufB b nilV] (fun r _ H' => r = .nilIface ∧ ∃ S, H' = [S] ∧ BufSt b (base4 ++ [45, 33]) S) := by
  refine CI Tryz.func70 Tryz.ntmps70 rfl fun F g0 hg0 => ?_
  replace hD := hD.mono hg0
  replace hs := hs.mono hg0
  replace hd := hd.mono hg0
  have hd1 := hd.slFrom (a := 1) (n := 7) rfl (by decide)
  have hd2 := hd1.slFrom (a := 1) (n := 6) rfl (by decide)
  refine SR (La rfl (nSR (Lm rfl (Lk (e_call rfl (ct_leb g0 dv 4 [6, 144, 4, 2, 45, 33] hd (by decide) (by decide)) .nil) ?_))))
  rintro _ _ _ - ⟨_, rfl, ⟨rfl, rfl⟩⟩
  refine Lm rfl (Lx rfl rfl (Lx rfl rfl (Lx rfl rfl (La rfl (La rfl (La rfl (nS (T_seq (SR ?_)))))))))
  refine Lm rfl (Lp (p_neqNN rfl Tryz.underlying64) (nS (T_condF rfl (kS (T_seq (SR (Lm rfl (Lm rfl (Lp (p_len hs.1 rfl rfl Tryz.runUnderlying25) ?_)))))))))
  refine Lp (p_conv rfl Tryz.runUnderlying3 Tryz.runUnderlying103 ((show IntKind.u64.wrap ((base4.length : Nat) : Int) = ((4 : Nat) : Int) from by decide))) (Lp (p_neq rfl rfl) (nS (T_condD rfl (fun hc2 => ?_) (fun hc2 => ?_))))
  ·
    exact absurd (by decide) hc2
  ·
    skip
    refine kS (SR (Lm rfl (Lk (e_call rfl (ct_leb g0 (sl dv 1 7 1) 6 [144, 4, 2, 45, 33] hd1 (by decide) (by decide)) .nil) ?_)))
    rintro _ _ _ - ⟨_, rfl, ⟨rfl, rfl⟩⟩
    refine Lm rfl (Lx rfl rfl (Lx rfl rfl (Lx rfl rfl (La rfl (La rfl (La rfl (nS (T_seq (SR ?_)))))))))
    refine Lm rfl (Lp (p_neqNN rfl Tryz.underlying64) (nS (T_condF rfl (kS (SR (Lm rfl (La rfl (nSR (Lm rfl ?_)))))))))
    refine Lp (p_min rfl rfl (show (if (65536 : Int) < ((6 : UInt8).toNat : Int) then (65536 : Int) else ((6 : UInt8).toNat : Int)) = ((6 : Nat) : Int) from by decide)) (La rfl (nSR (Lm rfl (Lm rfl (Lp (p_conv rfl Tryz.runUnderlying103 Tryz.runUnderlying3 ((show IntKind.i64.wrap ((6 : Nat) : Int) = ((6 : Nat) : Int) from by decide))) (Lk (e_call rfl (ct_bufGrow g0 b 6 (by decide) (by decide)) (K0 .nil)) ?_))))))
    rintro _ _ _ - ⟨_, rfl, ⟨S, rfl, hS⟩⟩
    refine nS (T_seq (T_block (T_loop (ι := PD) (fun y g => PDI g b y) (fun y => [(0, pV b), (1, sv), (2, y.v), (7, .int .u64 4), (10, .int .u64 (remN y.k : Int))]) (fun y => [y.S, F]) (fun y => remN y.k) (⟨0, S, _, [144, 4, 2, 45, 33], []⟩) (fun g' hl => ⟨hd2.mono hl, hS, .inl ⟨rfl, rfl, rfl⟩⟩) (by repeat (first | exact SubL.nil | refine SubL.cons rfl ?_)) (K0 (K0 .nil)) ?_)))
    rintro ⟨k, S, v, dl, wr⟩ gL hlgL ⟨hvd, hvs, hvc⟩
    try dsimp only
    try dsimp only at hvd hvs hvc
    replace hD := hD.mono hlgL
    replace hs := hs.mono hlgL
    refine T_seq (SR (Lm rfl (Lp (p_gtr rfl rfl) (nS (T_condD rfl (fun hc6 => ?_) (fun hc6 => ?_))))))
    ·
      obtain ⟨c, rest, rfl, hdec, hcc⟩ := pd_go hvc hc6
      have hr1 := hvd.slFrom (a := 1) rfl (by simp)
      refine kS (T_block (T_seq (SR (Lm rfl (Lp (p_len hvd.1 rfl rfl Tryz.runUnderlying25) (Lp (p_eql rfl rfl) (nS (T_condD rfl (fun hc7 => ?_) (fun hc7 => ?_)))))))))
      ·
        exact absurd hc7 (by simp; omega)
      ·
        skip
        refine kS (SR (Lm rfl (Lp (p_ix (hvd.1) (j := 0) rfl rfl Tryz.runUnderlying25 Tryz.sizeOf5 rfl (by simp) rfl) (Lp (p_ldB (k := 0) hvd rfl Tryz.isAgg5 rfl) (La rfl (nSR (Lm rfl (Lp (p_slL (a := 1) hvd.1 rfl Tryz.runUnderlying25 Tryz.sizeOf5 rfl rfl (by simp) rfl) (La rfl ?_)))))))))
        refine nS (T_block (SR (Lm rfl (Lk (e_call rfl (ct_isSrc gL (c.toNat : Int) (decide (k = 0)) hdec) .nil) ?_))))
        rintro _ _ _ - ⟨_, rfl, ⟨rfl, rfl⟩⟩
        refine La rfl (nS (T_condD rfl (fun hc9 => ?_) (fun hc9 => ?_)))
        ·
          obtain ⟨_, rfl, rfl, rfl⟩ := hcc.resolve_right (fun h => absurd h.1 (by omega))
          subst hc9
          refine SR (La rfl (La rfl (nSR (La rfl (nSR (Lm rfl (Lm rfl (Lk (e_call rfl (ct_decOff gL ov hD.oc hD.os hD.orr _) .nil) ?_))))))))
          rintro _ _ _ - ⟨_, rfl, ⟨rfl, rfl⟩⟩
          refine Lm rfl (Lx rfl rfl (Lx rfl rfl (Lx rfl rfl (La rfl (La rfl (La rfl (nS (T_seq (SR ?_)))))))))
          refine Lm rfl (Lp (p_neqNN rfl Tryz.underlying64) (nS (T_condF rfl (kS (SR (Lm rfl (Lm rfl (Lk (e_call rfl (ct_decSize gL zv hD.sc hD.ss hD.srr _ [2, 45, 33] hr1) .nil) ?_))))))))
          rintro _ _ _ - ⟨_, rfl, ⟨rfl, rfl⟩⟩
          refine Lm rfl (Lx rfl rfl (Lx rfl rfl (Lx rfl rfl (La rfl (La rfl (La rfl (nS (T_seq (SR ?_)))))))))
          refine Lm rfl (Lp (p_neqNN rfl Tryz.underlying64) (nS (T_condF rfl (kS (T_seq (SR (Lm rfl (Lm rfl (Lk (e_call rfl (ct_invSize gL 4 6 (by decide)) .nil) ?_)))))))))
          rintro _ _ _ - ⟨_, rfl, ⟨rfl, rfl⟩⟩
          refine Lm rfl (Lg (p_move rfl) (Lg (p_move rfl) (Lg (p_move rfl) (TL_kg rfl rfl rfl rfl (e_call rfl (ct_invOff gL 0 4 4 (by decide) (by decide)) .nil) ?_))))
          rintro _ _ _ - ⟨_, rfl, ⟨rfl, rfl⟩⟩
          refine Lp (p_pickF rfl rfl) (nS (T_condF rfl (kS (SR (Lm rfl (Lm rfl (Lm rfl (Lm rfl (Lm rfl ?_)))))))))
          refine Lp (p_add rfl rfl ((show IntKind.u64.wrap (0 + 4) = ((4 : Nat) : Int) from by decide))) (Lp (p_slLH (a := 0) (b := 4) hs.1 rfl Tryz.runUnderlying25 Tryz.sizeOf5 rfl rfl rfl rfl (by decide) (by decide) rfl) (Lk (e_call rfl (ct_bufWrite gL b [] S hvs _ (base4.take 4) (hs.slTo (b := 4) (by decide)) (by decide)) (K0 .nil)) ?_))
          rintro _ _ _ - ⟨_, rfl, ⟨rfl, S2, rfl, hS2⟩⟩
          refine nR (Lm rfl (Lm rfl (Lp (p_sub rfl rfl ((show IntKind.u64.wrap ((remN 0 : Int) - 4) = (remN 1 : Int) from by decide))) (La rfl (TL_nil (E_block (E_block (EL (.refl _) (⟨1, S2, _, [2, 45, 33], base4⟩) ?hm ?hI ((K0 (K0 .nil)))))))))))
          case hm => exact (show remN 1 < remN 0 from by decide)
          case hI => exact (fun g' hl => ⟨(hr1.slFrom (a := 1) (n := 4) rfl (by decide)).mono hl, hS2, .inr (.inl ⟨rfl, rfl, rfl⟩)⟩)
        ·
          obtain ⟨rfl, rfl, rfl, rfl⟩ := hcc.resolve_left (fun h => hc9 h.1)
          refine SR (Lm rfl (Lk (e_call rfl (ct_isDelta2 gL) .nil) ?_))
          rintro _ _ _ - ⟨_, rfl, ⟨rfl, rfl⟩⟩
          refine La rfl (nS (T_condT rfl (SR (Lm rfl (Lp (p_conv rfl Tryz.runUnderlying5 Tryz.runUnderlying103 ((show IntKind.u64.wrap ((2 : UInt8).toNat : Int) = ((2 : Nat) : Int) from by decide))) (La rfl (nS (T_seq (SR ?_)))))))))
          refine Lm rfl (Lm rfl (Lk (e_call rfl (ct_invSize gL 2 2 (by decide)) .nil) ?_))
          rintro _ _ _ - ⟨_, rfl, ⟨rfl, rfl⟩⟩
          refine nS (T_condF rfl (kS (T_seq (SR (Lm rfl (Lp (p_len hr1.1 rfl rfl Tryz.runUnderlying25) (Lp (p_conv rfl Tryz.runUnderlying3 Tryz.runUnderlying103 ((show IntKind.u64.wrap (([45, 33] : List UInt8).length : Int) = ((2 : Nat) : Int) from by decide))) (Lm rfl (Lp (p_lss rfl rfl) ?_)))))))))
          refine nS (T_condF rfl (kS (SR (Lm rfl (Lm rfl (Lm rfl (Lp (p_slLH (a := 0) (b := 2) hr1.1 rfl Tryz.runUnderlying25 Tryz.sizeOf5 rfl rfl rfl rfl (by decide) (by decide) rfl) (Lk (e_call rfl (ct_bufWrite gL b base4 S hvs _ (([45, 33] : List UInt8).take 2) (hr1.slTo (b := 2) (by decide)) (by decide)) (K0 .nil)) ?_))))))))
          rintro _ _ _ - ⟨_, rfl, ⟨rfl, S2, rfl, hS2⟩⟩
          refine nSR (Lm rfl (Lm rfl (Lp (p_sub rfl rfl ((show IntKind.u64.wrap ((remN 1 : Int) - ((2 : Nat) : Int)) = (remN 2 : Int) from by decide))) (La rfl (nR (Lm rfl (Lm rfl (Lp (p_slL (a := 2) hr1.1 rfl Tryz.runUnderlying25 Tryz.sizeOf5 rfl rfl (by decide) rfl) (La rfl ?_)))))))))
          refine TL_nil (E_block (E_block (EL (.refl _) (⟨2, S2, _, [], base4 ++ [45, 33]⟩) ?hm ?hI ((K0 (K0 .nil))))))
          case hm => exact (show remN 2 < remN 1 from by decide)
          case hI => exact (fun g' hl => ⟨(hr1.slFrom (a := 2) (n := 2) rfl (by decide)).mono hl, hS2, .inr (.inr ⟨rfl, rfl, rfl⟩)⟩)
    ·
      obtain ⟨rfl, rfl⟩ := pd_end hvc hc6
      refine T_exit (E_seq_exit (E_loop_exit (E_block_hit (E_seq (T_seq (SR (Lm rfl (Lp (p_len hvd.1 rfl rfl Tryz.runUnderlying25) (Lp (p_neq rfl rfl) ?_)))))))))
      refine nS (T_condD rfl (fun hc18 => ?_) (fun hc18 => ?_))
      ·
        exact absurd rfl hc18
      ·
        skip
        refine kS (SR (La rfl (nr (E_ret1 [_] rfl hlgL rfl (K0 (K0 .nil)) (fun g' hl => ?_)))))
        exact ⟨rfl, S, rfl, hvs⟩
theorem bufSt_row {b : Nat} {xs : List UInt8} {S : Atom} (h : BufSt b xs S) (hx : xs ≠ []) : ∃ r m full, m ≤ full.length ∧ full.take m = xs ∧ S = Hl.many [bufB b (rsV r m full.length), rowA r full] := by
  cases h with
  | nil => exact absurd rfl hx
  | row r m full hm hl => exact ⟨r, m, full, hm, rfl, rfl⟩
theorem ct_PatchRaw (g : GW) (ov zv : Value) (hD : DEnv g ov zv) (sv dv : Value) (hs : Bytes g sv base4) (hd : Bytes g dv [4, 6, 144, 4, 2, 45, 33]) :
    Ct Tryz.prog g 38 [sv, dv] [] (fun v _ H' => ∃ r m full, m ≤ full.length ∧ full.take m = base4 ++ [45, 33] ∧ v = .tuple #[rsV r m full.length, .nilIface] ∧ H' = [rowA r full]) := by
  refine CI Tryz.func38 Tryz.ntmps38 rfl fun F g0 hg0 => ?_
  replace hD := hD.mono hg0
  replace hs := hs.mono hg0
  replace hd := hd.mono hg0
  refine SR (La rfl (La rfl (nS (T_seq (SR (Lm rfl (Lp (p_len hs.1 rfl rfl Tryz.runUnderlying25) (Lp (p_eql rfl rfl) (Lm rfl ?_)))))))))
  refine Lg (p_move rfl) (Lg (p_len hd.1 rfl rfl Tryz.runUnderlying25) (Lg (p_lss rfl rfl) (Lp (p_pickF rfl rfl) (nS (T_condF rfl (kS (SR (Lp (p_build (cells := bufC nilV) rfl (by kernel_rfl)) (Lk (e_box rfl rfl) ?_)))))))))
  rintro _ _ _ - ⟨b, rfl, rfl⟩
  refine La rfl (nS (T_seq (SR (Lm rfl (Lm rfl (Lm rfl (Lk (e_call rfl (ct_patchDelta g0 ov zv hD b sv dv hs hd) (K0 .nil)) ?_)))))))
  rintro _ _ _ - ⟨_, rfl, ⟨rfl, S, rfl, hS⟩⟩
  refine La rfl (nSR (Lm rfl (Lp (p_neqNN rfl Tryz.underlying64) (nS (T_condF rfl (kS (SR ?_)))))))
  obtain ⟨r, m, full, hm, hfm, rfl⟩ := bufSt_row hS (by simp [base4])
  refine TL_sat (fun g' hs => Sat.unfoldM hs (K0 .nil)) (Lm rfl (Lk (e_call rfl (ct_bytesS g0 b r m full hm) (K0 (K0 .nil))) ?_))
  rintro _ _ _ - ⟨_, rfl, ⟨rfl, rfl⟩⟩
  refine La rfl (La rfl (nr (E_ret2 [_] rfl (.refl _) rfl rfl (K1 (K1 .nil)) (fun g' hl => ?_))))
  exact ⟨r, m, full, hm, hfm, rfl, rfl⟩
theorem ct_PatchDelta (g : GW) (ov zv : Value) (hD : DEnv g ov zv) (sv dv : Value) (hs : Bytes g sv base4) (hd : Bytes g dv [4, 6, 144, 4, 2, 45, 33]) :
    Ct Tryz.prog g 38 [sv, dv] [] (fun v g' H' => ∃ rv, v = .tuple #[rv, .nilIface] ∧ Bytes g' rv (base4 ++ [45, 33]) ∧ H' = []) :=
  (ct_PatchRaw g ov zv hD sv dv hs hd).freeze fun v g' H' hR => by
    obtain ⟨r, m, full, hm, hfm, rfl, rfl⟩ := hR
    refine ⟨_, [], rfl, fun I h1 h2 h3 => ⟨_, rfl, ⟨?_, .inr rfl, fun j u hj => ?_⟩, rfl⟩⟩
    · rw [← hfm, List.length_take, Nat.min_eq_left hm]; exact .some _ _ _ _ hm
    · rw [Nat.zero_add]
      have hst : Still ⟨g'.w, I⟩ (rowA r full) := ⟨h3, h2⟩
      refine hst.cell ?_
      rw [← hfm, bvs_take] at hj
      rw [List.getElem?_toArray]
      have hjl : j < m := by have := (List.getElem?_eq_some_iff.1 hj).1; rw [List.length_take] at this; omega
      rwa [List.getElem?_take_of_lt hjl] at hj
theorem ct_Patch (g : GW) (ov zv : Value) (hD : DEnv g ov zv) (sv dv : Value) (hs : Bytes g sv base4) (hd : Bytes g dv [4, 6, 144, 4, 2, 45, 33]) :
    Ct Tryz.prog g 13 [sv, dv] [] (fun v g' H' => ∃ rv, v = .tuple #[rv, .bool true] ∧ Bytes g' rv (base4 ++ [45, 33]) ∧ H' = []) := by
  refine CI Tryz.func13 Tryz.ntmps13 rfl fun F g0 hg0 => ?_
  replace hD := hD.mono hg0
  replace hs := hs.mono hg0
  replace hd := hd.mono hg0
  refine SR (La rfl (La rfl (nSR (Lk (e_buildSlice rfl rfl rfl Tryz.runUnderlying25 Tryz.sizeOf5 Tryz.zeroValue5 rfl (by simp [Value.cells])) ?_))))
  rintro _ _ _ - ⟨q1, rfl, rfl⟩
  refine Lm rfl (Lk (e_append (by_ := 1) rfl rfl rfl rfl Tryz.runUnderlying25 Tryz.runUnderlying25 (.inr ⟨_, rfl⟩) Tryz.sizeOf5 Tryz.zeroValue5 rfl Tryz.typeInfo5 rfl (by decide) (by decide) (src_bytes hs) (by decide) (K0 .nil) (one_bvs base4)) ?_)
  rintro v1 _ _ - ⟨n_v1, hs_v1, hn_v1, rfl⟩
  refine Lk (e_buildSlice rfl rfl rfl Tryz.runUnderlying25 Tryz.sizeOf5 Tryz.zeroValue5 rfl (by simp [Value.cells])) ?_
  rintro _ _ _ - ⟨q2, rfl, rfl⟩
  refine Lm rfl (Lk (e_append (by_ := 1) rfl rfl rfl rfl Tryz.runUnderlying25 Tryz.runUnderlying25 (.inr ⟨_, rfl⟩) Tryz.sizeOf5 Tryz.zeroValue5 rfl Tryz.typeInfo5 rfl (by decide) (by decide) (src_bytes hd) (by decide) (K0 .nil) (one_bvs [4, 6, 144, 4, 2, 45, 33])) ?_)
  rintro v2 _ _ - ⟨n_v2, hs_v2, hn_v2, rfl⟩
  refine TL_freeze (K1 .nil) (fun gF hlgF hrd1 => ?_)
  refine TL_freeze (K0 .nil) (fun gH hlgH hrd2 => ?_)
  obtain rfl : n_v1 = base4.length := by { have := hn_v1; simp [flatC, bvs_length, base4] at this; exact this.symm }
  obtain rfl : n_v2 = 7 := by { have := hn_v2; simp [flatC, bvs_length] at this; exact this.symm }
  refine LE (e_call rfl (ct_PatchDelta gH ov zv ((hD.mono hlgF).mono hlgH) v1 v2 ⟨hs_v1, hrd1.mono hlgH⟩ ⟨hs_v2, hrd2⟩) .nil) ?_
  rintro _ gP _ hlgP ⟨_, rfl, ⟨rv, rfl, hrv, rfl⟩⟩
  refine Lm rfl (Lx rfl rfl (Lx rfl rfl (La rfl (La rfl (nS (T_seq (T_regionD 5 Tryz.mixed rfl Part.all (Dp 0 rfl (p_move rfl) (Dp 1 rfl (p_move rfl) ?_)))))))))
  refine Dp 2 rfl (p_eqlNN rfl Tryz.underlying64) (Dp 3 rfl (p_assign rfl) (Dp 4 rfl (p_assign rfl) (DD (E_seq (T_ret (E_ret2 [] rfl ((hlgF.trans hlgH).trans hlgP) rfl rfl (K0 .nil) (fun g' hl => ?_)))))))
  exact ⟨rv, rfl, hrv.mono hl, rfl⟩
theorem ct_deltaWorks (g : GW) (ov zv : Value) (hD : DEnv g ov zv) : Ct Tryz.prog g 6 [] [] (fun v _ H' => v = .bool true ∧ H' = []) := by
  refine CI Tryz.func6 Tryz.ntmps6 rfl fun F g0 hg0 => ?_
  replace hD := hD.mono hg0
  refine SR (La rfl (nSR (Lk (e_buildSliceB rfl rfl rfl Tryz.runUnderlying25 Tryz.sizeOf5 Tryz.zeroValue5 rfl (by simp [Value.cells])) ?_)))
  rintro _ _ _ - ⟨q1, rfl, rfl⟩
  refine Lk (e_mark rfl Tryz.runUnderlying25 Tryz.runUnderlying5 (K0 .nil) rfl) ?_
  rintro _ _ _ - ⟨rfl, rfl⟩
  refine Lk (e_buildSlice rfl rfl rfl Tryz.runUnderlying25 Tryz.sizeOf5 Tryz.zeroValue5 rfl (by simp [Value.cells])) ?_
  rintro _ _ _ - ⟨q2, rfl, rfl⟩
  refine TL_freeze (K1 .nil) (fun gF hlgF hrd1 => ?_)
  refine TL_freeze (K0 .nil) (fun gH hlgH hrd2 => ?_)
  have hrd1' : Rd gH _ (bvs base4) := hrd1.mono hlgH
  have hrd2' : Rd gH _ (bvs [4, 6, 144, 4, 2, 45, 33]) := hrd2
  refine LE (e_call rfl (ct_Patch gH ov zv ((hD.mono hlgF).mono hlgH) _ _ ⟨.some _ _ _ _ (Nat.le_refl _), hrd1'⟩ ⟨.some _ _ _ _ (Nat.le_refl _), hrd2'⟩) .nil) ?_
  rintro _ gP _ hlgP ⟨_, rfl, ⟨rv, rfl, hrv, rfl⟩⟩
  refine Lm rfl (Lx rfl rfl (Lx rfl rfl (La rfl (La rfl (nSR (Lm rfl (Lm rfl (Lg (p_move rfl) (Lg (p_bytesStrB hrv rfl Tryz.runUnderlying25 Tryz.runUnderlying9 Tryz.runUnderlying5) ?_)))))))))
  refine Lg (p_str_eql rfl rfl) (Lp (p_pickT rfl rfl) (La rfl (nr (E_ret1 [] rfl ((hlgF.trans hlgH).trans hlgP) rfl (K0 .nil) (fun g' hl => ?_)))))
  exact ⟨by congr 1, rfl⟩
end Go.Proofs.YtolddodhmeaceaaGreatDoor
namespace Go.Proofs.YtolddodhmeaceaaGreatDoor
open Go.Hl Go.Pk
theorem cut_num (n : Int) (B : Nat) (h0 : 0 < B) : -(B : Int) < n.tmod B ∧ n.tmod B < B ∧ ∃ k : Nat, k < B ∧ (n.tmod B + B).tmod B = (k : Int) := by
  have hB : (0 : Int) < B := by omega
  have h1 := Int.lt_tmod_of_pos n hB
  have h2 := Int.tmod_lt_of_pos n hB
  refine ⟨h1, h2, ((n.tmod B + B).tmod B).toNat, ?_, ?_⟩
  · have h3 := Int.tmod_lt_of_pos (n.tmod B + B) hB
    omega
  · have h4 : 0 ≤ (n.tmod B + B).tmod B := Int.tmod_nonneg _ (by omega)
    omega
theorem body_pos (l : List En) : 0 < (bodyL l).length := by
  unfold bodyL; rw [List.length_append]; simp [head12]; omega
theorem ct_FnPackCut (g : GW) (eE uE : Nat × Nat) (hE : Env g eE uE) (hT : Cells g 25 0 pow10V) (ov zv : Value) (hD : DEnv g ov zv) (v : Value) (l : List XV) (hv : Ents g v l) (n : Int)
    (hlen : l.length ≤ 9223372036854775807) (hl2 : ∀ x ∈ l, x.steps.length ≤ 9223372036854775807) :
    Ct Tryz.prog g 3 [v, .int .i64 n] [] (fun r _ H' => r = .bool true ∧ H' = []) := by
  refine CI Tryz.func3 Tryz.ntmps3 rfl fun F g0 hg0 => ?_
  replace hE := hE.mono hg0
  replace hT := hT.mono hg0
  replace hD := hD.mono hg0
  replace hv := hv.mono hg0
  refine SR (La rfl (nS (T_seq (SR (Lm rfl (Lk (e_call rfl (ct_zzFits25 g0 v l hv hlen hl2) .nil) ?_))))))
  rintro _ _ _ - ⟨_, rfl, ⟨b, rfl, hb, rfl⟩⟩
  refine Lp (p_not rfl) (nS (T_condNB rfl (fun hc2 => ?_) (fun hc2 => ?_)))
  ·
    skip
    refine SR (La rfl (nr (E_seq_ret (E_ret1 [] rfl (.refl _) rfl (K0 .nil) (fun g' hl => ?_)))))
    exact ⟨rfl, rfl⟩
  ·
    have hfit := hb hc2
    refine kS (T_seq (SR (Lm rfl (Lk (e_call rfl (ct_packGood g0 v l hv hfit hfit.1) .nil) ?_))))
    rintro _ _ _ - ⟨_, rfl, ⟨b2, rfl, hb2, rfl⟩⟩
    refine Lp (p_not rfl) (Lm rfl (TL_splitNB 23 rfl (fun hg4 => ?_) (fun hg4 => ?_)))
    ·
      refine Ls (Ls (Ls (Lp (p_pickT rfl rfl) (nS (T_condT rfl (SR (Lk (e_call rfl (ct_deltaWorks g0 ov zv hD) .nil) ?_)))))))
      rintro _ _ _ - ⟨_, rfl, ⟨rfl, rfl⟩⟩
      refine La rfl (nr (E_seq_ret (E_ret1 [] rfl (.refl _) rfl (K0 .nil) (fun g' hl => ?_))))
      exact ⟨rfl, rfl⟩
    ·
      refine Lg (p_move rfl) (Lg (p_len hv.1.1 rfl rfl Tryz.runUnderlying22) (Lg (p_eql rfl rfl) (Lp (p_pickF rfl rfl) (nS (T_condD rfl (fun hc6 => ?_) (fun hc6 => ?_))))))
      ·
        skip
        refine SR (Lk (e_call rfl (ct_deltaWorks g0 ov zv hD) .nil) ?_)
        rintro _ _ _ - ⟨_, rfl, ⟨rfl, rfl⟩⟩
        refine La rfl (nr (E_seq_ret (E_ret1 [] rfl (.refl _) rfl (K0 .nil) (fun g' hl => ?_))))
        exact ⟨rfl, rfl⟩
      ·
        obtain ⟨⟨acc, hob⟩, h40⟩ := hb2 (by assumption)
        refine kS (SR (Lm rfl (Lk (e_call rfl (ct_Pack g0 v l acc hv hfit hob h40) .nil) ?_)))
        rintro _ _ _ - ⟨_, rfl, ⟨pv, pl, es, tail, rfl, hel, hOk, htl, hbl, hsp, rfl⟩⟩
        refine Lm rfl (Lx rfl rfl (Lx rfl rfl (La rfl (La rfl (nSR (Lm rfl (Lp (p_len hsp rfl rfl Tryz.runUnderlying25) ?_)))))))
        refine Lp (p_sub rfl rfl ((show IntKind.i64.wrap (((bodyL es ++ tail).length : Int) - 20) = ((bodyL es).length : Int) from by rw [List.length_append, htl, wr64 (by omega) (by omega)]; omega))) ?_
        refine La rfl (nSR ?_)
        have hB := body_pos es
        obtain ⟨hn1, hn2, kn, hkn, hke⟩ := cut_num n (bodyL es).length hB
        refine Lm rfl (Lm rfl (Lm rfl (Lp (p_rem rfl rfl (by omega) rfl) (Lm rfl (Lp (p_add rfl rfl ((wr64 (by omega) (by omega)))) (Lm rfl (Lp (p_rem rfl rfl (by omega) hke) ?_)))))))
        refine Lp (p_slH (b := kn) hsp rfl Tryz.runUnderlying25 Tryz.sizeOf5 rfl rfl (by rw [List.length_append]; omega) rfl) ?_
        refine La rfl (nSR (TL_freeze (K0 .nil) (fun gF hlgF hrd => ?_)))
        have hpb : Bytes gF pv (bodyL es ++ tail) := ⟨hsp, hrd⟩
        have hcut := hpb.slTo (b := kn) (by rw [List.length_append]; omega)
        rw [List.take_append_of_le_length (by omega)] at hcut
        have hcl : ((bodyL es).take kn).length = kn := by { rw [List.length_take]; omega }
        refine Lm rfl (Lk (e_call rfl (ct_ScanPack gF eE uE (hE.mono hlgF) _ _ hcut (by omega) es hOk (by omega) (List.take_prefix _ _) (by omega)) .nil) ?_)
        rintro _ _ _ - ⟨_, rfl, ⟨q1, q2, q3, q4, rfl, rfl⟩⟩
        refine Lm rfl (Lx rfl rfl (Lx rfl rfl (Lx rfl rfl (Lx rfl rfl (Lx rfl rfl (La rfl (La rfl (La rfl (La rfl ?_)))))))))
        refine La rfl (nSR (Lm rfl (Lk (e_call rfl (ct_ParsePack gF eE uE (hE.mono hlgF) (hT.mono hlgF) _ _ hcut (by omega) es hOk (by omega) (List.take_prefix _ _) (by omega)) .nil) ?_)))
        rintro _ _ _ - ⟨_, rfl, ⟨p1, p2, rfl, rfl⟩⟩
        refine Lm rfl (Lx rfl rfl (Lx rfl rfl (Lx rfl rfl (La rfl (La rfl (La rfl (nSR (Lm rfl (Lp (p_not rfl) ?_)))))))))
        refine Lm rfl (Lg (p_move rfl) (Lg (p_not rfl) (Lp (p_pickT rfl rfl) (Lm rfl (TL_kg rfl rfl rfl rfl (e_call rfl (ct_deltaWorks gF ov zv (hD.mono hlgF)) .nil) ?_)))))
        rintro _ _ _ - ⟨_, rfl, ⟨rfl, rfl⟩⟩
        refine Lp (p_pickT rfl rfl) (La rfl (nr (E_ret1 [] rfl hlgF rfl (K0 .nil) (fun g' hl => ?_))))
        exact ⟨rfl, rfl⟩
end Go.Proofs.YtolddodhmeaceaaGreatDoor
