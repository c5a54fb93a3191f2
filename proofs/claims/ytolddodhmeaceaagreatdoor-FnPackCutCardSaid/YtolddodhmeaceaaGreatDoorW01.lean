/- Part 1 of the walk of laws.FnPackCut. -/
import Derived.Test.YtolddodhmeaceaaGreatDoorW00
import Derived.Lib.ConvBytes
import Derived.Laws.Tables
import Derived.Laws.MakeOwn
import Derived.Laws.StructEq
import Derived.MapKept
import Derived.LaidEql
import Derived.LaidEqlPtr
import Derived.Defers
import Derived.Test.YtolddodhmeaceaaGreatDoorProg
set_option linter.unusedVariables false
set_option linter.unusedSimpArgs false
set_option maxRecDepth 100000
namespace Go.Hl
variable {P : Program}
/-- x[a:b] of a slice. -/
def sl (v : Value) (a b sz : Nat) : Value :=
  match v with
  | .slice p len cap => .slice (if cap = a then p else p.map (·.add (a * sz))) (b - a) (cap - a)
  | v => v
theorem sl_some (b o len cap a c sz : Nat) : sl (.slice (some ⟨b, o, none⟩) len cap) a c sz = .slice (some ⟨b, if cap = a then o else o + a * sz, none⟩) (c - a) (cap - a) := by
  unfold sl
  simp only [Option.map_some, addr_add]
  split <;> rfl
theorem Shp.sl {v : Value} {n a b sz : Nat} (h : Shp v n) (hab : a ≤ b) (hb : b ≤ n) : Shp (sl v a b sz) (b - a) := by
  rcases h with ⟨p0, cap, rfl, rfl, hp0⟩ | ⟨bl, o, cap, hc, rfl⟩
  · obtain rfl : b = 0 := by omega
    obtain rfl : a = 0 := by omega
    exact .inl ⟨_, _, rfl, rfl, hp0.imp (fun h => by subst h; simp) (fun h => by simp [h])⟩
  · rw [sl_some]
    exact .inr ⟨_, _, _, by omega, rfl⟩
theorem Rd.sl {g : GW} {v : Value} {xs : List Value} {n a b sz : Nat} (h : Rd g v xs) (hs : Shp v n) (hl : xs.length = n * sz) (hab : a ≤ b) (hb : b ≤ n) :
    Rd g (Hl.sl v a b sz) ((xs.drop (a * sz)).take ((b - a) * sz)) := by
  rcases hs with ⟨p0, cap, rfl, rfl, hp0⟩ | ⟨bl, o, cap, hc, rfl⟩
  · have hx : xs = [] := List.eq_nil_of_length_eq_zero (by simpa using hl)
    subst hx
    rw [List.drop_nil, List.take_nil]
    exact Rd.nil _ _ _ _
  · rw [sl_some]
    refine ⟨.inr rfl, fun j u hj => ?_⟩
    rw [List.getElem?_take] at hj
    split at hj
    · rename_i hlt
      rw [List.getElem?_drop] at hj
      have hlt2 : a * sz + j < xs.length := (List.getElem?_eq_some_iff.1 hj).1
      have hca : cap ≠ a := by
        rintro rfl
        have : b - cap = 0 := by omega
        rw [this] at hlt; omega
      rw [if_neg hca]
      have := h.2 _ u hj
      simp only [] at this ⊢
      rw [Nat.add_assoc]
      exact this
    · cases hj
theorem bvs_sl (l : List UInt8) (a b : Nat) : ((bvs l).drop (a * 1)).take ((b - a) * 1) = bvs ((l.drop a).take (b - a)) := by
  simp [bvs, List.map_take, List.map_drop]
theorem bvs_length (l : List UInt8) : (bvs l).length = l.length := by simp [bvs]
theorem bvs_append (l m : List UInt8) : bvs (l ++ m) = bvs l ++ bvs m := by simp [bvs]
theorem bvs_get {l : List UInt8} {k : Nat} {c : UInt8} (h : l[k]? = some c) : (bvs l)[k]? = some (bv c) := by simp [bvs, h]
theorem bvs_get1 {l : List UInt8} {k : Nat} {c : UInt8} (h : l[k]? = some c) : (bvs l)[k * 1]? = some (bv c) := by rw [Nat.mul_one]; exact bvs_get h
theorem Bytes.sl {g : GW} {v : Value} {l : List UInt8} {a b : Nat} (h : Bytes g v l) (hab : a ≤ b) (hb : b ≤ l.length) : Bytes g (Hl.sl v a b 1) ((l.drop a).take (b - a)) := by
  refine ⟨?_, ?_⟩
  · have := h.1.sl (sz := 1) hab hb
    rw [List.length_take, List.length_drop, Nat.min_eq_left (by omega)]
    exact this
  · have := h.2.sl (sz := 1) h.1 (by rw [bvs_length]; omega) hab hb
    rw [bvs_sl] at this
    exact this
theorem Bytes.slFrom {g : GW} {v : Value} {l : List UInt8} {a n : Nat} (h : Bytes g v l) (hn : n = l.length) (ha : a ≤ n) : Bytes g (Hl.sl v a n 1) (l.drop a) := by
  subst hn
  have := h.sl (b := l.length) ha (Nat.le_refl _)
  rwa [List.take_of_length_le (by rw [List.length_drop]; omega)] at this
theorem Bytes.slTo {g : GW} {v : Value} {l : List UInt8} {b : Nat} (h : Bytes g v l) (hb : b ≤ l.length) : Bytes g (Hl.sl v 0 b 1) (l.take b) := by
  have := h.sl (a := 0) (Nat.zero_le _) hb
  rwa [List.drop_zero, Nat.sub_zero] at this
section
variable {d : Option Nat} {ty : TypeId} {ps : String} {af : Array Edge} {gd : Option (Nat × Bool)} {g : GW} {L : List (Nat × Value)} {H Hr : List Atom}
theorem sliceBound_ok {w : World} {k : IntKind} {a y : Nat} {code : BoundsCode} (h : a ≤ y) : (Instr.sliceBound (.int k (a : Int)) y code).run P w = .ok a w := by
  unfold Instr.sliceBound
  simp [asIntOf, h]
theorem run_sliceAt {w : World} {t elem sz : Nat} {v : Value} {n a b : Nat} {lo hi : Option Value} (hs : Shp v n) (hu : ∀ w, (underlying t).run P w = .ok (.slice elem) w) (hz : ∀ w, (sizeOf elem).run P w = .ok sz w)
    (hlo : (lo = none ∧ a = 0) ∨ ∃ k, lo = some (.int k (a : Int))) (hhi : (hi = none ∧ b = n) ∨ ∃ k, hi = some (.int k (b : Int))) (hab : a ≤ b) (hb : b ≤ n) :
    (Instr.sliceAt t v lo hi none).run P w = .ok (sl v a b sz) w := by
  obtain ⟨p, cap, rfl, hc⟩ : ∃ p cap, v = .slice p n cap ∧ n ≤ cap := by
    rcases hs with ⟨p0, cap, rfl, rfl, hp0⟩ | ⟨bl, o, cap, hc, rfl⟩
    · exact ⟨p0, cap, rfl, Nat.zero_le _⟩
    · exact ⟨_, cap, rfl, hc⟩
  unfold Instr.sliceAt
  rw [run_bind_ok (hu w)]
  simp only []
  unfold Instr.slice
  rw [run_bind_ok (hu w)]
  simp only []
  have hbd : (Instr.sliceBounds true n cap lo hi none).run P w = .ok (a, b, cap) w := by
    unfold Instr.sliceBounds
    rcases hlo with ⟨rfl, rfl⟩ | ⟨k, rfl⟩ <;> rcases hhi with ⟨rfl, rfl⟩ | ⟨k', rfl⟩ <;> simp [sliceBound_ok (P := P) hab, sliceBound_ok (P := P) (Nat.le_trans hb hc)]
  rw [run_bind_ok hbd]
  simp only [Sem.run_bind, hz, Result.andThen_ok, Sem.run_pure]
  rfl
theorem p_sl {t x elem sz r} {v : Value} {lo hi : Option Operand} {n a b : Nat} {i j : Int} (hs : Shp v n) (ex : ev L x = some v) (hu : ∀ w, (underlying t).run P w = .ok (.slice elem) w) (hz : ∀ w, (sizeOf elem).run P w = .ok sz w)
    (hlo : (lo = none ∧ a = 0) ∨ ∃ lo' k, lo = some lo' ∧ ev L lo' = some (.int k i) ∧ i = (a : Int)) (hhi : (hi = none ∧ b = n) ∨ ∃ hi' k, hi = some hi' ∧ ev L hi' = some (.int k j) ∧ j = (b : Int))
    (hab : a ≤ b) (hb : b ≤ n) (hr : sl v a b sz = r) : OpP P ⟨d, .slice t x lo hi none, ty, ps, af, gd⟩ g L H r :=
  fun ac nn D hk g' hl _ => by
    subst hr
    simp only [execOp, hk.eval ex, Option.map_none]
    refine run_v (run_sliceAt hs hu hz ?_ ?_ hab hb)
    · rcases hlo with ⟨rfl, rfl⟩ | ⟨lo', k, rfl, e, rfl⟩
      · exact .inl ⟨rfl, rfl⟩
      · exact .inr ⟨k, by simp [hk.eval e]⟩
    · rcases hhi with ⟨rfl, rfl⟩ | ⟨hi', k, rfl, e, rfl⟩
      · exact .inl ⟨rfl, rfl⟩
      · exact .inr ⟨k, by simp [hk.eval e]⟩
/-- v[a:b], v[a:], v[:b] -/
theorem p_slLH {t x elem sz r lo hi k k'} {v : Value} {n a b : Nat} {i j : Int} (hs : Shp v n) (ex : ev L x = some v) (hu : ∀ w, (underlying t).run P w = .ok (.slice elem) w) (hz : ∀ w, (sizeOf elem).run P w = .ok sz w)
    (el : ev L lo = some (.int k i)) (eh : ev L hi = some (.int k' j)) (hi' : i = (a : Int)) (hj' : j = (b : Int)) (hab : a ≤ b) (hb : b ≤ n) (hr : sl v a b sz = r) :
    OpP P ⟨d, .slice t x (some lo) (some hi) none, ty, ps, af, gd⟩ g L H r := p_sl hs ex hu hz (.inr ⟨_, _, rfl, el, hi'⟩) (.inr ⟨_, _, rfl, eh, hj'⟩) hab hb hr
theorem p_slL {t x elem sz r lo k} {v : Value} {n a : Nat} {i : Int} (hs : Shp v n) (ex : ev L x = some v) (hu : ∀ w, (underlying t).run P w = .ok (.slice elem) w) (hz : ∀ w, (sizeOf elem).run P w = .ok sz w)
    (el : ev L lo = some (.int k i)) (hi' : i = (a : Int)) (ha : a ≤ n) (hr : sl v a n sz = r) :
    OpP P ⟨d, .slice t x (some lo) none none, ty, ps, af, gd⟩ g L H r := p_sl (j := 0) hs ex hu hz (.inr ⟨_, _, rfl, el, hi'⟩) (.inl ⟨rfl, rfl⟩) ha (Nat.le_refl _) hr
theorem p_slH {t x elem sz r hi k'} {v : Value} {n b : Nat} {j : Int} (hs : Shp v n) (ex : ev L x = some v) (hu : ∀ w, (underlying t).run P w = .ok (.slice elem) w) (hz : ∀ w, (sizeOf elem).run P w = .ok sz w)
    (eh : ev L hi = some (.int k' j)) (hj' : j = (b : Int)) (hb : b ≤ n) (hr : sl v 0 b sz = r) :
    OpP P ⟨d, .slice t x none (some hi) none, ty, ps, af, gd⟩ g L H r := p_sl (i := 0) hs ex hu hz (.inl ⟨rfl, rfl⟩) (.inr ⟨_, _, rfl, eh, hj'⟩) (Nat.zero_le _) hb hr
/-- Load of a byte. -/
theorem p_ldB {t x l c} {v : Value} {k : Nat} (h : Bytes g v l) (ex : ev L x = some (ep v (k * 1))) (ha : ∀ w, (isAgg t).run P w = .ok false w) (hk' : l[k]? = some c) :
    OpP P ⟨d, .load t x, ty, ps, af, gd⟩ g L H (bv c) := p_ldRd h.2 ex ha (bvs_get1 hk')
/-- A part of a row that the code owns, read. -/
theorem src_ownSl {sz e n ys m} {a b : Nat} {v : Value} (hs : Shp v n) (hl : ys.length = n * sz) (hm : own v sz e ys ∈ H) (hab : a ≤ b) (hb : b ≤ n) (hr : b - a = m) :
    Src P g H (sl v a b sz) sz m ((ys.drop (a * sz)).take ((b - a) * sz)) := by
  subst hr
  have hlen : ((ys.drop (a * sz)).take ((b - a) * sz)).length = (b - a) * sz := by
    rw [List.length_take, List.length_drop, hl, ← Nat.sub_mul]
    exact Nat.min_eq_left (Nat.mul_le_mul_right _ (by omega))
  rcases hs with ⟨p0, cap, rfl, rfl, hp0⟩ | ⟨bl, o, cap, hc, rfl⟩
  · obtain rfl : b = 0 := by omega
    obtain rfl : a = 0 := by omega
    have : ys = [] := List.eq_nil_of_length_eq_zero (by simpa using hl)
    subst this
    rw [List.drop_nil, List.take_nil]
    exact src_nilP (P := P) (g := g) (H := H) (sz := sz)
  · rw [sl_some]
    refine ⟨fun w => rfl, hlen, fun g' hl' hsat k hk => firstCells_some hk fun j u hj => ?_⟩
    rw [List.getElem?_take] at hj
    split at hj
    · rename_i hlt
      rw [List.getElem?_drop] at hj
      have hca : cap ≠ a := by
        rintro rfl
        have : b - cap = 0 := by omega
        rw [this] at hlt; omega
      rw [if_neg hca, Nat.add_assoc]
      exact own_cell (hsat.holds _ hm) hj
    · cases hj
theorem und_of {t u} (h : ∀ w, (underlying t).run P w = .ok u w) : P.underlying t = some u := by
  have h0 := h default
  unfold underlying at h0
  cases e : P.underlying t with
  | some d => simp [e] at h0; rw [h0]
  | none => simp [e] at h0
theorem own_ofShp {b o n cap sz e xs c fz} {w : World} (hb : w.heap[b]? = some (.cells c e fz)) (hl : xs.length = n * sz) (hc : n ≤ cap)
    (hs : o + cap * sz ≤ c.size) (hx : ∀ j u, xs[j]? = some u → c[o + j]? = some u) (hf : ∀ k, k < o + cap * sz → ¬ (fz.1 ≤ k ∧ k < fz.2)) :
    (own (.slice (some ⟨b, o, none⟩) n cap) sz e xs).holds w := own_mk hb hl hc hs hx hf
/-- A new piece over a new block. -/
theorem Sat.new {H : List Atom} {g : GW} {A : Atom} (h : Sat H g) (w' : World) (hos : w'.os = g.w.os) (hout : w'.output = g.w.output) (hs : g.w.heap.size ≤ w'.heap.size)
    (hne : ∀ b, b < g.w.heap.size → w'.heap[b]? = g.w.heap[b]?) (hA : A.holds w') (hd : ∀ b, A.dom b → b < w'.heap.size ∧ g.w.heap.size ≤ b) : Sat (A :: H) ⟨w', g.I⟩ ∧ Le g ⟨w', g.I⟩ := by
  refine ⟨⟨fun b hb => Nat.lt_of_lt_of_le (h.lt b hb) hs, fun B hB => ?_, fun B hB b hb => ?_, ?_⟩, ⟨hos, hout, hs, fun _ h => h, fun b hb => hne b (h.lt b hb)⟩⟩
  · rcases List.mem_cons.1 hB with rfl | hB'
    · exact hA
    · exact B.loc g.w _ (fun b hb => hne b (h.dom B hB' b hb).1) (h.holds B hB')
  · rcases List.mem_cons.1 hB with rfl | hB'
    · exact ⟨(hd b hb).1, fun hi => by have := h.lt b hi; have := (hd b hb).2; omega⟩
    · exact ⟨Nat.lt_of_lt_of_le (h.dom B hB' b hb).1 hs, (h.dom B hB' b hb).2⟩
  · refine List.pairwise_cons.2 ⟨fun B hB b hb hb' => ?_, h.sep⟩
    have := (h.dom B hB b hb').1
    have := (hd b hb).2
    omega
/-- []byte(s) -/
theorem e_strBytes {src dst e x l u} (ex : ev L x = some (str l)) (hs : ∀ w, (underlying src).run P w = .ok u w) (hd : ∀ w, (underlying dst).run P w = .ok (.slice e) w) (he : ∀ w, (underlying e).run P w = .ok (.int .u8) w) :
    Op1 P ⟨d, .convert src dst x, ty, ps, af, gd⟩ g L H (fun r g' H' => Shp r l.length ∧ H' = own r 1 e (bvs l) :: H) :=
  Op1.of_run fun a n D hk g' hl hsat => by
    have hgc : l.length ≤ grownCap g'.w (bs l).size 0 e := by
      have : (bs l).size ≤ grownCap g'.w (bs l).size 0 e := by unfold grownCap; exact Nat.le_add_right _ _
      rwa [bs_size] at this
    have hcs : (Lib.bytesCells g'.w e (bs l)).size = grownCap g'.w (bs l).size 0 e := by
      have h0 : (Lib.bytesCells g'.w e (bs l)).size = l.length + (grownCap g'.w (bs l).size 0 e - (bs l).size) := by simp [Lib.bytesCells, bs]
      rw [h0, bs_size]; rw [bs_size] at hgc; omega
    obtain ⟨h1, h2⟩ := hsat.new (A := own (.slice (some ⟨g'.w.heap.size, 0, none⟩) l.length (grownCap g'.w (bs l).size 0 e)) 1 e (bvs l)) (Lib.bytesWorld g'.w e (bs l))
      rfl rfl (by rw [Lib.bytesWorld_size]; omega) (fun b hb => Lib.bytesWorld_at_old g'.w e (bs l) b hb)
      (own_mk (Lib.bytesWorld_at_new g'.w e (bs l)) (by rw [bvs_length, Nat.mul_one]) hgc (by rw [hcs]; omega)
        (fun j v hj => by
          simp only [Lib.bytesCells, Nat.zero_add]
          have hlt : j < l.length := by rw [← bvs_length l]; exact (List.getElem?_eq_some_iff.1 hj).1
          rw [Array.getElem?_append_left (by simp [bs, hlt])]
          rw [← hj]
          simp [bs, bvs]
          rfl)
        (fun k hk1 hk2 => by
          simp only [hcs] at hk2
          omega))
      (fun b hb => by cases hb; exact ⟨by rw [Lib.bytesWorld_size]; show g'.w.heap.size < _; omega, Nat.le_refl _⟩)
    refine ⟨_, _, g'.I, _, ?_, h2, h1, Shp.some _ _ _ _ hgc, rfl⟩
    simp only [execOp, hk.eval ex]
    exact run_v (Lib.run_convert_string_bytes g'.w src dst e (bs l) (und_of hs) (und_of hd) (und_of he))
theorem p_bytesStrS {src dst x e l m} {v : Value} (hv : Shp v m) (src' : Src P g H v 1 m (bvs l)) (ex : ev L x = some v) (hs : ∀ w, (underlying src).run P w = .ok (.slice e) w) (hd : ∀ w, (underlying dst).run P w = .ok .string w)
    (he : ∀ w, (underlying e).run P w = .ok (.int .u8) w) : OpP P ⟨d, .convert src dst x, ty, ps, af, gd⟩ g L H (str l) := by
  refine p_bytesStr ex hs hd he ?_ src'
  rcases hv with ⟨p0, cap, rfl, rfl, _⟩ | ⟨b, o, cap, _, rfl⟩
  · cases p0 with
    | none => exact .inr ⟨cap, rfl⟩
    | some ad => exact .inl ⟨ad, cap, rfl⟩
  · exact .inl ⟨_, cap, rfl⟩
theorem p_bytesStrB {src dst x e l} {v : Value} (hv : Bytes g v l) (ex : ev L x = some v) (hs : ∀ w, (underlying src).run P w = .ok (.slice e) w) (hd : ∀ w, (underlying dst).run P w = .ok .string w)
    (he : ∀ w, (underlying e).run P w = .ok (.int .u8) w) : OpP P ⟨d, .convert src dst x, ty, ps, af, gd⟩ g L H (str l) := p_bytesStrS hv.1 (src_bytes hv) ex hs hd he
theorem T_shp {n c D Q} {v : Value} {sz e xs} (hm : own v sz e xs ∈ H) (h : ∀ m, Shp v m → xs.length = m * sz → T P n c g L D H Q) : T P n c g L D H Q :=
  fun a g' hl hk hs => by
    obtain ⟨m, h1, h2⟩ := own_shp (hs.holds _ hm)
    exact h m h1 h2 a g' hl hk hs
theorem TL_shp {n ops l D K} {v : Value} {sz e xs} (hm : own v sz e xs ∈ H) (h : ∀ m, Shp v m → xs.length = m * sz → TL P n ops l g L D H K) : TL P n ops l g L D H K :=
  fun a g' hl hk hs => by
    obtain ⟨m, h1, h2⟩ := own_shp (hs.holds _ hm)
    exact h m h1 h2 a g' hl hk hs
theorem E_shp {n x D Q} {v : Value} {sz e xs} (hm : own v sz e xs ∈ H) (h : ∀ m, Shp v m → xs.length = m * sz → E n x g L D H Q) : E n x g L D H Q :=
  fun a g' hl hk hs => by
    obtain ⟨m, h1, h2⟩ := own_shp (hs.holds _ hm)
    exact h m h1 h2 a g' hl hk hs
end
end Go.Hl
namespace Go.Hl
variable {P : Program}
section
variable {d : Option Nat} {ty : TypeId} {ps : String} {af : Array Edge} {gd : Option (Nat × Bool)} {g : GW} {L : List (Nat × Value)} {H Hr : List Atom}
theorem p_build {t cells} {parts : List (Nat × Operand)} {vs : List Value} (e : evs L (parts.map (·.2)) = some vs) (h : P.built t ((parts.map (·.1)).zip vs) = some cells) :
    OpP P ⟨d, .build t parts.toArray, ty, ps, af, gd⟩ g L H (.agg cells) :=
  fun a n D hk g' hl hs => by
    have hev := hk.evals e
    simp only [execOp]
    refine run_v (run_build _ _ _ _ ?_)
    have hp : (parts.toArray.map fun (x : Nat × Operand) => (x.1, a.eval x.2)).toList = (parts.map (·.1)).zip vs := by
      rw [← hev]
      simp [List.map_toArray, List.zip_map', Function.comp]
    rw [hp]
    exact h
/-- Parts of an array or a struct that are one cell each. -/
theorem built_ones {places : Nat → Option (Nat × Nat)} : ∀ (parts : List (Nat × Value)) (c : Array Value), (∀ x ∈ parts, x.2.oneCell' = true ∧ ∃ o, places x.1 = some (o, 1) ∧ o < c.size) →
    Instr.fill places c parts = some (parts.foldl (fun c x => c.setIfInBounds ((places x.1).getD (0, 0)).1 x.2) c)
  | [], c, h => rfl
  | (i, v) :: rest, c, h => by
    obtain ⟨h1, o, h2, h3⟩ := h (i, v) (by simp)
    have hv : v.cells = #[v] := by cases v <;> first | rfl | cases h1
    unfold Instr.fill
    simp only [h2, hv]
    rw [if_neg (by simp; omega)]
    rw [built_ones rest]
    · simp [h2]
    · intro x hx
      obtain ⟨h4, o', h5, h6⟩ := h x (.tail _ hx)
      exact ⟨h4, o', h5, by simpa using h6⟩
def notU (x : Int) : Int := bitsOf .xor .u32 IntKind.u32.max x
theorem p_notU {t x n} (ex : ev L x = some (.int .u32 n)) : OpP P ⟨d, .unOp .xor t x, ty, ps, af, gd⟩ g L H (.int .u32 (notU n)) :=
  fun a nn D hk g' hl hs => by
    simp only [execOp, hk.eval ex, Op.unary]
    refine run_v ?_
    simp [Op.intBits, notU, bitsOf, IntKind.signed]
theorem p_indexAgg {t x ix k elem n cs v} {j : Nat} {i : Int} (ex : ev L x = some (.agg cs)) (ei : ev L ix = some (.int k i)) (hu : ∀ w, (underlying t).run P w = .ok (.array n elem) w)
    (ha : ∀ w, (isAgg elem).run P w = .ok false w) (hz : ∀ w, (sizeOf elem).run P w = .ok 1 w) (hi : i = (j : Int)) (hj : j < n) (hv : cs[j]? = some v) :
    OpP P ⟨d, .index t x ix, ty, ps, af, gd⟩ g L H v :=
  fun a nn D hk g' hl hs => by
    subst hi
    simp only [execOp, hk.eval ex, hk.eval ei]
    refine run_v ?_
    unfold Instr.index
    simp only [asIntOf, Sem.run_bind, Sem.run_pure, Result.andThen_ok, hu]
    rw [if_pos ⟨by omega, by omega⟩]
    simp only [Sem.run_bind, hz, Result.andThen_ok, part, ha, Bool.false_eq_true, if_false, Int.toNat_natCast, Nat.mul_one, hv, Sem.run_pure]
theorem p_field {t x i fs f cs v} (ex : ev L x = some (.agg cs)) (hu : ∀ w, (underlying t).run P w = .ok (.struct fs) w) (hf : fs[i]? = some f)
    (ha : ∀ w, (isAgg f.type).run P w = .ok false w) (hv : cs[f.offset]? = some v) : OpP P ⟨d, .field t x i, ty, ps, af, gd⟩ g L H v :=
  fun a nn D hk g' hl hs => by
    simp only [execOp, hk.eval ex]
    refine run_v ?_
    unfold Instr.field
    simp only [Sem.run_bind, hu, Result.andThen_ok, hf, asAgg, Sem.run_pure, part, ha, Bool.false_eq_true, if_false, hv]
theorem p_fieldAgg {t x i fs f cs r m} (ex : ev L x = some (.agg cs)) (hu : ∀ w, (underlying t).run P w = .ok (.struct fs) w) (hf : fs[i]? = some f)
    (ha : ∀ w, (isAgg f.type).run P w = .ok true w) (hz : ∀ w, (sizeOf f.type).run P w = .ok m w) (hv : cs.extract f.offset (f.offset + m) = r) : OpP P ⟨d, .field t x i, ty, ps, af, gd⟩ g L H (.agg r) :=
  fun a nn D hk g' hl hs => by
    simp only [execOp, hk.eval ex]
    refine run_v ?_
    unfold Instr.field
    simp only [Sem.run_bind, hu, Result.andThen_ok, hf, asAgg, Sem.run_pure, part, ha, if_true, hz, hv]
theorem p_min {x y at_ k a b c} (ex : ev L x = some (.int k a)) (ey : ev L y = some (.int k b)) (hc : (if b < a then b else a) = c) :
    OpP P ⟨d, .call ⟨.builtin .min, #[x, y], at_⟩, ty, ps, af, gd⟩ g L H (.int k c) :=
  fun ac nn D hk g' hl hs => by
    subst hc
    simp [execOp, resolve, invoke, builtin, hk.eval ex, hk.eval ey, Builtin.min_, Builtin.min2]
theorem p_max {x y at_ k a b c} (ex : ev L x = some (.int k a)) (ey : ev L y = some (.int k b)) (hc : (if a < b then b else a) = c) :
    OpP P ⟨d, .call ⟨.builtin .max, #[x, y], at_⟩, ty, ps, af, gd⟩ g L H (.int k c) :=
  fun ac nn D hk g' hl hs => by
    subst hc
    simp [execOp, resolve, invoke, builtin, hk.eval ex, hk.eval ey, Builtin.max_, Builtin.max2]
theorem p_cap {at_ x t p len cap e} (ex : ev L x = some (.slice p len cap)) (ha : at_[0]? = some t) (hu : ∀ w, (underlying t).run P w = .ok (.slice e) w) :
    OpP P ⟨d, .call ⟨.builtin .cap, #[x], at_⟩, ty, ps, af, gd⟩ g L H (.int .i64 cap) :=
  fun a n D hk g' hl hs => by
    simp only [execOp, resolve, invoke, builtin, List.map_toArray, List.map_cons, List.map_nil, hk.eval ex, Sem.run_bind, Sem.run_pure, Result.andThen_ok, Builtin.cap_, ha, hu, goInt,
      List.getElem?_toArray, List.getElem?_cons_zero]
/-- Where a row is owned, its slice is a plain one. -/
theorem Shp.plain {w : World} {v : Value} {n sz e xs} (hs : Shp v n) (h : (own v sz e xs).holds w) : (∃ cap, v = .slice Option.none 0 cap ∧ n = 0) ∨ ∃ b o cap, n ≤ cap ∧ v = .slice (Option.some ⟨b, o, Option.none⟩) n cap := by
  rcases hs with ⟨p0, cap, rfl, rfl, hp0⟩ | h2
  · cases p0 with
    | none => exact .inl ⟨cap, rfl, rfl⟩
    | some a =>
      obtain ⟨b, o, sp⟩ := a
      obtain ⟨hsp, _⟩ := h
      simp only [] at hsp
      subst hsp
      exact .inr ⟨b, o, cap, Nat.zero_le _, rfl⟩
  · exact .inr h2
/-- The atom of a part of a row: the front is let go. -/
theorem own_sl {w : World} {v : Value} {n a sz e xs} (h : (own v sz e xs).holds w) (hs : Shp v n) (ha : a ≤ n) : (own (sl v a n sz) sz e (xs.drop (a * sz))).holds w := by
  rcases hs.plain h with ⟨cap, rfl, rfl⟩ | ⟨b, o, cap, hc, rfl⟩
  · obtain rfl : a = 0 := by omega
    obtain ⟨_, h2, h3⟩ := h
    subst h2; subst h3
    simp [sl, own]
  · obtain ⟨_, hl, _, c, fz, hb, hcs, hx, hf⟩ := h
    simp only [] at hb hcs hx hf
    have hmul : a * sz ≤ cap * sz := Nat.mul_le_mul_right _ (by omega)
    have hmul2 : a * sz ≤ n * sz := Nat.mul_le_mul_right _ ha
    rw [sl_some]
    have e1 : (cap - a) * sz + a * sz = cap * sz := by rw [← Nat.add_mul, Nat.sub_add_cancel (by omega)]
    have e2 : (n - a) * sz + a * sz = n * sz := by rw [← Nat.add_mul, Nat.sub_add_cancel (by omega)]
    by_cases hca : cap = a
    · subst hca
      rw [if_pos rfl]
      have hnc : n = cap := by omega
      subst hnc
      refine own_mk hb (by rw [List.length_drop]; omega) (Nat.le_refl _) (by simp; omega) (fun j u hj => ?_) (fun k hk => hf k (by simp at hk; omega))
      rw [List.getElem?_drop] at hj
      have := (List.getElem?_eq_some_iff.1 hj).1
      omega
    · rw [if_neg hca]
      refine own_mk hb (by rw [List.length_drop]; omega) (by omega) (by omega) (fun j u hj => ?_) (fun k hk => hf k (by omega))
      rw [List.getElem?_drop] at hj
      have := hx _ u hj
      rwa [← Nat.add_assoc] at this
theorem own_sl_dom {v : Value} {n a sz e xs ys} (hs : Shp v n) (b : Nat) : (own (sl v a n sz) sz e ys).dom b → (own v sz e xs).dom b := by
  rcases hs with ⟨p0, cap, rfl, rfl, _⟩ | ⟨bl, o, cap, hc, rfl⟩
  · cases p0 with
    | none => simp [sl, own]
    | some ad =>
      show (own (.slice (if cap = a then some ad else some (ad.add (a * sz))) _ _) sz e ys).dom b → _
      by_cases h : cap = a
      · rw [if_pos h]; exact fun h => h
      · rw [if_neg h]
        intro h
        have h2 : b = (ad.add (a * sz)).block := h
        rw [h2]
        show (ad.add (a * sz)).block = ad.block
        unfold Addr.add
        split <;> rfl
  · rw [sl_some]; exact fun h => h
theorem Sat.swap {H Hr : List Atom} {g : GW} {A A' : Atom} (h : Sat H g) (p : Part H [A] Hr) (hA : A'.holds g.w) (hd : ∀ b, A'.dom b → A.dom b) : Sat (A' :: Hr) g := by
  have h' : Sat (A :: Hr) g := h.part p
  have hsep := List.pairwise_cons.1 h'.sep
  refine ⟨h'.lt, fun B hB => ?_, fun B hB b hb => ?_, List.pairwise_cons.2 ⟨fun B hB b hb => hsep.1 B hB b (hd b hb), hsep.2⟩⟩
  · rcases List.mem_cons.1 hB with rfl | hB'
    · exact hA
    · exact h'.holds B (.tail _ hB')
  · rcases List.mem_cons.1 hB with rfl | hB'
    · exact h'.dom A (by simp) b (hd b hb)
    · exact h'.dom B (.tail _ hB') b hb
theorem Sat.slAt {v : Value} {n a sz e xs} (h : Sat H g) (p : Part H [own v sz e xs] Hr) (hs : Shp v n) (ha : a ≤ n) : Sat (own (sl v a n sz) sz e (xs.drop (a * sz)) :: Hr) g :=
  h.swap p (own_sl (h.head p) hs ha) (fun b => own_sl_dom hs b)
theorem T_slAt {nn c D Q} {v : Value} {n a sz e xs} (p : Part H [own v sz e xs] Hr) (hs : Shp v n) (ha : a ≤ n) (h : T P nn c g L D (own (sl v a n sz) sz e (xs.drop (a * sz)) :: Hr) Q) : T P nn c g L D H Q :=
  fun ac g' hl hk hsat => h ac g' hl hk (hsat.slAt p hs ha)
theorem TL_slAt {nn ops l D K} {v : Value} {n a sz e xs} (p : Part H [own v sz e xs] Hr) (hs : Shp v n) (ha : a ≤ n) (h : TL P nn ops l g L D (own (sl v a n sz) sz e (xs.drop (a * sz)) :: Hr) K) : TL P nn ops l g L D H K :=
  fun ac g' hl hk hsat => h ac g' hl hk (hsat.slAt p hs ha)
/-- make([]T, l, c) of elements of one cell. -/
theorem e_make {t e i z x y kl kc l c zc} (ex : ev L x = some (.int kl (l : Nat))) (ey : ev L y = some (.int kc (c : Nat))) (ht : ∀ w, (underlying t).run P w = .ok (.slice e) w) (hi : ∀ w, (typeInfo e).run P w = .ok i w)
    (hz : i.zero = some z) (hz1 : z.cells = #[zc]) (hs1 : i.size = 1) (hlc : l ≤ c) (hb : i.bytes * c ≤ 281474976710656) (h63 : c ≤ 9223372036854775807) :
    Op1 P ⟨d, .makeSlice t x y, ty, ps, af, gd⟩ g L H (fun u g' H' => ∃ b, u = .slice (some ⟨b, 0, none⟩) l c ∧ H' = own (.slice (some ⟨b, 0, none⟩) l c) 1 e (List.replicate l zc) :: H) :=
  Op1.of_run fun a n D hk g' hl hsat => by
    have hi' : P.info? e = some i := by
      have h0 := hi default
      unfold typeInfo at h0
      cases e' : P.info? e with
      | some d => simp [e'] at h0; rw [h0]
      | none => simp [e'] at h0
    have hb' : (i.bytes : Int) * (c : Int) ≤ 281474976710656 := by
      have h : ((i.bytes * c : Nat) : Int) ≤ 281474976710656 := by omega
      rwa [Int.natCast_mul] at h
    have hr := run_make (P := P) g'.w t e i z (und_of ht) hi' hz kl kc l c (by omega) (by omega) hb' (by omega)
    rw [Int.toNat_natCast, Int.toNat_natCast, hs1, Nat.mul_one, hz1] at hr
    have hmc : madeCells #[zc] c = Array.replicate c zc := by
      apply Array.ext
      · simp [madeCells]
      · intro j h1 h2
        simp [madeCells, Nat.mod_one]
    obtain ⟨h1, h2⟩ := hsat.new (A := own (.slice (some ⟨g'.w.heap.size, 0, none⟩) l c) 1 e (List.replicate l zc)) ({ g'.w with heap := g'.w.heap.push (.cells (madeCells #[zc] c) e) }) rfl rfl (by simp)
      (fun b hb => by simp only [Array.getElem?_push]; rw [if_neg (by omega)])
      (own_mk (c := madeCells #[zc] c) (fz := (0, 0)) (by simp) (by simp) hlc (by rw [hmc]; simp) (fun j u hj => by
        rw [hmc]
        rw [List.getElem?_replicate] at hj
        split at hj
        · rw [Nat.zero_add, Array.getElem?_replicate, if_pos (by omega)]; exact hj
        · cases hj) (fun k _ h => by simp at h))
      (fun b hb => by cases hb; exact ⟨by simp, Nat.le_refl _⟩)
    refine ⟨_, _, g'.I, _, ?_, h2, h1, _, rfl, rfl⟩
    simp only [execOp, hk.eval ex, hk.eval ey]
    exact run_v hr
/-- copy(dst, src): the source is read, the row is the code's own. -/
theorem e_copy {x y at_ dT e sz m k xs ys} {v u : Value} (ex : ev L x = some v) (ey : ev L y = some u) (ha : at_[0]? = some dT) (hd : ∀ w, (underlying dT).run P w = .ok (.slice e) w) (hz : ∀ w, (sizeOf e).run P w = .ok sz w)
    (src : Src P g H u sz m ys) (hs : Shp v k) (p : Part H [own v sz e xs] Hr) (hone : ∀ u ∈ ys, u.oneCell' = true) (hxs : xs.length = k * sz) :
    Op1 P ⟨d, .call ⟨.builtin .copy, #[x, y], at_⟩, ty, ps, af, gd⟩ g L H (fun r g' H' => r = .int .i64 (min m k : Nat) ∧ H' = own v sz e (ys.take (min m k * sz) ++ xs.drop (min m k * sz)) :: Hr) :=
  Op1.of_run fun a n D hkn g' hl hsat => by
    obtain ⟨hlen, hyl, hread⟩ := src
    have hle : min m k * sz ≤ ys.length := by rw [hyl]; exact Nat.mul_le_mul_right _ (Nat.min_le_left _ _)
    have hle2 : min m k * sz ≤ k * sz := Nat.mul_le_mul_right _ (Nat.min_le_right _ _)
    have hfc := hread g' hl hsat (min m k) hle
    have hown := hsat.head p
    have hdom := (hsat.part p).dom (own v sz e xs) (by simp)
    rcases hs.plain hown with ⟨cap, rfl, rfl⟩ | ⟨b, o, cap, hc, rfl⟩
    · obtain ⟨_, hcap, hx⟩ := hown
      subst hcap; subst hx
      have h0 : min m 0 = 0 := Nat.min_zero _
      refine ⟨_, g'.w, g'.I, _, ?_, .refl _, ?_, rfl, rfl⟩
      · simp only [execOp, resolve, invoke, builtin, List.map_toArray, List.map_cons, List.map_nil, hkn.eval ex, hkn.eval ey, Sem.run_bind, Sem.run_pure, Result.andThen_ok, Builtin.copy_, ha, hd, hz,
          List.getElem?_toArray, List.getElem?_cons_zero, List.getElem?_cons_succ, hlen]
        have : Nat.min m 0 = min m 0 := rfl
        rw [this, hfc]
        simp [goInt]
      · have := hsat.part p
        simpa [h0] using this
    · obtain ⟨_, hxl, hlc, c, fz, hb, hcs, hx, hf⟩ := hown
      simp only [] at hb hcs hx hf
      have hkc : k * sz ≤ cap * sz := Nat.mul_le_mul_right _ hc
      obtain ⟨w', hr, hw⟩ := run_storeCells_blk (P := P) b o e fz (ys.take (min m k * sz)) 0 c g'.w hb (fun u hu => hone u (List.mem_of_mem_take hu)) (by rw [List.length_take]; omega)
        (fun j h1 h2 => hf j (by rw [List.length_take] at h2; omega))
      have h2 := hsat.upd p w' (own (.slice (some ⟨b, o, none⟩) k cap) sz e (ys.take (min m k * sz) ++ xs.drop (min m k * sz))) hw.os hw.output (Nat.le_of_eq hw.size.symm) (fun j _ hj => hw.other j hj)
        (own_mk hw.at_ (by rw [List.length_append, List.length_take, List.length_drop]; omega) hlc (by rw [size_setR]; exact hcs) (fun j r hj => by
          have hcl : o + 0 + (ys.take (min m k * sz)).length ≤ c.size := by rw [List.length_take]; omega
          rw [setR_get _ _ _ _ hcl]
          by_cases hj1 : j < min m k * sz
          · rw [List.getElem?_append_left (by rw [List.length_take]; omega)] at hj
            rw [if_pos ⟨by omega, by rw [List.length_take]; omega⟩]
            rw [← hj]; congr 1; omega
          · rw [List.getElem?_append_right (by rw [List.length_take]; omega), List.length_take, List.getElem?_drop] at hj
            rw [if_neg (by rw [List.length_take]; omega)]
            refine hx j r ?_
            rw [← hj]; congr 1; omega) hf)
        (fun j hj => by cases hj; exact ⟨by rw [hw.size]; exact (hdom b rfl).1, .inl rfl⟩)
      refine ⟨_, w', g'.I, _, ?_, h2.2, h2.1, rfl, rfl⟩
      simp only [execOp, resolve, invoke, builtin, List.map_toArray, List.map_cons, List.map_nil, hkn.eval ex, hkn.eval ey, Sem.run_bind, Sem.run_pure, Result.andThen_ok, Builtin.copy_, ha, hd, hz,
        List.getElem?_toArray, List.getElem?_cons_zero, List.getElem?_cons_succ, hlen]
      have : Nat.min m k = min m k := rfl
      rw [this, hfc]
      simp only [Result.andThen_ok, hr, goInt]
/-- A store of one cell at a place that is not written out. -/
theorem e_storeA {t x y b o v cs cs' e} (ex : ev L x = some (.pointer (some ⟨b, o, none⟩))) (ey : ev L y = some v) (hz : ∀ w, (sizeOf t).run P w = .ok 1 w) (hv : v.oneCell' = true)
    (p : Part H [blk b (.cells cs e)] Hr) (hs : o < cs.size) (hcs : cs.setIfInBounds o v = cs') :
    Op1 P ⟨d, .store t x y, ty, ps, af, gd⟩ g L H (fun u g' H' => u = undef ∧ H' = blk b (.cells cs' e) :: Hr) :=
  e_store1 ex ey hz hv p (by simpa [Nat.blt_eq] using hs) (by rw [show Nat.blt o 0 = false from rfl, Bool.and_false]) hcs
theorem TL_freeze {n ops l D K} {v : Value} {sz e xs} (p : Part H [own v sz e xs] Hr) (h : ∀ g', Le g g' → Rd g' v xs → TL P n ops l g' L D Hr K) : TL P n ops l g L D H K :=
  fun a g' hl hk hs => by
    obtain ⟨I, h1, h2, h3⟩ := own_freeze (hs.part p)
    exact h ⟨g'.w, I⟩ (hl.trans h2) h3 a ⟨g'.w, I⟩ (.refl _) hk h1
theorem TD_frz {n bar m} {ops : Array Oper} {listed : Array Bool} {gS : GW} {D : List Deferred} {Hs : List Atom} {K : KT} {v : Value} {sz e xs} (p : Part H [own v sz e xs] Hr)
    (h : ∀ g', Le g g' → Rd g' v xs → TD P n ops bar m listed gS g' L D Hs Hr K) : TD P n ops bar m listed gS g L D Hs H K :=
  TD_freeze p (fun hs => own_freeze hs) h
end
/-- A part of a list that is only read, where it is appended. -/
theorem src_rdSl {g : GW} {H : List Atom} {n a b m sz : Nat} {v : Value} {xs : List Value} (hs : Shp v n) (hl : xs.length = n * sz) (h : Rd g v xs) (hab : a ≤ b) (hb : b ≤ n) (hm : b - a = m) :
    Src P g H (sl v a b sz) sz m ((xs.drop (a * sz)).take ((b - a) * sz)) := by
  subst hm
  refine src_rd (hs.sl hab hb) ?_ (h.sl hs hl hab hb)
  rw [List.length_take, List.length_drop, hl, ← Nat.sub_mul]
  exact Nat.min_eq_left (Nat.mul_le_mul_right _ (by omega))
end Go.Hl
namespace Go.Hl
variable {P : Program}
inductive ResV (P : Program) (L : List (Nat × Value)) (H : List Atom) : ResultVar → Value → Prop
  | tmp {t : Nat} {v : Value} (h : lk L t = some v) : ResV P L H (.tmp t) v
  | one {a t b : Nat} {cs : Array Value} {el : TypeId} {fz : Nat × Nat} {v : Value} (h : lk L a = some (.pointer (some ⟨b, 0, none⟩))) (ha : ∀ w, (isAgg t).run P w = .ok false w) (hm : blk b (.cells cs el fz) ∈ H)
      (hv : cs[0]? = some v) : ResV P L H (.cell a t) v
  | agg {a t b m : Nat} {cs : Array Value} {el : TypeId} {fz : Nat × Nat} {vs : List Value} (h : lk L a = some (.pointer (some ⟨b, 0, none⟩))) (ha : ∀ w, (isAgg t).run P w = .ok true w)
      (hz : ∀ w, (sizeOf t).run P w = .ok m w) (hm : blk b (.cells cs el fz) ∈ H) (hl : vs.length = m) (hj : ∀ i v, vs[i]? = some v → cs[0 + i]? = some v) : ResV P L H (.cell a t) (.agg vs.toArray)
inductive ResVs (P : Program) (L : List (Nat × Value)) (H : List Atom) : List ResultVar → List Value → Prop
  | nil : ResVs P L H [] []
  | cons {r v rs vs} (h : ResV P L H r v) (t : ResVs P L H rs vs) : ResVs P L H (r :: rs) (v :: vs)
def packed : List Value → Value
  | [v] => v
  | vs => .tuple vs.toArray
section
variable {n : Nat} {fn : Func} {R : Value → GW → List Atom → Prop} {F : Atom} {gb g : GW} {L : List (Nat × Value)} {H Hr : List Atom}
def resF (tmps : Array Value) : ResultVar → Sem Value
  | .tmp t => pure (tmps.getD t undef)
  | .cell a t => do loadVar t (← asAddr (tmps.getD a undef))
theorem run_resV {D a} {g' : GW} {r : ResultVar} {v : Value} (h : ResV P L H r v) (hk : Kn n L D a) (hs : Sat H g') : (resF a.tmps r).run P g'.w = .ok v g'.w := by
  cases h with
  | tmp h => simp only [resF, Sem.run_pure, hk.getD h]
  | @one a' t b cs el fz v h ha hm hv =>
    simp only [resF, hk.getD h, asAddr, Sem.run_bind, Sem.run_pure, Result.andThen_ok]
    have hb : g'.w.heap[b]? = some (.cells cs el fz) := hs.holds _ hm
    have hc : g'.w.cell? ⟨b, 0, none⟩ = some v := by
      simp only [World.cell?, hb, Option.isSome_none, Bool.false_eq_true, if_false]
      all_goals exact hv
    have := run_load_cell (P := P) ha hc
    simpa [Instr.loadAt, Instr.sureAddr] using this
  | @agg a' t b m cs el fz vs h ha hz hm hl hj =>
    simp only [resF, hk.getD h, asAddr, Sem.run_bind, Sem.run_pure, Result.andThen_ok]
    have hb : g'.w.heap[b]? = some (.cells cs el fz) := hs.holds _ hm
    have := run_loadN (P := P) (w := g'.w) (b := b) (o := 0) ha hz hl (fun j v hv => by
      simp only [World.cell?, hb, Option.isSome_none, Bool.false_eq_true, if_false]
      exact hj j v hv)
    simpa [Instr.loadAt, Instr.sureAddr] using this
theorem run_resVs {D a} {g' : GW} (hk : Kn n L D a) (hs : Sat H g') : ∀ {rs : List ResultVar} {vs : List Value}, ResVs P L H rs vs → (rs.mapM (resF a.tmps)).run P g'.w = .ok vs g'.w
  | _, _, .nil => rfl
  | _, _, .cons h t => by
    rw [List.mapM_cons]
    simp only [Sem.run_bind, run_resV h hk hs, Result.andThen_ok, run_resVs hk hs t, Sem.run_pure]
theorem run_results {D a} {g' : GW} {rs : List ResultVar} {vs : List Value} (hr : fn.results = rs.toArray) (hk : Kn n L D a) (hs : Sat H g') (h : ResVs P L H rs vs) : (results fn a.tmps).run P g'.w = .ok (packed vs) g'.w := by
  have e : (results fn a.tmps) = (do let vs ← fn.results.mapM (resF a.tmps); pure (if h : vs.size = 1 then vs[0] else .tuple vs)) := by
    unfold results
    congr 1
  rw [e, hr, List.mapM_toArray]
  simp only [Sem.run_bind, Sem.run_map, run_resVs hk hs h, Result.andThen_ok, Sem.run_pure]
  match vs with
  | [] => rfl
  | [v] => rfl
  | v :: u :: r => rfl
theorem E_retV (H' : List Atom) {rs : List ResultVar} {vs : List Value} (hr : fn.results = rs.toArray) (hb : Le gb g) (hv : ResVs P L H rs vs) (p : Part H (H' ++ [F]) Hr) (h : ∀ g', Le g g' → R (packed vs) g' H') :
    E n .ret g L [] H (RetQ P fn R F gb) :=
  fun a g' hl hk hs => ⟨hk.dfr, packed vs, H', run_results hr hk hs hv, hb.trans hl, h g' hl, (hs.part p).left⟩
end
section
variable {d : Option Nat} {ty : TypeId} {ps : String} {af : Array Edge} {gd : Option (Nat × Bool)} {g : GW} {L : List (Nat × Value)} {H Hr : List Atom}
/-- A whole block is loaded. -/
theorem p_loadW {t x b cs el fz m} (ex : ev L x = some (.pointer (some ⟨b, 0, none⟩))) (ha : ∀ w, (isAgg t).run P w = .ok true w) (hz : ∀ w, (sizeOf t).run P w = .ok m w)
    (hm : blk b (.cells cs el fz) ∈ H) (hs : cs.size = m) : OpP P ⟨d, .load t x, ty, ps, af, gd⟩ g L H (.agg cs) := by
  have := p_loadN (P := P) (d := d) (ty := ty) (ps := ps) (af := af) (gd := gd) (g := g) (L := L) (H := H) (t := t) (x := x) (o := 0) (vs := cs.toList) ex ha hz hm (by simpa using hs) (fun i v h => by simpa using h)
  simpa using this
end
theorem ResV.whole {L : List (Nat × Value)} {H : List Atom} {a t b m : Nat} {cs : Array Value} {el : TypeId} {fz : Nat × Nat} (h : lk L a = some (.pointer (some ⟨b, 0, none⟩))) (ha : ∀ w, (isAgg t).run P w = .ok true w)
    (hz : ∀ w, (sizeOf t).run P w = .ok m w) (hm : blk b (.cells cs el fz) ∈ H) (hs : cs.size = m) : ResV P L H (.cell a t) (.agg cs) := by
  have := ResV.agg (P := P) (L := L) (H := H) (vs := cs.toList) h ha hz hm (by simpa using hs) (fun i v h => by simpa using h)
  simpa using this
/-- Ways that part within x and meet behind y. -/
theorem T_cut2 {ι : Type} {n x y z L D H} {g : GW} {Q : QT} (Inv : ι → GW → Prop) (Lf : ι → List (Nat × Value)) (Hf : ι → List Atom)
    (h : T P n x g L D H (SeqQ P y (CutQ g n D Inv Lf Hf Q))) (k : ∀ i g', Le g g' → Inv i g' → T P n z g' (Lf i) D (Hf i) Q) : T P n (.seq x (.seq y z)) g L D H Q :=
  fun a g' hl hk hs => wp_seq (wp_mono (h a g' hl hk hs) fun e a w ⟨I, q⟩ => by
    cases e with
    | normal =>
      refine wp_seq (wp_mono q fun e a w ⟨I, q⟩ => ?_)
      cases e with
      | normal =>
        obtain ⟨i, hl', hI, hk', hs'⟩ := q
        exact k i ⟨w, I⟩ hl' hI a ⟨w, I⟩ (.refl _) hk' hs'
      | _ => exact ⟨I, q⟩
    | _ => exact ⟨I, q⟩)
/-- Fields of texts and numbers, compared. -/
inductive FE (P : Program) (xs ys : Array Value) : List Field → Bool → Prop
  | nil : FE P xs ys [] true
  | str {f : Field} {fs : List Field} {a b : List UInt8} {r : Bool} (hn : f.name ≠ "_") (ha : ∀ w, (isAgg f.type).run P w = .ok false w) (hu : ∀ w, (underlying f.type).run P w = .ok .string w)
      (hx : xs[f.offset]? = some (str a)) (hy : ys[f.offset]? = some (str b)) (h : FE P xs ys fs r) : FE P xs ys (f :: fs) (decide (a = b) && r)
  | int {f : Field} {fs : List Field} {k k' : IntKind} {a b : Int} {r : Bool} (hn : f.name ≠ "_") (ha : ∀ w, (isAgg f.type).run P w = .ok false w) (hu : ∀ w, (underlying f.type).run P w = .ok (.int k') w)
      (hx : xs[f.offset]? = some (.int k a)) (hy : ys[f.offset]? = some (.int k b)) (h : FE P xs ys fs r) : FE P xs ys (f :: fs) (decide (a = b) && r)
theorem run_FE {xs ys : Array Value} {d : Nat} {fs : List Field} {r : Bool} (h : FE P xs ys fs r) : ∀ w, (Op.eqFields (d + 1) xs ys fs).run P w = .ok r w := by
  induction h with
  | nil => intro w; rfl
  | @str f fs a b r hn ha hu hx hy _ ih =>
    intro w
    unfold Op.eqFields
    rw [if_pos hn]
    have h1 : (part f.type xs f.offset).run P w = .ok (.string (bs a)) w := by
      unfold part; simp only [Sem.run_bind, ha, Result.andThen_ok, Bool.false_eq_true, if_false, hx]; rfl
    have h2 : (part f.type ys f.offset).run P w = .ok (.string (bs b)) w := by
      unfold part; simp only [Sem.run_bind, ha, Result.andThen_ok, Bool.false_eq_true, if_false, hy]; rfl
    simp only [Sem.run_bind, h1, h2, Result.andThen_ok, run_equalIn_string w d f.type _ _ (und_of hu), bs_toList]
    by_cases hab : a = b
    · subst hab
      simp [ih w]
    · have : (a == b) = false := by simpa using hab
      simp [this, hab]
  | @int f fs k k' a b r hn ha hu hx hy _ ih =>
    intro w
    unfold Op.eqFields
    rw [if_pos hn]
    have h1 : (part f.type xs f.offset).run P w = .ok (.int k a) w := by
      unfold part; simp only [Sem.run_bind, ha, Result.andThen_ok, Bool.false_eq_true, if_false, hx]; rfl
    have h2 : (part f.type ys f.offset).run P w = .ok (.int k b) w := by
      unfold part; simp only [Sem.run_bind, ha, Result.andThen_ok, Bool.false_eq_true, if_false, hy]; rfl
    simp only [Sem.run_bind, h1, h2, Result.andThen_ok, run_equalIn_int w d f.type k k' a b (und_of hu)]
    by_cases hab : a = b
    · subst hab
      simp [ih w]
    · have : (a == b) = false := by simpa using hab
      simp [this, hab]
section
variable {d : Option Nat} {ty : TypeId} {ps : String} {af : Array Edge} {gd : Option (Nat × Bool)} {g : GW} {L : List (Nat × Value)} {H Hr : List Atom}
theorem p_neqS {t x y yt xs ys r} {fs : Array Field} (ex : ev L x = some (.agg xs)) (ey : ev L y = some (.agg ys)) (hu : ∀ w, (underlying t).run P w = .ok (.struct fs) w) (hp : P.stoodInHeld t = false)
    (hm : P.eqGuardType P.depth t = false) (h : FE P xs ys fs.toList r) : OpP P ⟨d, .binOp .neq t x y yt, ty, ps, af, gd⟩ g L H (.bool (!r)) :=
  p_bin ex ey fun w => by
    have hf : P.fieldsOf t = fs := by unfold Program.fieldsOf; rw [und_of hu]
    rw [run_bind_ok (run_eqGuard_agg w _ _ _ _ _ _ hm), run_neq_struct, run_equalIn_struct w 9999 t xs ys (by rw [hf]; exact und_of hu) hp, hf]
    rw [run_FE (d := 9998) h w]
    rfl
theorem p_eqlS {t x y yt xs ys r} {fs : Array Field} (ex : ev L x = some (.agg xs)) (ey : ev L y = some (.agg ys)) (hu : ∀ w, (underlying t).run P w = .ok (.struct fs) w) (hp : P.stoodInHeld t = false)
    (hm : P.eqGuardType P.depth t = false) (h : FE P xs ys fs.toList r) : OpP P ⟨d, .binOp .eql t x y yt, ty, ps, af, gd⟩ g L H (.bool r) :=
  p_bin ex ey fun w => by
    have hf : P.fieldsOf t = fs := by unfold Program.fieldsOf; rw [und_of hu]
    rw [run_bind_ok (run_eqGuard_agg w _ _ _ _ _ _ hm), run_eql_struct, run_equalIn_struct w 9999 t xs ys (by rw [hf]; exact und_of hu) hp, hf]
    rw [run_FE (d := 9998) h w]
    rfl
end
section
variable {d : Option Nat} {ty : TypeId} {ps : String} {af : Array Edge} {gd : Option (Nat × Bool)} {g : GW} {L : List (Nat × Value)} {H Hr : List Atom}
theorem p_extractL {x i v} {vs : List Value} (ex : ev L x = some (.tuple vs.toArray)) (hv : vs[i]? = some v) : OpP P ⟨d, .extract x i, ty, ps, af, gd⟩ g L H v :=
  p_extract ex (by simpa using hv)
end
end Go.Hl
namespace Go.Hl
variable {P : Program}
section
variable {α : Type} [DecidableEq α]
/-- The entries of a map, as they came. -/
def mapE (f : α → Value) (l : List (α × Value)) (i : Nat) : List MapEntry :=
  match l with
  | [] => []
  | x :: l => ⟨f x.1, x.2, i⟩ :: mapE f l (i + 1)
def mapO (f : α → Value) (l : List (α × Value)) : Obj := .map (mapE f l 0).toArray l.length
def lookA (a : α) (l : List (α × Value)) : Option Value := (l.find? fun x => decide (x.1 = a)).map (·.2)
def idxA (a : α) : List (α × Value) → Nat → Option (Nat × Value)
  | [], _ => none
  | x :: l, i => if x.1 = a then some (i, x.2) else idxA a l (i + 1)
/-- Keys that the model tells apart as α does. -/
structure KeyT (P : Program) (kt : TypeId) (f : α → Value) : Prop where
  check : ∀ a b w, (Instr.checkKey b 10000 kt (f a)).run P w = .ok () w
  find : ∀ a (l : List (α × Value)) w, (Instr.findKey kt (f a) (mapE f l 0)).run P w = .ok (idxA a l 0) w
theorem idxA_look (a : α) : ∀ (l : List (α × Value)) (i : Nat), (idxA a l i).map (·.2) = lookA a l
  | [], i => rfl
  | x :: l, i => by
    unfold idxA
    by_cases h : x.1 = a
    · rw [if_pos h]; simp [lookA, h]
    · rw [if_neg h, idxA_look a l (i + 1)]; simp [lookA, h]
theorem idxA_none {a : α} : ∀ {l : List (α × Value)} {i : Nat}, lookA a l = none → idxA a l i = none
  | [], i, _ => rfl
  | x :: l, i, h => by
    unfold idxA
    by_cases hx : x.1 = a
    · simp [lookA, hx] at h
    · rw [if_neg hx]
      exact idxA_none (by simpa [lookA, hx] using h)
omit [DecidableEq α] in
theorem mapE_append (f : α → Value) : ∀ (l : List (α × Value)) (x : α × Value) (i : Nat), mapE f (l ++ [x]) i = mapE f l i ++ [⟨f x.1, x.2, i + l.length⟩]
  | [], x, i => rfl
  | y :: l, x, i => by
    rw [List.cons_append, mapE, mapE_append f l x (i + 1), mapE, List.cons_append]
    congr 3
    simp only [List.length_cons]; congr 1; omega
omit [DecidableEq α] in
theorem mapE_length (f : α → Value) : ∀ (l : List (α × Value)) (i : Nat), (mapE f l i).length = l.length
  | [], i => rfl
  | x :: l, i => by rw [mapE, List.length_cons, List.length_cons, mapE_length f l (i + 1)]
theorem lookA_mem {a : α} {l : List (α × Value)} {v : Value} (h : lookA a l = some v) : (a, v) ∈ l := by
  unfold lookA at h
  cases e : l.find? (fun x => decide (x.1 = a)) with
  | none => rw [e] at h; cases h
  | some x =>
    rw [e] at h
    have h1 := List.mem_of_find?_eq_some e
    have h2 := List.find?_some e
    simp only [decide_eq_true_eq] at h2
    simp only [Option.map_some, Option.some.injEq] at h
    rw [← h2, ← h]
    exact h1
theorem lookA_none {a : α} {l : List (α × Value)} (h : ∀ x ∈ l, x.1 ≠ a) : lookA a l = none := by
  unfold lookA
  rw [List.find?_eq_none.2 (fun x hx => by simpa using h x hx)]; rfl
theorem checkKey_str {kt : TypeId} (hk : P.underlying kt = some .string) (b : Bool) (s : ByteArray) (n : Nat) (w : World) : (Instr.checkKey b (n + 1) kt (.string s)).run P w = .ok () w := by
  simp [Instr.checkKey, run_underlying hk]
end
theorem keyStr {kt : TypeId} (hk : P.underlying kt = some .string) : KeyT P kt str where
  check := fun a b w => checkKey_str hk b (bs a) 9999 w
  find := fun a l w => by
    refine Go.MapKept.run_findKey hk ?_
    have : ∀ (l : List (List UInt8 × Value)) (i : Nat), Instr.findNow .string (str a) (mapE str l i) i = some (idxA a l i) := by
      intro l
      induction l with
      | nil => intro i; rfl
      | cons x l ih =>
        intro i
        unfold mapE idxA Instr.findNow
        have hs : Instr.sameNow .string (str a) (str x.1) = some (decide (x.1 = a)) := by
          show some (bs a == bs x.1) = _
          congr 1
          rw [beq_toListBytes, bs_toList, bs_toList, Bool.eq_iff_iff]
          simp only [beq_iff_eq, decide_eq_true_eq]
          exact eq_comm
        rw [hs]
        by_cases hx : x.1 = a
        · simp [hx]
        · simp [hx, ih (i + 1)]
    exact this l 0
section
variable {α : Type} [DecidableEq α] {f : α → Value}
variable {d : Option Nat} {ty : TypeId} {ps : String} {af : Array Edge} {gd : Option (Nat × Bool)} {g : GW} {L : List (Nat × Value)} {H Hr : List Atom}
omit [DecidableEq α] in
theorem e_makeMap {t} (f : α → Value) : Op1 P ⟨d, .makeMap t none, ty, ps, af, gd⟩ g L H (fun r g' H' => ∃ b, r = .map (some b) ∧ H' = blk b (mapO f []) :: H) :=
  Op1.of_run fun a n D hk g' hl hs => by
    obtain ⟨hs', hl'⟩ := hs.alloc (mapO f [])
    refine ⟨_, _, g'.I, _, ?_, hl', hs', _, rfl, rfl⟩
    simp only [execOp, Option.map_none]
    refine run_v ?_
    unfold Instr.makeMap
    rfl
omit [DecidableEq α] in
theorem run_getMap {w : World} {b : Nat} {l : List (α × Value)} (hb : w.heap[b]? = some (mapO f l)) : (getObj b).run P w = .ok (mapO f l) w := Go.MapKept.run_getObj_map hb
/-- m[k] -/
theorem p_lookup {t x ix b kt e z} {a : α} {l : List (α × Value)} (K : KeyT P kt f) (ex : ev L x = some (.map (some b))) (ei : ev L ix = some (f a)) (ht : ∀ w, (underlying t).run P w = .ok (.map kt e) w)
    (hz : ∀ w, (zeroValue e).run P w = .ok z w) (hm : blk b (mapO f l) ∈ H) : OpP P ⟨d, .lookup t x ix false, ty, ps, af, gd⟩ g L H ((lookA a l).getD z) :=
  fun ac n D hk g' hl hs => by
    have hb : g'.w.heap[b]? = some (mapO f l) := hs.holds _ hm
    simp only [execOp, hk.eval ex, hk.eval ei]
    refine run_v ?_
    unfold Instr.lookup
    simp only [Sem.run_bind, ht, Result.andThen_ok, run_getMap hb, mapO, Sem.run_pure, K.check, K.find]
    have hi := idxA_look a l 0
    cases e : idxA a l 0 with
    | none => rw [e] at hi; simp [hz, ← hi]
    | some r => rw [e] at hi; simp [← hi]
theorem p_lookupE {t x ix b kt e z r} {a : α} {l : List (α × Value)} (K : KeyT P kt f) (hr : (lookA a l).getD z = r) (ex : ev L x = some (.map (some b))) (ei : ev L ix = some (f a)) (ht : ∀ w, (underlying t).run P w = .ok (.map kt e) w)
    (hz : ∀ w, (zeroValue e).run P w = .ok z w) (hm : blk b (mapO f l) ∈ H) : OpP P ⟨d, .lookup t x ix false, ty, ps, af, gd⟩ g L H r := by
  subst hr; exact p_lookup K ex ei ht hz hm
/-- v, ok := m[k] -/
theorem p_lookupOk {t x ix b kt e z} {a : α} {l : List (α × Value)} (K : KeyT P kt f) (ex : ev L x = some (.map (some b))) (ei : ev L ix = some (f a)) (ht : ∀ w, (underlying t).run P w = .ok (.map kt e) w)
    (hz : ∀ w, (zeroValue e).run P w = .ok z w) (hm : blk b (mapO f l) ∈ H) : OpP P ⟨d, .lookup t x ix true, ty, ps, af, gd⟩ g L H (.tuple #[(lookA a l).getD z, .bool (lookA a l).isSome]) :=
  fun ac n D hk g' hl hs => by
    have hb : g'.w.heap[b]? = some (mapO f l) := hs.holds _ hm
    simp only [execOp, hk.eval ex, hk.eval ei]
    refine run_v ?_
    unfold Instr.lookup
    simp only [Sem.run_bind, ht, Result.andThen_ok, run_getMap hb, mapO, Sem.run_pure, K.check, K.find]
    have hi := idxA_look a l 0
    cases e : idxA a l 0 with
    | none => rw [e] at hi; simp [hz, ← hi]
    | some r => rw [e] at hi; simp [← hi]
theorem run_mapUpdate_new {w : World} {t kt e b : Nat} {a : α} {l : List (α × Value)} {v : Value} (K : KeyT P kt f) (ht : ∀ w, (underlying t).run P w = .ok (.map kt e) w) (hb : w.heap[b]? = some (mapO f l)) (hn : lookA a l = none) :
    (Instr.mapUpdate t (.map (some b)) (f a) v).run P w = .ok () { w with heap := w.heap.setIfInBounds b (mapO f (l ++ [(a, v)])) } := by
  unfold Instr.mapUpdate
  simp only [Sem.run_bind, ht, Result.andThen_ok, run_getMap hb, mapO, K.check, K.find, idxA_none hn]
  have := Go.MapKept.run_setObj_map (P := P) (w := w) (r := b) (o := mapO f (l ++ [(a, v)])) hb
  have e1 : (Obj.map ((mapE f l 0).toArray.push { key := f a, val := v, born := l.length }) (l.length + 1)) = mapO f (l ++ [(a, v)]) := by
    unfold mapO
    rw [mapE_append, List.length_append]
    simp
  rw [e1]
  exact this
/-- m[k] = v, of a key that is new. -/
theorem e_mapPut {t x ix y b kt e v} {a : α} {l : List (α × Value)} (K : KeyT P kt f) (ex : ev L x = some (.map (some b))) (ei : ev L ix = some (f a)) (ey : ev L y = some v) (ht : ∀ w, (underlying t).run P w = .ok (.map kt e) w)
    (hn : lookA a l = none) (p : Part H [blk b (mapO f l)] Hr) : Op1 P ⟨d, .mapUpdate t x ix y, ty, ps, af, gd⟩ g L H (fun r g' H' => r = undef ∧ H' = blk b (mapO f (l ++ [(a, v)])) :: Hr) :=
  Op1.of_skip fun ac n D hk g' hl hsat => by
    have hb : g'.w.heap[b]? = some (mapO f l) := hsat.head p
    have hlt : b < g'.w.heap.size := (hsat.part p).dom (blk b (mapO f l)) (by simp) b rfl |>.1
    have hw := run_mapUpdate_new (P := P) (v := v) K ht hb hn
    obtain ⟨hs', hl'⟩ := hsat.write p (mapO f (l ++ [(a, v)])) { g'.w with heap := g'.w.heap.setIfInBounds b (mapO f (l ++ [(a, v)])) } rfl rfl (by simp) (by simp [hlt])
      (fun c hc => by simp only [Array.getElem?_setIfInBounds]; rw [if_neg (by omega)])
    refine ⟨_, g'.I, _, ?_, hl', hs', rfl, rfl⟩
    simp only [execOp, hk.eval ex, hk.eval ei, hk.eval ey]
    rw [run_bind_ok hw]
    rfl
end
section
variable {n : Nat} {ops : Array Oper} {bar fuel : Nat} {listed : Array Bool} {gS g : GW} {L : List (Nat × Value)} {D : List Deferred} {Hs H Hr : List Atom} {K : KT} {o : Oper} {i dd : Nat}
/-- Taken first: one that asks nothing of the world. -/
theorem TD_q {v : Value} (hi : ops[i]? = some o) (hg : o.guard = none) (hb : Nat.beq i bar = false) (hs : Region.noSelect ops = true) (hf : Region.free .any ops listed i = true) (hr : (Region.ready .any ops listed).contains i = true)
    (hdst : o.dst = some dd) (hd : Nat.blt dd n = true) (h : ∀ g, OpP P o g L [] v) (k : TD P n ops bar fuel (listed.setIfInBounds i true) gS g ((dd, v) :: L) D Hs H K) : TD P n ops bar (fuel + 1) listed gS g L D Hs H K :=
  fun hS a g' hl hk hsat Q hQ hp =>
    take_ (V := fun _ => True) hi hb hs hf hr hp (.inl fun _ => trivial)
      (.inl ⟨by simp [Region.wanted, hg], fun w _ => h ⟨w, fun _ => False⟩ a n D hk ⟨w, fun _ => False⟩ (.refl _) ⟨fun _ h => h.elim, by simp, by simp, .nil⟩⟩) trivial
      (fun _ => sw_of hS hl hsat) (k hS _ g' hl (by rw [hdst]; exact hk.put dd v hd) hsat Q hQ hp)
end
section
variable {d : Option Nat} {ty : TypeId} {ps : String} {af : Array Edge} {gd : Option (Nat × Bool)} {g : GW} {L : List (Nat × Value)} {H Hr : List Atom}
theorem ep_sl {v : Value} {n b sz k : Nat} (hs : Shp v n) (hn : 0 < n) : ep (sl v 0 b sz) k = ep v k := by
  obtain ⟨bl, o, cap, hc, rfl⟩ := hs.pos hn
  rw [sl_some]
  simp [ep]
/-- Load out of the front of a row of the code's own. -/
theorem p_ldSl {t x sz e xs u} {v : Value} {n b s k : Nat} (hs : Shp v n) (hn : 0 < n) (ex : ev L x = some (ep (sl v 0 b s) k)) (ha : ∀ w, (isAgg t).run P w = .ok false w) (hm : own v sz e xs ∈ H) (hk' : xs[k]? = some u) :
    OpP P ⟨d, .load t x, ty, ps, af, gd⟩ g L H u := p_ldOwn (by rw [ex, ep_sl hs hn]) ha hm hk'
end
end Go.Hl
namespace Go.Hl
variable {P : Program}
/-- A block that no one writes, of plain cells: that of an error. -/
def EP (g : GW) (b : Nat) : Prop := g.I b ∧ ∃ c t, g.w.heap[b]? = some (.cells c t (0, 0))
theorem EP.mono {g g' : GW} {b : Nat} (h : EP g b) (hl : Le g g') : EP g' b :=
  ⟨hl.sub _ h.1, by obtain ⟨c, t, e⟩ := h.2; exact ⟨c, t, (hl.same _ h.1).trans e⟩⟩
section
variable {d : Option Nat} {ty : TypeId} {ps : String} {af : Array Edge} {gd : Option (Nat × Bool)} {g : GW} {L : List (Nat × Value)} {H : List Atom}
theorem p_cmp {op t x y yt va vb} {r : Bool} (ho : op = .eql ∨ op = .neq) (ex : ev L x = some va) (ey : ev L y = some vb) (hg : ∀ w, (eqGuard op t x y va vb).run P w = .ok () w)
    (hb : binOp .eql t va vb = (do pure (.bool (← Op.equal t va vb)) : Sem Value)) (hb' : binOp .neq t va vb = (do pure (.bool (!(← Op.equal t va vb))) : Sem Value))
    (h : ∀ g', Le g g' → Sat H g' → ∀ d, (Op.equalIn (d + 2) t va vb).run P g'.w = .ok r g'.w) :
    OpP P ⟨d, .binOp op t x y yt, ty, ps, af, gd⟩ g L H (.bool (if op = .eql then r else !r)) :=
  fun a n D hk g' hl hs => by
    simp only [execOp, hk.eval ex, hk.eval ey]
    refine run_v ?_
    rw [run_bind_ok (hg g'.w)]
    have h0 := h g' hl hs 9998
    rcases ho with rfl | rfl
    · rw [hb]; simp [Op.equal, Op.maxDepth, h0]
    · rw [hb']; simp [Op.equal, Op.maxDepth, h0]
theorem p_eqlNN {t x yt ms} (ex : ev L x = some .nilIface) (hu : P.underlying t = some (.interface ms)) : OpP P ⟨d, .binOp .eql t x (.const .nilIface) yt, ty, ps, af, gd⟩ g L H (.bool true) :=
  p_cmp (va := .nilIface) (vb := .nilIface) (r := true) (.inl rfl) ex rfl (fun w => by simp [eqGuard]) rfl rfl (fun g' _ _ d => by simp [Op.equalIn, run_underlying hu])
theorem p_neqNN {t x yt ms} (ex : ev L x = some .nilIface) (hu : P.underlying t = some (.interface ms)) : OpP P ⟨d, .binOp .neq t x (.const .nilIface) yt, ty, ps, af, gd⟩ g L H (.bool false) :=
  p_cmp (va := .nilIface) (vb := .nilIface) (r := true) (.inr rfl) ex rfl (fun w => by simp [eqGuard]) rfl rfl (fun g' _ _ d => by simp [Op.equalIn, run_underlying hu])
theorem p_eqlIN {t x y yt ms u v} (ex : ev L x = some (.iface u v)) (ey : ev L y = some .nilIface) (hu : P.underlying t = some (.interface ms)) : OpP P ⟨d, .binOp .eql t x y yt, ty, ps, af, gd⟩ g L H (.bool false) :=
  p_cmp (r := false) (.inl rfl) ex ey (fun w => by simp [eqGuard]) rfl rfl (fun g' _ _ d => by simp [Op.equalIn, run_underlying hu])
theorem p_neqIN {t x y yt ms u v} (ex : ev L x = some (.iface u v)) (ey : ev L y = some .nilIface) (hu : P.underlying t = some (.interface ms)) : OpP P ⟨d, .binOp .neq t x y yt, ty, ps, af, gd⟩ g L H (.bool true) :=
  p_cmp (r := false) (.inr rfl) ex ey (fun w => by simp [eqGuard]) rfl rfl (fun g' _ _ d => by simp [Op.equalIn, run_underlying hu])
theorem p_eqlNI {t x y yt ms u v} (ex : ev L x = some .nilIface) (ey : ev L y = some (.iface u v)) (hu : P.underlying t = some (.interface ms)) : OpP P ⟨d, .binOp .eql t x y yt, ty, ps, af, gd⟩ g L H (.bool false) :=
  p_cmp (r := false) (.inl rfl) ex ey (fun w => by simp [eqGuard]) rfl rfl (fun g' _ _ d => by simp [Op.equalIn, run_underlying hu])
theorem p_neqNI {t x y yt ms u v} (ex : ev L x = some .nilIface) (ey : ev L y = some (.iface u v)) (hu : P.underlying t = some (.interface ms)) : OpP P ⟨d, .binOp .neq t x y yt, ty, ps, af, gd⟩ g L H (.bool true) :=
  p_cmp (r := false) (.inr rfl) ex ey (fun w => by simp [eqGuard]) rfl rfl (fun g' _ _ d => by simp [Op.equalIn, run_underlying hu])
theorem p_eqlPN {t x y yt e} {p : Addr} (ex : ev L x = some (.pointer (some p))) (ey : ev L y = some (.pointer none)) (hu : P.underlying t = some (.pointer e)) : OpP P ⟨d, .binOp .eql t x y yt, ty, ps, af, gd⟩ g L H (.bool false) :=
  p_cmp (r := false) (.inl rfl) ex ey (fun w => by simp [eqGuard]) rfl rfl (fun g' _ _ d => by simp [Op.equalIn, run_underlying hu])
theorem p_neqPN {t x y yt e} {p : Addr} (ex : ev L x = some (.pointer (some p))) (ey : ev L y = some (.pointer none)) (hu : P.underlying t = some (.pointer e)) : OpP P ⟨d, .binOp .neq t x y yt, ty, ps, af, gd⟩ g L H (.bool true) :=
  p_cmp (r := false) (.inr rfl) ex ey (fun w => by simp [eqGuard]) rfl rfl (fun g' _ _ d => by simp [Op.equalIn, run_underlying hu])
theorem p_eqlP0 {t x y yt e} (ex : ev L x = some (.pointer none)) (ey : ev L y = some (.pointer none)) (hu : P.underlying t = some (.pointer e)) : OpP P ⟨d, .binOp .eql t x y yt, ty, ps, af, gd⟩ g L H (.bool true) :=
  p_cmp (r := true) (.inl rfl) ex ey (fun w => by simp [eqGuard]) rfl rfl (fun g' _ _ d => by simp [Op.equalIn, run_underlying hu])
theorem p_neqP0 {t x y yt e} (ex : ev L x = some (.pointer none)) (ey : ev L y = some (.pointer none)) (hu : P.underlying t = some (.pointer e)) : OpP P ⟨d, .binOp .neq t x y yt, ty, ps, af, gd⟩ g L H (.bool false) :=
  p_cmp (r := true) (.inr rfl) ex ey (fun w => by simp [eqGuard]) rfl rfl (fun g' _ _ d => by simp [Op.equalIn, run_underlying hu])
theorem p_eqlSN {t x y yt e} {p : Addr} {n c : Nat} (ex : ev L x = some (.slice (some p) n c)) (ey : ev L y = some (.slice none 0 0)) (hu : P.underlying t = some (.slice e)) : OpP P ⟨d, .binOp .eql t x y yt, ty, ps, af, gd⟩ g L H (.bool false) :=
  p_cmp (r := false) (.inl rfl) ex ey (fun w => by simp [eqGuard]) rfl rfl (fun g' _ _ d => by simp [Op.equalIn, run_underlying hu])
theorem p_neqSN {t x y yt e} {p : Addr} {n c : Nat} (ex : ev L x = some (.slice (some p) n c)) (ey : ev L y = some (.slice none 0 0)) (hu : P.underlying t = some (.slice e)) : OpP P ⟨d, .binOp .neq t x y yt, ty, ps, af, gd⟩ g L H (.bool true) :=
  p_cmp (r := false) (.inr rfl) ex ey (fun w => by simp [eqGuard]) rfl rfl (fun g' _ _ d => by simp [Op.equalIn, run_underlying hu])
theorem p_eqlS0 {t x y yt e} {n c : Nat} (ex : ev L x = some (.slice none n c)) (ey : ev L y = some (.slice none 0 0)) (hu : P.underlying t = some (.slice e)) : OpP P ⟨d, .binOp .eql t x y yt, ty, ps, af, gd⟩ g L H (.bool true) :=
  p_cmp (r := true) (.inl rfl) ex ey (fun w => by simp [eqGuard]) rfl rfl (fun g' _ _ d => by simp [Op.equalIn, run_underlying hu])
theorem p_neqS0 {t x y yt e} {n c : Nat} (ex : ev L x = some (.slice none n c)) (ey : ev L y = some (.slice none 0 0)) (hu : P.underlying t = some (.slice e)) : OpP P ⟨d, .binOp .neq t x y yt, ty, ps, af, gd⟩ g L H (.bool false) :=
  p_cmp (r := true) (.inr rfl) ex ey (fun w => by simp [eqGuard]) rfl rfl (fun g' _ _ d => by simp [Op.equalIn, run_underlying hu])
/-- Two errors, by their places. -/
theorem run_equalIn_EP {t ti te : TypeId} {ms} {i j : TypeInfo} (hu : P.underlying ti = some (.interface ms)) (hp : P.underlying t = some (.pointer te)) (hi : P.info? t = some i) (hc : i.comparable = true) (hj : P.info? te = some j) (hz : j.size ≠ 0)
    {g' : GW} {p q : Nat × Nat} (h1 : EP g' p.1) (h2 : EP g' q.1) (k : Nat) :
    (Op.equalIn (k + 2) ti (.iface t (.pointer (some ⟨p.1, p.2, none⟩))) (.iface t (.pointer (some ⟨q.1, q.2, none⟩)))).run P g'.w = .ok (decide (p = q)) g'.w := by
  by_cases hpq : p = q
  · subst hpq
    simp only [decide_true]
    exact run_equalIn_iface_ptr_same g'.w k _ hu hp hi hc hj
  · obtain ⟨_, ca, ta, ha⟩ := h1
    obtain ⟨_, cb, tb, hb⟩ := h2
    have := run_equalIn_iface_ptr_other g'.w k (a := ⟨p.1, p.2, none⟩) (b := ⟨q.1, q.2, none⟩) hu hp hi hc hj hz (fun e => hpq (by cases p; cases q; simp at e; simp [e])) ha hb
    rw [this]; simp [hpq]
theorem p_eqlEE {t ti te x y yt ms} {i j : TypeInfo} {p q : Nat × Nat} (ex : ev L x = some (.iface t (.pointer (some ⟨p.1, p.2, none⟩)))) (ey : ev L y = some (.iface t (.pointer (some ⟨q.1, q.2, none⟩))))
    (hu : P.underlying ti = some (.interface ms)) (hp : P.underlying t = some (.pointer te)) (hi : P.info? t = some i) (hc : i.comparable = true) (hj : P.info? te = some j) (hz : j.size ≠ 0) (h1 : EP g p.1) (h2 : EP g q.1) :
    OpP P ⟨d, .binOp .eql ti x y yt, ty, ps, af, gd⟩ g L H (.bool (decide (p = q))) :=
  p_cmp (.inl rfl) ex ey (fun w => by simp [eqGuard]) rfl rfl (fun g' hl _ k => run_equalIn_EP hu hp hi hc hj hz (h1.mono hl) (h2.mono hl) k)
theorem p_neqEE {t ti te x y yt ms} {i j : TypeInfo} {p q : Nat × Nat} (ex : ev L x = some (.iface t (.pointer (some ⟨p.1, p.2, none⟩)))) (ey : ev L y = some (.iface t (.pointer (some ⟨q.1, q.2, none⟩))))
    (hu : P.underlying ti = some (.interface ms)) (hp : P.underlying t = some (.pointer te)) (hi : P.info? t = some i) (hc : i.comparable = true) (hj : P.info? te = some j) (hz : j.size ≠ 0) (h1 : EP g p.1) (h2 : EP g q.1) :
    OpP P ⟨d, .binOp .neq ti x y yt, ty, ps, af, gd⟩ g L H (.bool (!decide (p = q))) :=
  p_cmp (.inr rfl) ex ey (fun w => by simp [eqGuard]) rfl rfl (fun g' hl _ k => run_equalIn_EP hu hp hi hc hj hz (h1.mono hl) (h2.mono hl) k)
theorem p_assert {x v xt a ok r} (ex : ev L x = some v) (h : ∀ w, (Instr.typeAssert v xt a ok).run P w = .ok r w) : OpP P ⟨d, .typeAssert x xt a ok, ty, ps, af, gd⟩ g L H r :=
  fun ac n D hk g' hl hs => by
    simp only [execOp, hk.eval ex]
    exact run_v (h g'.w)
/-- It has the methods that are asked for. -/
theorem p_assertI {x v u xt a} (ex : ev L x = some (.iface u v)) (h : ∀ w, (Instr.typeAssert (.iface u v) xt a true).run P w = .ok (.tuple #[.iface u v, .bool true]) w) :
    OpP P ⟨d, .typeAssert x xt a true, ty, ps, af, gd⟩ g L H (.tuple #[.iface u v, .bool true]) := p_assert ex h
theorem p_assertN {x v u xt a} (ex : ev L x = some (.iface u v)) (h : ∀ w, (Instr.typeAssert (.iface u v) xt a true).run P w = .ok (.tuple #[.nilIface, .bool false]) w) :
    OpP P ⟨d, .typeAssert x xt a true, ty, ps, af, gd⟩ g L H (.tuple #[.nilIface, .bool false]) := p_assert ex h
theorem p_assertV {x v u xt a} (ex : ev L x = some (.iface u v)) (h : ∀ w, (Instr.typeAssert (.iface u v) xt a true).run P w = .ok (.tuple #[v, .bool true]) w) :
    OpP P ⟨d, .typeAssert x xt a true, ty, ps, af, gd⟩ g L H (.tuple #[v, .bool true]) := p_assert ex h
theorem p_assertP {x v u xt a} (ex : ev L x = some (.iface u v)) (h : ∀ w, (Instr.typeAssert (.iface u v) xt a true).run P w = .ok (.tuple #[.pointer none, .bool false]) w) :
    OpP P ⟨d, .typeAssert x xt a true, ty, ps, af, gd⟩ g L H (.tuple #[.pointer none, .bool false]) := p_assert ex h
theorem p_makeFunc {fn first captured fs cs} (ef : evs L first = some fs) (ec : evs L captured = some cs) : OpP P ⟨d, .makeFunc fn first.toArray captured.toArray, ty, ps, af, gd⟩ g L H (.func fn fs.toArray cs.toArray) :=
  fun a n D hk g' hl hs => by
    simp only [execOp, Instr.makeFunc, List.map_toArray, hk.evals ef, hk.evals ec]
    rfl
end
/-! ### Calls that are put off -/
def put (f : FuncId) (vs : List Value) : Deferred := ⟨.fn (.func f) #[], vs.toArray⟩
theorem TL_defer {n : Nat} {ops : Array Oper} {l : List Oper} {g : GW} {L : List (Nat × Value)} {D : List Deferred} {H : List Atom} {K : KT} {ty : TypeId} {ps : String} {af : Array Edge} {f xs at_ vs}
    (e : evs L xs = some vs) (k : TL P n ops l g L (put f vs :: D) H K) :
    TL P n ops (⟨none, .defer ⟨.value (.func f), xs.toArray, at_⟩, ty, ps, af, none⟩ :: l) g L D H K :=
  fun a g' hl hk hs Q hQ => wpList_plain rfl fun K' hK => by
    have hv := hk.evals e
    have hr : (execOp a.eval ⟨none, .defer ⟨.value (.func f), xs.toArray, at_⟩, ty, ps, af, none⟩).run P g'.w = .ok (.defer (put f vs)) g'.w := by
      simp only [execOp, resolve, Sem.run_bind, Act.eval, Deferred.ofValue, Sem.run_pure, Result.andThen_ok, List.map_toArray, hv, put]
      simp
    unfold Oper.wp
    rw [hr, Oper.upon_defer]
    exact hK _ _ (k ({ a with defers := put f vs :: a.defers }.put none undef) g' hl ⟨hk.size, hk.look, by simp [hk.dfr, Act.put]⟩ hs Q hQ)
/-- The contract of a call that was put off, at the end of a function that does not panic. -/
def CtD (P : Program) (g : GW) (f : FuncId) (args : List Value) (H : List Atom) (R : GW → List Atom → Prop) : Prop :=
  (∃ fn, P.funcs[f]? = some fn ∧ fn.body.isNone = false ∧ (fn.name == "runtime.NumGoroutine") = false) ∧
  ∀ (F : Atom) g', Le g g' → Sat (H ++ [F]) g' → CallsD P f args.toArray .returning g'.w
    (fun e u w' => u = .returning ∧ ∃ v I H', e = .returned v ∧ Le g' ⟨w', I⟩ ∧ R ⟨w', I⟩ H' ∧ Sat (H' ++ [F]) ⟨w', I⟩)
theorem CtD_intro {g f args H} {R : GW → List Atom → Prop} {fn : Func} {c : Code} {n : Nat} (hf : P.funcs[f]? = some fn) (hb : fn.body = some c) (hn : (fn.name == "runtime.NumGoroutine") = false) (hnt : fn.ntmps = n) (ha : Nat.ble args.length n = true)
    (h : ∀ F g', Le g g' → T P n c g' (slots 0 args) [] (H ++ [F]) (RetQ P fn (fun _ g H' => R g H') F g')) : CtD P g f args H R := by
  subst hnt
  refine ⟨⟨fn, hf, by simp [hb], hn⟩, fun F g' hl hs => ?_⟩
  refine (callsD_of_wp (R := fun e w' => ∃ v I H', e = .returned v ∧ Le g' ⟨w', I⟩ ∧ R ⟨w', I⟩ H' ∧ Sat (H' ++ [F]) ⟨w', I⟩) hf hb ?_)
  refine wp_mono (h F g' hl _ g' (.refl _) (Kn.start _ _ (Nat.le_of_ble_eq_true ha)) hs) fun e a w ⟨I, q⟩ => ?_
  cases e with
  | normal =>
    obtain ⟨hd, v, H', hr, hl', hR, hs'⟩ := q
    exact ⟨hd, v, hr, v, I, H', rfl, hl', hR, hs'⟩
  | ret =>
    obtain ⟨hd, v, H', hr, hl', hR, hs'⟩ := q
    exact ⟨hd, v, hr, v, I, H', rfl, hl', hR, hs'⟩
  | _ => exact q.elim
/-- What the end of a body owes where calls were put off. -/
def RetQD (P : Program) (fn : Func) (R : Value → GW → List Atom → Prop) (F : Atom) (gb : GW) : QT
  | .normal, a, g | .ret, a, g => Leaves P fn a.tmps (fun e w' => ∃ v I H', e = .returned v ∧ Le gb ⟨w', I⟩ ∧ R v ⟨w', I⟩ H' ∧ Sat (H' ++ [F]) ⟨w', I⟩) a.defers .returning g.w
  | _, _, _ => False
theorem Ct_introD {g f args H R} {fn : Func} {c : Code} {n : Nat} (hf : P.funcs[f]? = some fn) (hb : fn.body = some c) (hn : (fn.name == "runtime.NumGoroutine") = false) (hnt : fn.ntmps = n) (ha : Nat.ble args.length n = true)
    (h : ∀ F g', Le g g' → T P n c g' (slots 0 args) [] (H ++ [F]) (RetQD P fn R F g')) : Ct P g f args H R := by
  subst hnt
  refine ⟨⟨fn, hf, by simp [hb], hn⟩, fun F g' hl hs => ?_⟩
  refine calls_of_wp_defers hf hb ?_
  refine wp_mono (h F g' hl _ g' (.refl _) (Kn.start _ _ (Nat.le_of_ble_eq_true ha)) hs) fun e a w ⟨I, q⟩ => ?_
  cases e with
  | normal => exact q
  | ret => exact q
  | _ => exact q.elim
section
variable {n : Nat} {fn : Func} {R : Value → GW → List Atom → Prop} {F : Atom} {gb g : GW} {L : List (Nat × Value)} {D : List Deferred} {H Hr : List Atom}
theorem E_pop {f vs Hp} {R' : GW → List Atom → Prop} (h : CtD P g f vs Hp R') (p : Part H Hp Hr) (k : ∀ g' H', Le g g' → R' g' H' → E n .ret g' L D (H' ++ Hr) (RetQD P fn R F gb)) :
    E n .ret g L (put f vs :: D) H (RetQD P fn R F gb) := by
  intro a g' hl hk hs
  obtain ⟨⟨fn', hfn, hb, hnm⟩, hc⟩ := h
  show Leaves P fn a.tmps _ a.defers .returning g'.w
  rw [hk.dfr]
  refine leaves_cons (f := f) (args := vs.toArray) (by simp) ?_ ((hc (many Hr) g' hl (hs.part p).fold).mono ?_)
  · have : (invoke (.fn (.func f) #[]) vs.toArray).run P g'.w = (callFunc f (vs.toArray ++ #[])).run P g'.w := rfl
    rw [this]
    unfold callFunc
    simp only [program, Sem.run_bind, Sem.run, Result.andThen_ok, hfn, hnm, hb, Bool.false_eq_true, if_false, Sem.run_pure, Array.append_empty]
  · rintro e u w' ⟨rfl, v, I, H', rfl, hl', hR, hs'⟩
    exact k ⟨w', I⟩ H' (hl.trans hl') hR { a with defers := D } ⟨w', I⟩ (.refl _) ⟨hk.size, hk.look, rfl⟩ hs'.unfold
theorem E_retVD (H' : List Atom) {rs : List ResultVar} {vs : List Value} (hr : fn.results = rs.toArray) (hb : Le gb g) (hv : ResVs P L H rs vs) (p : Part H (H' ++ [F]) Hr) (h : ∀ g', Le g g' → R (packed vs) g' H') :
    E n .ret g L [] H (RetQD P fn R F gb) :=
  fun a g' hl hk hs => by
    show Leaves P fn a.tmps _ a.defers .returning g'.w
    rw [hk.dfr]
    exact ⟨packed vs, run_results hr hk hs hv, packed vs, g'.I, H', rfl, hb.trans hl, h g' hl, (hs.part p).left⟩
end
end Go.Hl
namespace Go.Hl
variable {P : Program}
/-- v is a window of m bytes in what A tells: A xs where the window holds xs. -/
structure Bf (v : Value) (m : Nat) (A : List UInt8 → Atom) : Prop where
  shp : Shp v m
  dom : ∀ xs ys, (A xs).dom = (A ys).dom
  at_ : ∀ xs w, xs.length = m → 0 < m → (A xs).holds w → ∃ b o cap c e fz, v = .slice (some ⟨b, o, none⟩) m cap ∧ m ≤ cap ∧ (A xs).dom b ∧ w.heap[b]? = some (.cells c e fz) ∧ o + m ≤ c.size ∧
    (∀ j u, xs[j]? = some u → c[o + j]? = some (bv u)) ∧ (∀ k, o ≤ k → k < o + m → ¬ (fz.1 ≤ k ∧ k < fz.2)) ∧
    ∀ ys w', ys.length = m → w'.heap[b]? = some (.cells (setR c o (bvs ys)) e fz) → (∀ k, k ≠ b → w'.heap[k]? = w.heap[k]?) → (A ys).holds w'
theorem bvs_take (l : List UInt8) (n : Nat) : bvs (l.take n) = (bvs l).take n := by simp [bvs, List.map_take]
theorem bvs_drop (l : List UInt8) (n : Nat) : bvs (l.drop n) = (bvs l).drop n := by simp [bvs, List.map_drop]
theorem bvs_getI {l : List UInt8} {k : Nat} {v : Value} (h : (bvs l)[k]? = some v) : ∃ c, l[k]? = some c ∧ v = bv c := by
  simp only [bvs, List.getElem?_map] at h
  cases e : l[k]? with
  | none => rw [e] at h; cases h
  | some c => rw [e] at h; simp at h; exact ⟨c, rfl, h.symm⟩
theorem Bf.own {q : Value} {n : Nat} (e : TypeId) (hs : Shp q n) : Bf q n (fun xs => Hl.own q 1 e (bvs xs)) where
  shp := hs
  dom := fun _ _ => rfl
  at_ := fun xs w hl h0 hh => by
    obtain ⟨b, o, cap, hc, rfl⟩ := hs.pos h0
    obtain ⟨_, _, _, c, fz, hb, hcs, hx, hf⟩ := hh
    simp only [] at hb hcs hx hf
    rw [Nat.mul_one] at hcs
    refine ⟨b, o, cap, c, e, fz, rfl, hc, rfl, hb, by omega, fun j u hj => hx j _ (bvs_get hj), fun k h1 h2 => hf k (by omega), fun ys w' hy hw _ => ?_⟩
    refine own_mk hw (by rw [bvs_length, hy]; omega) hc (by rw [size_setR]; omega) (fun j u hj => ?_) (fun k hk => hf k hk)
    rw [setR_get _ _ _ _ (by rw [bvs_length]; omega)]
    have hj' := (List.getElem?_eq_some_iff.1 hj).1
    rw [if_pos ⟨by omega, by omega⟩, Nat.add_sub_cancel_left]
    exact hj
/-- An array of bytes within a block. -/
theorem Bf.arr {b o m cap : Nat} {e : TypeId} (c : List UInt8 → Array Value) (hc : m ≤ cap) (hsz : ∀ xs, xs.length = m → o + m ≤ (c xs).size) (hget : ∀ xs, xs.length = m → ∀ j u, xs[j]? = some u → (c xs)[o + j]? = some (bv u))
    (hset : ∀ xs ys, xs.length = m → ys.length = m → setR (c xs) o (bvs ys) = c ys) : Bf (.slice (some ⟨b, o, none⟩) m cap) m (fun xs => blk b (.cells (c xs) e)) where
  shp := .some b o m cap hc
  dom := fun _ _ => rfl
  at_ := fun xs w hl h0 hh => ⟨b, o, cap, c xs, e, (0, 0), rfl, hc, rfl, hh, hsz xs hl, hget xs hl, fun k _ _ h => by simp at h, fun ys w' hy hw _ => by rw [hset xs ys hl hy] at hw; exact hw⟩
theorem part_len {xs ys : List UInt8} {m c d : Nat} (hx : xs.length = m) (hcd : c ≤ d) (hd : d ≤ m) (hy : ys.length = d - c) : (xs.take c ++ ys ++ xs.drop d).length = m := by
  simp only [List.length_append, List.length_take, List.length_drop]; omega
theorem part_mid {xs ys : List UInt8} {m c d : Nat} (hx : xs.length = m) (hcd : c ≤ d) (hd : d ≤ m) (hy : ys.length = d - c) {j : Nat} (hj : j < d - c) : (xs.take c ++ ys ++ xs.drop d)[c + j]? = ys[j]? := by
  have hl : (xs.take c).length = c := by rw [List.length_take]; omega
  rw [List.append_assoc, List.getElem?_append_right (by omega), hl, Nat.add_sub_cancel_left, List.getElem?_append_left (by omega)]
theorem part_lo {xs ys zs : List UInt8} {m c d : Nat} (hx : xs.length = m) (hcd : c ≤ d) (hd : d ≤ m) (hy : ys.length = d - c) (hz : zs.length = d - c) {j : Nat} (hj : j < c ∨ d ≤ j) : (xs.take c ++ ys ++ xs.drop d)[j]? = (xs.take c ++ zs ++ xs.drop d)[j]? := by
  have hl : (xs.take c).length = c := by rw [List.length_take]; omega
  rcases hj with hj | hj
  · rw [List.append_assoc, List.append_assoc, List.getElem?_append_left (by omega), List.getElem?_append_left (by omega)]
  · rw [List.getElem?_append_right (by rw [List.length_append]; omega), List.getElem?_append_right (by rw [List.length_append]; omega)]
    simp only [List.length_append]
    rw [hy, hz]
theorem parts (xs : List UInt8) (c d : Nat) (hcd : c ≤ d) : xs.take c ++ (xs.drop c).take (d - c) ++ xs.drop d = xs := by
  have h : xs.drop d = (xs.drop c).drop (d - c) := by rw [List.drop_drop]; congr 1; omega
  rw [h, List.append_assoc, List.take_append_drop, List.take_append_drop]
theorem Bf.sub {v : Value} {m : Nat} {A : List UInt8 → Atom} (h : Bf v m A) {xs : List UInt8} (hx : xs.length = m) {c d : Nat} (hcd : c ≤ d) (hd : d ≤ m) :
    Bf (sl v c d 1) (d - c) (fun ys => A (xs.take c ++ ys ++ xs.drop d)) where
  shp := h.shp.sl hcd hd
  dom := fun _ _ => h.dom _ _
  at_ := fun ys w hy h0 hh => by
    obtain ⟨b, o, cap, c0, e, fz, rfl, hcap, hdom, hb, hsz, hget, hfz, hset⟩ := h.at_ _ w (part_len hx hcd hd hy) (by omega) hh
    refine ⟨b, o + c, cap - c, c0, e, fz, ?_, by omega, hdom, hb, by omega, fun j u hj => ?_, fun k h1 h2 => hfz k (by omega) (by omega), fun zs w' hz hw hoth => ?_⟩
    · rw [sl_some, if_neg (by omega), Nat.mul_one]
    · have hj' := (List.getElem?_eq_some_iff.1 hj).1
      rw [Nat.add_assoc]
      exact hget (c + j) u (by rw [part_mid hx hcd hd hy (by omega)]; exact hj)
    · refine hset _ w' (part_len hx hcd hd hz) ?_ hoth
      rw [hw]
      congr 2
      apply Array.ext_getElem?
      intro i
      rw [setR_get _ _ _ _ (by rw [bvs_length]; omega), setR_get _ _ _ _ (by rw [bvs_length, part_len hx hcd hd hz]; omega)]
      rw [bvs_length, bvs_length, part_len hx hcd hd hz]
      by_cases h1 : o + c ≤ i ∧ i < o + c + zs.length
      · rw [if_pos h1, if_pos ⟨by omega, by omega⟩]
        have e1 : i - o = c + (i - (o + c)) := by omega
        simp only [bvs, List.getElem?_map]
        rw [e1, part_mid hx hcd hd hz (by omega)]
      · rw [if_neg h1]
        by_cases h2 : o ≤ i ∧ i < o + m
        · rw [if_pos h2]
          have hlt : i - o < (xs.take c ++ ys ++ xs.drop d).length := by rw [part_len hx hcd hd hy]; omega
          have hg := hget (i - o) _ (List.getElem?_eq_getElem hlt)
          have e1 : o + (i - o) = i := by omega
          rw [e1] at hg
          rw [hg]
          simp only [bvs, List.getElem?_map]
          rw [part_lo hx hcd hd hz hy (by omega), List.getElem?_eq_getElem hlt]
          rfl
        · rw [if_neg h2]
section
variable {dd : Option Nat} {ty : TypeId} {ps : String} {af : Array Edge} {gd : Option (Nat × Bool)} {g : GW} {L : List (Nat × Value)} {H Hr : List Atom}
theorem src_bf {v : Value} {m : Nat} {A : List UInt8 → Atom} {xs : List UInt8} (h : Bf v m A) (hx : xs.length = m) (hm : A xs ∈ H) : Src P g H v 1 m (bvs xs) := by
  refine ⟨fun w => ?_, by rw [bvs_length]; omega, fun g' hl hs k hk => ?_⟩
  · rcases h.shp with ⟨p0, cap, rfl, rfl, _⟩ | ⟨b, o, cap, hc, rfl⟩ <;> rfl
  · by_cases h0 : 0 < m
    · obtain ⟨b, o, cap, c, e, fz, rfl, hcap, hdom, hb, hsz, hget, hfz, hset⟩ := h.at_ xs g'.w hx h0 (hs.holds _ hm)
      refine firstCells_some hk fun j u hj => ?_
      obtain ⟨c', hc', rfl⟩ := bvs_getI hj
      simp only [World.cell?, hb, Option.isSome_none, Bool.false_eq_true, if_false]
      exact hget j c' hc'
    · obtain rfl : m = 0 := by omega
      obtain rfl : xs = [] := List.eq_nil_of_length_eq_zero hx
      obtain rfl : k = 0 := by simpa [bvs] using hk
      rcases h.shp with ⟨p0, cap, rfl, _, _⟩ | ⟨b, o, cap, hc, rfl⟩
      · exact (src_nilP (P := P) (g := g) (H := H) (sz := 1)).2.2 g' hl hs 0 (by simp)
      · exact firstCells_some (by simp [bvs]) (fun j u hj => by simp [bvs] at hj)
theorem src_bfSl {v : Value} {m a b n : Nat} {A : List UInt8 → Atom} {xs : List UInt8} (h : Bf v m A) (hx : xs.length = m) (hm : A xs ∈ H) (hab : a ≤ b) (hb : b ≤ m) (hn : b - a = n) : Src P g H (sl v a b 1) 1 n (bvs ((xs.drop a).take n)) := by
  subst hn
  refine src_bf (h.sub hx hab hb) (by rw [List.length_take, List.length_drop]; omega) ?_
  rw [parts xs a b hab]; exact hm
theorem p_ldBf {t x} {v : Value} {m j : Nat} {A : List UInt8 → Atom} {xs : List UInt8} {u : UInt8} (h : Bf v m A) (hx : xs.length = m) (ex : ev L x = some (ep v (j * 1))) (ha : ∀ w, (isAgg t).run P w = .ok false w) (hm : A xs ∈ H) (hj : xs[j]? = some u) :
    OpP P ⟨dd, .load t x, ty, ps, af, gd⟩ g L H (bv u) :=
  fun a n D hk g' hl hs => by
    have hlt := (List.getElem?_eq_some_iff.1 hj).1
    obtain ⟨b, o, cap, c, e, fz, rfl, hcap, hdom, hb, hsz, hget, hfz, hset⟩ := h.at_ xs g'.w hx (by omega) (hs.holds _ hm)
    have ex' : ev L x = some (.pointer (some ⟨b, o + j, none⟩)) := by rw [ex, Nat.mul_one]; rfl
    simp only [execOp, hk.eval ex']
    refine run_v (run_load_cell ha ?_)
    simp only [World.cell?, hb, Option.isSome_none, Bool.false_eq_true, if_false]
    exact hget j u hj
theorem e_stBf {t x y} {v : Value} {m j : Nat} {A : List UInt8 → Atom} {xs : List UInt8} {u : UInt8} (h : Bf v m A) (hx : xs.length = m) (ex : ev L x = some (ep v (j * 1))) (ey : ev L y = some (bv u)) (hz : ∀ w, (sizeOf t).run P w = .ok 1 w)
    (p : Part H [A xs] Hr) (hj : j < m) : Op1 P ⟨dd, .store t x y, ty, ps, af, gd⟩ g L H (fun r g' H' => r = undef ∧ H' = A (xs.set j u) :: Hr) :=
  Op1.of_skip fun a n D hkn g' hl hsat => by
    obtain ⟨b, o, cap, c, e, fz, rfl, hcap, hdom, hb, hsz, hget, hfz, hset⟩ := h.at_ xs g'.w hx (by omega) (hsat.head p)
    obtain ⟨w', hr, hw⟩ := run_storeCells_blk (P := P) b (o + j) e fz [bv u] 0 c g'.w hb (by simp [bv, Value.oneCell']) (by simp; omega) (fun k h1 h2 => hfz k (by omega) (by simp at h2; omega))
    have hd := (hsat.part p).dom (A xs) (by simp)
    have h2 := hsat.upd p w' (A (xs.set j u)) hw.os hw.output (Nat.le_of_eq hw.size.symm) (fun k _ hk => hw.other k (fun e => hk (e ▸ hdom)))
      (hset _ w' (by rw [List.length_set]; exact hx) (by
        rw [hw.at_]
        congr 2
        apply Array.ext_getElem?
        intro i
        rw [setR_get _ _ _ _ (by simp; omega), setR_get _ _ _ _ (by rw [bvs_length, List.length_set]; omega), bvs_length, List.length_set]
        by_cases h1 : i = o + j
        · subst h1
          rw [if_pos ⟨by omega, by simp⟩, if_pos ⟨by omega, by omega⟩]
          simp only [bvs, List.getElem?_map]
          rw [show o + j - o = j from by omega, List.getElem?_set_self (by omega)]
          simp
        · rw [if_neg (by simp; omega)]
          by_cases h2 : o ≤ i ∧ i < o + xs.length
          · rw [if_pos h2]
            have hlt : i - o < xs.length := by omega
            have hg := hget (i - o) _ (List.getElem?_eq_getElem hlt)
            rw [show o + (i - o) = i from by omega] at hg
            rw [hg]
            simp only [bvs, List.getElem?_map]
            rw [List.getElem?_set_ne (by omega), List.getElem?_eq_getElem hlt]; rfl
          · rw [if_neg h2]) hw.other)
      (fun k hk => by
        have hk' : (A xs).dom k := by rw [h.dom xs (xs.set j u)]; exact hk
        exact ⟨by rw [hw.size]; exact (hd k hk').1, .inl hk'⟩)
    refine ⟨w', g'.I, _, ?_, h2.2, h2.1, rfl, rfl⟩
    have ex' : ev L x = some (.pointer (some ⟨b, o + j, none⟩)) := by rw [ex, Nat.mul_one]; rfl
    have hu' : (bv u).cells = #[bv u] := rfl
    simp only [execOp, hkn.eval ex', hkn.eval ey, Instr.storeAt, Instr.sureAddr, Sem.run_bind, Sem.run_pure, Result.andThen_ok, storeVar, hz, hu']
    rw [if_neg (by simp), hr]
    rfl
/-- copy into a window. -/
theorem e_copyB {x y at_ dT e m k} {ys xs : List UInt8} {v u : Value} {A : List UInt8 → Atom} (ex : ev L x = some v) (ey : ev L y = some u) (ha : at_[0]? = some dT) (hd : ∀ w, (underlying dT).run P w = .ok (.slice e) w) (hz : ∀ w, (sizeOf e).run P w = .ok 1 w)
    (src : Src P g H u 1 m (bvs ys)) (hB : Bf v k A) (hx : xs.length = k) (p : Part H [A xs] Hr) :
    Op1 P ⟨dd, .call ⟨.builtin .copy, #[x, y], at_⟩, ty, ps, af, gd⟩ g L H (fun r g' H' => r = .int .i64 (min m k : Nat) ∧ H' = A (ys.take (min m k) ++ xs.drop (min m k)) :: Hr) :=
  Op1.of_run fun a n D hkn g' hl hsat => by
    obtain ⟨hlen, hyl, hread⟩ := src
    rw [bvs_length, Nat.mul_one] at hyl
    have hfc := hread g' hl hsat (min m k) (by rw [bvs_length]; omega)
    rw [Nat.mul_one, ← bvs_take] at hfc
    have hrun : (execOp a.eval ⟨dd, .call ⟨.builtin .copy, #[x, y], at_⟩, ty, ps, af, gd⟩).run P g'.w =
        (do (match v with | .slice (some a) _ _ => storeCells a (bvs (ys.take (min m k))) | _ => pure ()); pure (Next.value (.int .i64 (min m k : Nat))) : Sem Next).run P g'.w := by
      have hmk : Nat.min m k = min m k := rfl
      rcases hB.shp with ⟨p0, cap, rfl, rfl, _⟩ | ⟨b, o, cap, hc, rfl⟩
      · cases p0 with
        | none =>
          simp only [execOp, resolve, invoke, builtin, List.map_toArray, List.map_cons, List.map_nil, hkn.eval ex, hkn.eval ey, Sem.run_bind, Sem.run_pure, Result.andThen_ok, Builtin.copy_, ha, hd, hz,
            List.getElem?_toArray, List.getElem?_cons_zero, List.getElem?_cons_succ, hlen]
          rw [hmk, hfc]
          simp [goInt]
        | some ad =>
          simp only [execOp, resolve, invoke, builtin, List.map_toArray, List.map_cons, List.map_nil, hkn.eval ex, hkn.eval ey, Sem.run_bind, Sem.run_pure, Result.andThen_ok, Builtin.copy_, ha, hd, hz,
            List.getElem?_toArray, List.getElem?_cons_zero, List.getElem?_cons_succ, hlen]
          rw [hmk, hfc]
          simp [goInt]
          cases (Sem.run P (storeCells ad (bvs [])) g'.w) <;> rfl
      · simp only [execOp, resolve, invoke, builtin, List.map_toArray, List.map_cons, List.map_nil, hkn.eval ex, hkn.eval ey, Sem.run_bind, Sem.run_pure, Result.andThen_ok, Builtin.copy_, ha, hd, hz,
          List.getElem?_toArray, List.getElem?_cons_zero, List.getElem?_cons_succ, hlen]
        rw [hmk, hfc]
        simp [goInt]
        cases (Sem.run P (storeCells { block := b, off := o } (bvs (List.take (min m k) ys))) g'.w) <;> rfl
    by_cases h0 : 0 < min m k
    · obtain ⟨b, o, cap, c, e', fz, rfl, hcap, hdom, hb, hsz, hget, hfz, hset⟩ := hB.at_ xs g'.w hx (by omega) (hsat.head p)
      obtain ⟨w', hr, hw⟩ := run_storeCells_blk (P := P) b o e' fz (bvs (ys.take (min m k))) 0 c g'.w hb (fun u hu => by obtain ⟨c, _, rfl⟩ := List.mem_map.1 hu; rfl) (by rw [bvs_length, List.length_take]; omega)
        (fun j h1 h2 => hfz j (by omega) (by rw [bvs_length, List.length_take] at h2; omega))
      have hd' := (hsat.part p).dom (A xs) (by simp)
      have h2 := hsat.upd p w' (A (ys.take (min m k) ++ xs.drop (min m k))) hw.os hw.output (Nat.le_of_eq hw.size.symm) (fun j _ hk => hw.other j (fun e => hk (e ▸ hdom)))
        (hset _ w' (by rw [List.length_append, List.length_take, List.length_drop]; omega) (by
          rw [hw.at_]
          congr 2
          apply Array.ext_getElem?
          intro i
          have hl1 : (ys.take (min m k) ++ xs.drop (min m k)).length = k := by rw [List.length_append, List.length_take, List.length_drop]; omega
          have hl2 : (ys.take (min m k)).length = min m k := by rw [List.length_take]; omega
          rw [setR_get _ _ _ _ (by rw [bvs_length, hl2]; omega), setR_get _ _ _ _ (by rw [bvs_length, hl1]; omega), bvs_length, bvs_length, hl1, hl2]
          by_cases h1 : o + 0 ≤ i ∧ i < o + 0 + min m k
          · rw [if_pos h1, if_pos ⟨by omega, by omega⟩, bvs_append, List.getElem?_append_left (by rw [bvs_length, hl2]; omega)]
            rfl
          · rw [if_neg h1]
            by_cases h2 : o ≤ i ∧ i < o + k
            · rw [if_pos h2, bvs_append, List.getElem?_append_right (by rw [bvs_length, hl2]; omega), bvs_length, hl2]
              have hlt : i - o < xs.length := by omega
              have hg := hget (i - o) _ (List.getElem?_eq_getElem hlt)
              rw [show o + (i - o) = i from by omega] at hg
              rw [hg]
              simp only [bvs, List.getElem?_map, List.getElem?_drop]
              rw [show min m k + (i - o - min m k) = i - o from by omega, List.getElem?_eq_getElem hlt]; rfl
            · rw [if_neg h2]) hw.other)
        (fun j hj => by
          have hj' : (A xs).dom j := by rw [hB.dom xs (ys.take (min m k) ++ xs.drop (min m k))]; exact hj
          exact ⟨by rw [hw.size]; exact (hd' j hj').1, .inl hj'⟩)
      refine ⟨_, w', g'.I, _, ?_, h2.2, h2.1, rfl, rfl⟩
      rw [hrun]
      simp only [Sem.run_bind]
      rw [hr]; rfl
    · have e0 : min m k = 0 := by omega
      refine ⟨_, g'.w, g'.I, _, ?_, .refl _, hsat.part p, rfl, by rw [e0]; simp⟩
      rw [hrun, e0]
      rcases hB.shp with ⟨p0, cap, rfl, rfl, _⟩ | ⟨b, o, cap, hc, rfl⟩
      · cases p0 <;> rfl
      · rfl
end
end Go.Hl
namespace Go.Hl
variable {P : Program}
section
variable {α : Type} [DecidableEq α]
def putA (a : α) (v : Value) : List (α × Value) → List (α × Value)
  | [] => [(a, v)]
  | x :: l => if x.1 = a then (x.1, v) :: l else x :: putA a v l
structure KeyS (P : Program) (kt : TypeId) (f : α → Value) : Prop extends KeyT P kt f where
  stay : ∀ a w, (Instr.keyThatStays (f a) (f a)).run P w = .ok (f a) w
theorem putA_new {a : α} {v : Value} : ∀ {l : List (α × Value)}, lookA a l = none → putA a v l = l ++ [(a, v)]
  | [], _ => rfl
  | x :: l, h => by
    by_cases hx : x.1 = a
    · simp [lookA, hx] at h
    · rw [putA, if_neg hx, putA_new (by simpa [lookA, hx] using h)]; rfl
theorem putA_length {a : α} {v : Value} : ∀ (l : List (α × Value)), (putA a v l).length ≤ l.length + 1
  | [] => by simp [putA]
  | x :: l => by
    unfold putA
    split
    · simp
    · have := putA_length (a := a) (v := v) l
      simp; omega
theorem putA_all {p : Value → Prop} {a : α} {v : Value} (hv : p v) : ∀ {l : List (α × Value)}, (∀ x ∈ l, p x.2) → ∀ x ∈ putA a v l, p x.2
  | [], _, x, hx => by simp [putA] at hx; subst hx; exact hv
  | y :: l, h, x, hx => by
    unfold putA at hx
    split at hx
    · rcases List.mem_cons.1 hx with rfl | hx
      · exact hv
      · exact h x (.tail _ hx)
    · rcases List.mem_cons.1 hx with rfl | hx
      · exact h _ (by simp)
      · exact putA_all hv (fun x hx => h x (.tail _ hx)) x hx
theorem idxA_some {f : α → Value} {a : α} : ∀ {l : List (α × Value)} {i0 i : Nat} {u : Value}, idxA a l i0 = some (i, u) → ∃ j, i = i0 + j ∧ (mapE f l i0)[j]? = some ⟨f a, u, i0 + j⟩ ∧
    (∀ v, mapE f (putA a v l) i0 = (mapE f l i0).modify j (fun e => { e with key := f a, val := v })) ∧ ∀ v, (putA a v l).length = l.length
  | [], i0, i, u, h => by cases h
  | x :: l, i0, i, u, h => by
    unfold idxA at h
    by_cases hx : x.1 = a
    · rw [if_pos hx] at h
      simp only [Option.some.injEq, Prod.mk.injEq] at h
      obtain ⟨rfl, rfl⟩ := h
      refine ⟨0, rfl, by simp [mapE, hx], fun v => ?_, fun v => by simp [putA, hx]⟩
      simp [putA, hx, mapE]
    · rw [if_neg hx] at h
      obtain ⟨j, rfl, h1, h2, h3⟩ := idxA_some (f := f) h
      refine ⟨j + 1, by omega, ?_, fun v => ?_, fun v => by simp [putA, hx, h3]⟩
      · simp only [mapE, List.getElem?_cons_succ]
        rw [h1]; congr 2; omega
      · simp only [putA, if_neg hx, mapE, h2 v, List.modify_succ_cons]
variable {f : α → Value}
theorem run_mapUpdate_put {w : World} {t kt e b : Nat} {a : α} {l : List (α × Value)} {v : Value} (K : KeyS P kt f) (ht : ∀ w, (underlying t).run P w = .ok (.map kt e) w) (hb : w.heap[b]? = some (mapO f l)) :
    (Instr.mapUpdate t (.map (some b)) (f a) v).run P w = .ok () { w with heap := w.heap.setIfInBounds b (mapO f (putA a v l)) } := by
  cases hi : idxA a l 0 with
  | none =>
    have hn : lookA a l = none := by rw [← idxA_look a l 0, hi]; rfl
    rw [putA_new hn]
    exact run_mapUpdate_new K.toKeyT ht hb hn
  | some r =>
    obtain ⟨i, u⟩ := r
    obtain ⟨j, hij, h1, h2, h3⟩ := idxA_some (f := f) hi
    obtain rfl : i = j := by omega
    unfold Instr.mapUpdate
    simp only [Sem.run_bind, ht, Result.andThen_ok, run_getMap hb, mapO, K.check, K.find, hi]
    have hk : (((mapE f l 0).toArray[i]?).map (·.key)).getD (f a) = f a := by
      simp [h1]
    rw [hk]
    simp only [K.stay, Result.andThen_ok]
    have e1 : (Obj.map ((mapE f l 0).toArray.modify i fun e => { e with key := f a, val := v }) l.length) = mapO f (putA a v l) := by
      unfold mapO
      rw [h2 v, h3 v]
      congr 1
      simp
    rw [e1]
    exact Go.MapKept.run_setObj_map (P := P) (w := w) (r := b) (o := mapO f (putA a v l)) hb
end
theorem keyStrS {kt : TypeId} (hk : P.underlying kt = some .string) : KeyS P kt str where
  toKeyT := keyStr hk
  stay := fun a w => Go.MapKept.run_keyThatStays (d := .string) trivial
def i64v (n : Int) : Value := .int .i64 n
theorem keyInt {kt : TypeId} (hk : P.underlying kt = some (.int .i64)) : KeyS P kt i64v where
  check := fun a b w => Go.MapKept.run_checkKey (d := .int .i64) (k := i64v a) hk (show IntKind.i64 = IntKind.i64 from rfl) b 9999
  find := fun a l w => by
    refine Go.MapKept.run_findKey hk ?_
    have : ∀ (l : List (Int × Value)) (i : Nat), Instr.findNow (.int .i64) (i64v a) (mapE i64v l i) i = some (idxA a l i) := by
      intro l
      induction l with
      | nil => intro i; rfl
      | cons x l ih =>
        intro i
        unfold mapE idxA Instr.findNow
        have hs : Instr.sameNow (.int .i64) (i64v a) (i64v x.1) = some (decide (x.1 = a)) := by
          show (if IntKind.i64 = IntKind.i64 then some (a == x.1) else none) = _
          rw [if_pos rfl]
          congr 1
          rw [Bool.eq_iff_iff]
          simp only [beq_iff_eq, decide_eq_true_eq]
          exact eq_comm
        rw [hs]
        by_cases hx : x.1 = a
        · simp [hx]
        · simp [hx, ih (i + 1)]
    exact this l 0
  stay := fun a w => Go.MapKept.run_keyThatStays (d := .int .i64) (show IntKind.i64 = IntKind.i64 from rfl)
section
variable {α : Type} [DecidableEq α] {f : α → Value}
variable {d : Option Nat} {ty : TypeId} {ps : String} {af : Array Edge} {gd : Option (Nat × Bool)} {g : GW} {L : List (Nat × Value)} {H Hr : List Atom}
/-- m[k] = v -/
theorem e_mapSet {t x ix y b kt e v} {a : α} {l : List (α × Value)} (K : KeyS P kt f) (ex : ev L x = some (.map (some b))) (ei : ev L ix = some (f a)) (ey : ev L y = some v) (ht : ∀ w, (underlying t).run P w = .ok (.map kt e) w)
    (p : Part H [blk b (mapO f l)] Hr) : Op1 P ⟨d, .mapUpdate t x ix y, ty, ps, af, gd⟩ g L H (fun r g' H' => r = undef ∧ H' = blk b (mapO f (putA a v l)) :: Hr) :=
  Op1.of_skip fun ac n D hk g' hl hsat => by
    have hb : g'.w.heap[b]? = some (mapO f l) := hsat.head p
    have hlt : b < g'.w.heap.size := (hsat.part p).dom (blk b (mapO f l)) (by simp) b rfl |>.1
    have hw := run_mapUpdate_put (P := P) (v := v) (a := a) K ht hb
    obtain ⟨hs', hl'⟩ := hsat.write p (mapO f (putA a v l)) { g'.w with heap := g'.w.heap.setIfInBounds b (mapO f (putA a v l)) } rfl rfl (by simp) (by simp [hlt])
      (fun c hc => by simp only [Array.getElem?_setIfInBounds]; rw [if_neg (by omega)])
    refine ⟨_, g'.I, _, ?_, hl', hs', rfl, rfl⟩
    simp only [execOp, hk.eval ex, hk.eval ei, hk.eval ey]
    rw [run_bind_ok hw]
    rfl
end
end Go.Hl
namespace Go.Hl
variable {P : Program}
section
variable {n : Nat} {ops : Array Oper} {l : List Oper} {g : GW} {L : List (Nat × Value)} {D : List Deferred} {H : List Atom} {K : KT} {dd : Nat} {op : Op} {ty : TypeId} {ps : String} {af : Array Edge} {v : Value}
theorem Lp (h : OpP P ⟨some dd, op, ty, ps, af, none⟩ g L H v) (k : TL P n ops l g ((dd, v) :: L) D H K) (hd : Nat.blt dd n = true := by exact rfl) : TL P n ops (⟨some dd, op, ty, ps, af, none⟩ :: l) g L D H K := TL_p hd h k
theorem Lm {x} (e : ev L x = some v) (k : TL P n ops l g ((dd, v) :: L) D H K) (hd : Nat.blt dd n = true := by exact rfl) : TL P n ops (⟨some dd, .move x, ty, ps, af, none⟩ :: l) g L D H K := TL_p hd (p_move e) k
theorem La {x} (e : ev L x = some v) (k : TL P n ops l g ((dd, v) :: L) D H K) (hd : Nat.blt dd n = true := by exact rfl) : TL P n ops (⟨some dd, .assign x, ty, ps, af, none⟩ :: l) g L D H K := TL_p hd (p_assign e) k
theorem Ln {x b} (e : ev L x = some (.pointer (some b))) (k : TL P n ops l g ((dd, .pointer (some b)) :: L) D H K) (hd : Nat.blt dd n = true := by exact rfl) : TL P n ops (⟨some dd, .nilCheck x, ty, ps, af, none⟩ :: l) g L D H K := TL_p hd (p_nilCheck e) k
theorem Lx {x i} {vs : List Value} (ex : ev L x = some (.tuple vs.toArray)) (hv : vs[i]? = some v) (k : TL P n ops l g ((dd, v) :: L) D H K) (hd : Nat.blt dd n = true := by exact rfl) :
    TL P n ops (⟨some dd, .extract x i, ty, ps, af, none⟩ :: l) g L D H K := TL_p hd (p_extractL ex hv) k
theorem Lf {s x i b o fs f m r} (ex : ev L x = some (.pointer (some ⟨b, o, none⟩))) (hu : ∀ w, (underlying s).run P w = .ok (.struct fs) w) (hf : fs[i]? = some f) (hz : ∀ w, (sizeOf f.type).run P w = .ok (m + 1) w) (hr : o + f.offset = r) (k : TL P n ops l g ((dd, .pointer (some ⟨b, r, none⟩)) :: L) D H K)
    (hd : Nat.blt dd n = true := by exact rfl) :
    TL P n ops (⟨some dd, .fieldAddr s x i, ty, ps, af, none⟩ :: l) g L D H K := TL_p hd (p_fieldAddr ex hu hf hz hr) k
theorem Lg {j : Nat} {oj : Oper} {d : Nat} {b : Bool} (h : OpP P ⟨some dd, op, ty, ps, af, some (j, b)⟩ g L H v) (k : TL P n ops l g ((dd, v) :: L) D H K)
    (hj : ops[j]? = some oj := by exact rfl) (hdj : oj.dst = some d := by exact rfl) (hb : lk L d = some (.bool b) := by exact rfl) (hd : Nat.blt dd n = true := by exact rfl) : TL P n ops (⟨some dd, op, ty, ps, af, some (j, b)⟩ :: l) g L D H K := TL_pg hj hdj hb hd h k
theorem Ls {dst : Option Nat} {j : Nat} {oj : Oper} {d : Nat} {b : Bool} (k : TL P n ops l g (pu L dst undef) D H K)
    (hj : ops[j]? = some oj := by exact rfl) (hdj : oj.dst = some d := by exact rfl) (hb : lk L d = some (.bool (!b)) := by exact rfl) (hd : okDst n dst = true := by exact rfl) : TL P n ops (⟨dst, op, ty, ps, af, some (j, b)⟩ :: l) g L D H K := TL_skip hj hdj hb hd k
theorem Lk {R : Value → GW → List Atom → Prop} (h : Op1 P ⟨some dd, op, ty, ps, af, none⟩ g L H R)
    (k : ∀ v g' H', Le g g' → R v g' H' → TL P n ops l g ((dd, v) :: L) D H' K) (hd : Nat.blt dd n = true := by exact rfl) : TL P n ops (⟨some dd, op, ty, ps, af, none⟩ :: l) g L D H K := TL_k hd h k
theorem LE {R : Value → GW → List Atom → Prop} (h : Op1 P ⟨some dd, op, ty, ps, af, none⟩ g L H R)
    (k : ∀ v g' H', Le g g' → R v g' H' → TL P n ops l g' ((dd, v) :: L) D H' K) (hd : Nat.blt dd n = true := by exact rfl) : TL P n ops (⟨some dd, op, ty, ps, af, none⟩ :: l) g L D H K := TL_e hd h k
end
section
variable {n : Nat} {g : GW} {L : List (Nat × Value)} {D : List Deferred} {H : List Atom} {Q : QT}
theorem nS {ops y} (h : T P n y g L D H Q) : TL P n ops [] g L D H (fun a g => SeqQ P y Q .normal a g) := TL_nil (E_seq h)
theorem SR {id y} {ops : List Oper} (h : TL P n ops.toArray ops g L D H (fun a g => SeqQ P y Q .normal a g)) : T P n (.seq (.region id ops.toArray false) y) g L D H Q := T_seq (T_region h)
theorem nR {id opz} {ops : List Oper} (h : TL P n ops.toArray ops g L D H (fun a g => Q .normal a g)) : TL P n opz [] g L D H (fun a g => SeqQ P (.region id ops.toArray false) Q .normal a g) := TL_nil (E_seq (T_region h))
theorem nSR {id opz y} {ops : List Oper} (h : TL P n ops.toArray ops g L D H (fun a g => SeqQ P y Q .normal a g)) : TL P n opz [] g L D H (fun a g => SeqQ P (.seq (.region id ops.toArray false) y) Q .normal a g) := TL_nil (E_seq (T_seq (T_region h)))
theorem nr {ops} (h : E n .ret g L D H Q) : TL P n ops [] g L D H (fun a g => SeqQ P .ret Q .normal a g) := TL_nil (E_seq (T_ret h))
theorem kS {y} (h : T P n y g L D H Q) : T P n .skip g L D H (SeqQ P y Q) := T_skip (E_seq h)
end
section
variable {n : Nat} {ops : Array Oper} {bar fuel : Nat} {listed : Array Bool} {gS g : GW} {L : List (Nat × Value)} {D : List Deferred} {Hs H Hr : List Atom} {K : KT} {o : Oper} {dd : Nat} {S : World → Prop} {v : Value} {op : Op} {ty : TypeId} {ps : String} {af : Array Edge}
theorem Dp (i : Nat) (hi : ops[i]? = some ⟨some dd, op, ty, ps, af, none⟩) (h : OpP P ⟨some dd, op, ty, ps, af, none⟩ gS L Hs v) (k : TD P n ops bar fuel (listed.setIfInBounds i true) gS g ((dd, v) :: L) D Hs H K)
    (hb : Nat.beq i bar = false := by exact rfl) (hs : Region.noSelect ops = true := by kernel_rfl) (hf : Region.free .any ops listed i = true := by kernel_rfl) (hr : (Region.ready .any ops listed).contains i = true := by kernel_rfl)
    (hwt : waits ops bar i = true := by kernel_rfl) (hah : listed.getD bar false = false := by exact rfl) (hd : Nat.blt dd n = true := by exact rfl) : TD P n ops bar (fuel + 1) listed gS g L D Hs H K :=
  TD_p hi rfl hb hs hf hr hwt hah rfl hd h k
theorem Dg (i : Nat) {j : Nat} {oj : Oper} {dj : Nat} {b : Bool} (hi : ops[i]? = some ⟨some dd, op, ty, ps, af, some (j, b)⟩) (h : OpP P ⟨some dd, op, ty, ps, af, some (j, b)⟩ gS L Hs v) (k : TD P n ops bar fuel (listed.setIfInBounds i true) gS g ((dd, v) :: L) D Hs H K)
    (hj : ops[j]? = some oj := by exact rfl) (hdj : oj.dst = some dj := by exact rfl) (hbb : lk L dj = some (.bool b) := by exact rfl)
    (hb : Nat.beq i bar = false := by exact rfl) (hs : Region.noSelect ops = true := by kernel_rfl) (hf : Region.free .any ops listed i = true := by kernel_rfl) (hr : (Region.ready .any ops listed).contains i = true := by kernel_rfl)
    (hwt : waits ops bar i = true := by kernel_rfl) (hah : listed.getD bar false = false := by exact rfl) (hd : Nat.blt dd n = true := by exact rfl) : TD P n ops bar (fuel + 1) listed gS g L D Hs H K :=
  TD_pg hi rfl hj hdj hbb hb hs hf hr hwt hah rfl hd h k
theorem Ds (i : Nat) {j : Nat} {oj : Oper} {dj : Nat} {b : Bool} (hi : ops[i]? = some o) (k : TD P n ops bar fuel (listed.setIfInBounds i true) gS g (pu L o.dst undef) D Hs H K)
    (hg : o.guard = some (j, b) := by exact rfl) (hj : ops[j]? = some oj := by exact rfl) (hdj : oj.dst = some dj := by exact rfl) (hbb : lk L dj = some (.bool (!b)) := by exact rfl)
    (hb : Nat.beq i bar = false := by exact rfl) (hs : Region.noSelect ops = true := by kernel_rfl) (hf : Region.free .any ops listed i = true := by kernel_rfl) (hr : (Region.ready .any ops listed).contains i = true := by kernel_rfl)
    (hd : okDst n o.dst = true := by exact rfl) : TD P n ops bar (fuel + 1) listed gS g L D Hs H K :=
  TD_skip hi hg hj hdj hbb hb hs hf hr hd k
theorem Dq (i : Nat) (hi : ops[i]? = some ⟨some dd, op, ty, ps, af, none⟩) (h : ∀ g, OpP P ⟨some dd, op, ty, ps, af, none⟩ g L [] v) (k : TD P n ops bar fuel (listed.setIfInBounds i true) gS g ((dd, v) :: L) D Hs H K)
    (hb : Nat.beq i bar = false := by exact rfl) (hs : Region.noSelect ops = true := by kernel_rfl) (hf : Region.free .any ops listed i = true := by kernel_rfl) (hr : (Region.ready .any ops listed).contains i = true := by kernel_rfl)
    (hd : Nat.blt dd n = true := by exact rfl) : TD P n ops bar (fuel + 1) listed gS g L D Hs H K :=
  TD_q hi rfl hb hs hf hr rfl hd h k
theorem DK (i : Nat) {R : Value → GW → List Atom → Prop} (hi : ops[i]? = some o) (h : Op1 P o g L (Hs ++ H) R)
    (k : ∀ v g' H'', Le g g' → R v g' H'' → ∃ H', Part H'' Hs H' ∧ TD P n ops bar fuel (listed.setIfInBounds i true) gS g (pu L o.dst v) D Hs H' K)
    (hg : o.guard = none := by exact rfl) (hr : Region.ready .any ops listed = [i] := by kernel_rfl) (hd : okDst n o.dst = true := by exact rfl) : TD P n ops bar (fuel + 1) listed gS g L D Hs H K :=
  TD_k hi hg hr hd h k
theorem DE (i : Nat) {R : Value → GW → List Atom → Prop} (hi : ops[i]? = some o) (h : Op1 P o g L (Hs ++ H) R)
    (k : ∀ v g' H'', Le g g' → R v g' H'' → ∃ H', Part H'' Hs H' ∧ TD P n ops bar fuel (listed.setIfInBounds i true) gS g' (pu L o.dst v) D Hs H' K)
    (hg : o.guard = none := by exact rfl) (hr : Region.ready .any ops listed = [i] := by kernel_rfl) (hd : okDst n o.dst = true := by exact rfl) : TD P n ops bar (fuel + 1) listed gS g L D Hs H K :=
  TD_e hi hg hr hd h k
theorem DV (i : Nat) (hi : ops[i]? = some ⟨some dd, op, ty, ps, af, none⟩) (h : OpP P ⟨some dd, op, ty, ps, af, none⟩ g L (Hs ++ H) v) (k : TD P n ops bar fuel (listed.setIfInBounds i true) gS g ((dd, v) :: L) D Hs H K)
    (hr : Region.ready .any ops listed = [i] := by kernel_rfl) (hd : Nat.blt dd n = true := by exact rfl) : TD P n ops bar (fuel + 1) listed gS g L D Hs H K :=
  TD_v hi rfl hr rfl hd h k
theorem DB {R : Value → GW → List Atom → Prop} (hi : ops[bar]? = some o) (h : Op1 P o g L (Hs ++ H) R)
    (k : ∀ v g' H'', Le g g' → R v g' H'' → TA P n ops bar (SW gS Hs) fuel (listed.setIfInBounds bar true) g (pu L o.dst v) D H'' K)
    (hg : o.guard = none := by exact rfl) (hr : Region.ready .any ops listed = [bar] := by kernel_rfl) (hsz : Nat.blt bar listed.size = true := by exact rfl) (hd : okDst n o.dst = true := by exact rfl) : TD P n ops bar (fuel + 1) listed gS g L D Hs H K :=
  TD_bar hi hg hr hsz hd h k
theorem AP (i : Nat) (hi : ops[i]? = some ⟨some dd, op, ty, ps, af, none⟩) (h : ∀ g, OpP P ⟨some dd, op, ty, ps, af, none⟩ g L [] v) (k : TA P n ops bar S fuel (listed.setIfInBounds i true) g ((dd, v) :: L) D H K)
    (hb : Nat.beq i bar = false := by exact rfl) (hs : Region.noSelect ops = true := by kernel_rfl) (hf : Region.free .any ops listed i = true := by kernel_rfl) (hr : (Region.ready .any ops listed).contains i = true := by kernel_rfl)
    (hpast : listed.getD bar false = true := by exact rfl) (hd : Nat.blt dd n = true := by exact rfl) : TA P n ops bar S (fuel + 1) listed g L D H K :=
  TA_p hi rfl hb hs hf hr hpast rfl hd h k
theorem DD {Q : QT} (h : E n .normal g L D (Hs ++ H) Q) (hr : Region.ready .any ops listed = [] := by kernel_rfl) : TD P n ops bar fuel listed gS g L D Hs H (fun a g => Q .normal a g) := TD_done hr h
theorem CI {f args R} {fn : Func} {c : Code} (hf : P.funcs[f]? = some fn) (hnt : fn.ntmps = n) (hb : fn.body = some c) (h : ∀ F g', Le g g' → T P n c g' (slots 0 args) [] (H ++ [F]) (RetQ P fn R F g'))
    (hn : (fn.name == "runtime.NumGoroutine") = false := by kernel_rfl) (ha : Nat.ble args.length n = true := by exact rfl) : Ct P g f args H R := Ct_intro hf hb hn hnt ha h
end
section
variable {H H' Hp Hr : List Atom} {A B0 B1 B2 B3 B4 B5 B6 B7 : Atom}
theorem K0 (r : Part H Hp Hr) : Part (A :: H) (A :: Hp) Hr := .cons .here r
theorem K1 (r : Part (B0 :: H) Hp Hr) : Part (B0 :: A :: H) (A :: Hp) Hr := .cons (.there .here) r
theorem K2 (r : Part (B0 :: B1 :: H) Hp Hr) : Part (B0 :: B1 :: A :: H) (A :: Hp) Hr := .cons (.there (.there .here)) r
theorem K3 (r : Part (B0 :: B1 :: B2 :: H) Hp Hr) : Part (B0 :: B1 :: B2 :: A :: H) (A :: Hp) Hr := .cons (.there (.there (.there .here))) r
theorem K4 (r : Part (B0 :: B1 :: B2 :: B3 :: H) Hp Hr) : Part (B0 :: B1 :: B2 :: B3 :: A :: H) (A :: Hp) Hr := .cons (.there (.there (.there (.there .here)))) r
theorem K5 (r : Part (B0 :: B1 :: B2 :: B3 :: B4 :: H) Hp Hr) : Part (B0 :: B1 :: B2 :: B3 :: B4 :: A :: H) (A :: Hp) Hr := .cons (.there (.there (.there (.there (.there .here))))) r
theorem K6 (r : Part (B0 :: B1 :: B2 :: B3 :: B4 :: B5 :: H) Hp Hr) : Part (B0 :: B1 :: B2 :: B3 :: B4 :: B5 :: A :: H) (A :: Hp) Hr := .cons (.there (.there (.there (.there (.there (.there .here)))))) r
theorem K7 (r : Part (B0 :: B1 :: B2 :: B3 :: B4 :: B5 :: B6 :: H) Hp Hr) : Part (B0 :: B1 :: B2 :: B3 :: B4 :: B5 :: B6 :: A :: H) (A :: Hp) Hr := .cons (.there (.there (.there (.there (.there (.there (.there .here))))))) r
theorem K8 (r : Part (B0 :: B1 :: B2 :: B3 :: B4 :: B5 :: B6 :: B7 :: H) Hp Hr) : Part (B0 :: B1 :: B2 :: B3 :: B4 :: B5 :: B6 :: B7 :: A :: H) (A :: Hp) Hr := .cons (.there (.there (.there (.there (.there (.there (.there (.there .here)))))))) r
end
section
variable {ι : Type} {gb g : GW} {n : Nat} {L : List (Nat × Value)} {D : List Deferred} {H Hr : List Atom} {Q : QT} {Inv : ι → GW → Prop} {Lf : ι → List (Nat × Value)} {Hf : ι → List Atom} {m : ι → Nat} {x : ι}
theorem EL (hb : Le gb g) (x' : ι) (hm : m x' < m x) (hI : ∀ g', Le g g' → Inv x' g') (p : Part H (Hf x') Hr) (s : SubL L (Lf x') := by repeat (first | exact SubL.nil | refine SubL.cons rfl ?_)) : E n .normal g L D H (LoopQ gb n D Inv Lf Hf m x Q) := E_loop hb x' hm hI s p
theorem EC (hb : Le gb g) (x : ι) (hI : ∀ g', Le g g' → Inv x g') (p : Part H (Hf x) Hr) (s : SubL L (Lf x) := by repeat (first | exact SubL.nil | refine SubL.cons rfl ?_)) : E n .normal g L D H (CutQ gb n D Inv Lf Hf Q) := E_cut hb x hI s p
end
end Go.Hl

namespace Go.Proofs
open Go.Hl
theorem Tryz.mixed : Tryz.prog.follows .mixedOrders = true := by kernel_rfl
namespace YtolddodhmeaceaaGreatDoor
def put32 (x : Int) : List Value := [.int .u8 (IntKind.u8.wrap (x.fdiv (2 ^ 24))), .int .u8 (IntKind.u8.wrap (x.fdiv (2 ^ 16))), .int .u8 (IntKind.u8.wrap (x.fdiv (2 ^ 8))), .int .u8 (IntKind.u8.wrap x)]
theorem ct_Put32 (g : GW) (x : Int) : Ct Tryz.prog g 14 [.int .u32 x] [] (fun v g' H' => ∃ b, v = .slice (some ⟨b, 0, none⟩) 4 4 ∧ H' = [own v 1 5 (put32 x)]) := by
  refine CI Tryz.func14 Tryz.ntmps14 rfl fun F g0 hg0 => ?_
  refine SR (La rfl (nSR (Lm rfl (Lp (p_shr (n := 24) rfl rfl (by decide) rfl rfl) (Lp (p_conv rfl Tryz.runUnderlying29 Tryz.runUnderlying5 (rfl)) (Lm rfl (Lp (p_shr (n := 16) rfl rfl (by decide) rfl rfl) (Lp (p_conv rfl Tryz.runUnderlying29 Tryz.runUnderlying5 (rfl)) (Lm rfl ?_)))))))))
  refine Lp (p_shr (n := 8) rfl rfl (by decide) rfl rfl) (Lp (p_conv rfl Tryz.runUnderlying29 Tryz.runUnderlying5 (rfl)) (Lm rfl (Lp (p_conv rfl Tryz.runUnderlying29 Tryz.runUnderlying5 (rfl)) (Lk (e_buildSlice rfl rfl rfl Tryz.runUnderlying25 Tryz.sizeOf5 Tryz.zeroValue5 rfl (by simp [Value.cells])) ?_))))
  rintro _ _ _ - ⟨b1, rfl, rfl⟩
  refine La rfl (nr (E_ret1 [_] rfl (.refl _) rfl (K0 (K0 .nil)) (fun g' hl => ?_)))
  exact ⟨b1, rfl, rfl⟩
def turn (x n : Int) : Int := bitsOf .or .u32 (IntKind.u32.wrap (x * 2 ^ n.toNat)) (x.fdiv (2 ^ (32 - n.toNat)))
theorem ct_turn (g : GW) (x n : Int) (h0 : 0 ≤ n) (h1 : n ≤ 32) : Ct Tryz.prog g 44 [.int .u32 x, .int .u64 n] [] (fun v g' H' => v = .int .u32 (turn x n) ∧ H' = []) := by
  have e1 : min n.toNat 32 = n.toNat := by omega
  have e2 : min (32 - n).toNat 32 = 32 - n.toNat := by omega
  refine CI Tryz.func44 Tryz.ntmps44 rfl fun F g0 hg0 => ?_
  refine SR (La rfl (nSR (Lm rfl (Lm rfl (Lp (p_shl rfl rfl h0 e1 rfl) (Lm rfl (Lm rfl (Lp (p_sub rfl rfl (wrU64 (by omega) (by omega))) (Lp (p_shr rfl rfl (by omega) e2 rfl) ?_)))))))))
  refine Lp (p_or rfl rfl rfl) (La rfl (nr (E_ret1 [] rfl (.refl _) rfl (K0 .nil) (fun g' hl => ?_))))
  exact ⟨rfl, rfl⟩
/-- Decimal digits. -/
def dec (n : Nat) : List UInt8 := if n < 10 then [UInt8.ofNat (48 + n)] else dec (n / 10) ++ [UInt8.ofNat (48 + n % 10)]
theorem dec_lt {n : Nat} (h : n < 10) : dec n = [UInt8.ofNat (48 + n)] := by rw [dec, if_pos h]
theorem dec_ge {n : Nat} (h : ¬ n < 10) : dec n = dec (n / 10) ++ [UInt8.ofNat (48 + n % 10)] := by rw [dec, if_neg h]
theorem dec_length (n : Nat) : (dec n).length ≤ n + 1 := by
  induction n using Nat.strongRecOn with
  | _ n ih =>
    unfold dec
    split
    · simp
    · have := ih (n / 10) (by omega)
      simp; omega
theorem digit_toNat (n : Nat) (h : n < 10) : (UInt8.ofNat (48 + n)).toNat = 48 + n := by
  simp; omega
theorem ct_Decimal (g : GW) (n : Nat) (hn : n ≤ 9223372036854775800) : Ct Tryz.prog g 41 [.int .i64 n] [] (fun v g' H' => v = str (dec n) ∧ H' = []) := by
  induction n using Nat.strongRecOn generalizing g with
  | _ n ih =>
    have hq := quoN n 10 (by omega)
    have hd1 : n < 10 → (48 + (n : Int)) = ((UInt8.ofNat (48 + n)).toNat : Int) := fun h => by rw [digit_toNat n h]; omega
    have hd2 : (48 + ((n % 10 : Nat) : Int)) = ((UInt8.ofNat (48 + n % 10)).toNat : Int) := by rw [digit_toNat _ (by omega)]; omega
    have hl := dec_length (n / 10)
    refine CI Tryz.func41 Tryz.ntmps41 rfl fun F g0 hg0 => ?_
    refine SR (La rfl (nS (T_seq (SR (Lm rfl (Lp (p_lss rfl rfl) (nS (T_condD rfl (fun hc1 => ?_) (fun hc1 => ?_)))))))))
    ·
      replace hc1 : n < 10 := by omega
      refine SR (Lm rfl (Lp (p_add rfl rfl (wr64 (by omega) (by omega))) (Lp (p_conv rfl Tryz.runUnderlying3 Tryz.runUnderlying21 (wrI32 (by omega) (by omega))) ?_)))
      refine Lp (p_runeStr (c := UInt8.ofNat (48 + n)) rfl Tryz.runUnderlying21 Tryz.runUnderlying9 (hd1 hc1) (by rw [digit_toNat n hc1]; omega)) ?_
      refine La rfl (nr (E_seq_ret (E_ret1 [] rfl (.refl _) rfl (K0 .nil) (fun g' hl => ?_))))
      exact ⟨by rw [dec_lt hc1], rfl⟩
    ·
      replace hc1 : ¬ n < 10 := by omega
      refine kS (SR (Lm rfl (Lp (p_quo rfl rfl (by decide) hq) (Lk (e_call rfl (ih (n / 10) (by omega) g0 (by omega)) .nil) ?_))))
      rintro _ _ _ - ⟨_, rfl, ⟨rfl, rfl⟩⟩
      refine Lm rfl (Lp (p_rem rfl rfl (by decide) (remN n 10)) (Lp (p_add rfl rfl (wr64 (by omega) (by omega))) (Lp (p_conv rfl Tryz.runUnderlying3 Tryz.runUnderlying21 (wrI32 (by omega) (by omega))) ?_)))
      refine Lp (p_runeStr (c := UInt8.ofNat (48 + n % 10)) rfl Tryz.runUnderlying21 Tryz.runUnderlying9 hd2 (by rw [digit_toNat _ (by omega)]; omega)) ?_
      refine Lp (p_str_add rfl rfl (by simp; omega) rfl) ?_
      refine La rfl (nr (E_ret1 [] rfl (.refl _) rfl (K0 .nil) (fun g' hl => ?_)))
      exact ⟨by rw [dec_ge hc1], rfl⟩
end YtolddodhmeaceaaGreatDoor
end Go.Proofs
namespace Go.Proofs.YtolddodhmeaceaaGreatDoor
open Go.Hl
theorem get_some {α : Type} {l : List α} {k : Nat} (h : k < l.length) : ∃ c, l[k]? = some c := ⟨l[k], List.getElem?_eq_getElem h⟩
theorem lt_of_get {α : Type} {l : List α} {k : Nat} {c : α} (h : l[k]? = some c) : k < l.length := (List.getElem?_eq_some_iff.1 h).1
theorem take_snoc {α : Type} {l : List α} {k : Nat} {c : α} (h : l[k]? = some c) : l.take (k + 1) = l.take k ++ [c] := by
  rw [List.take_add_one, h]; rfl
/-- The first name of a path, and what is behind its slash. -/
def frontL (p : List UInt8) : List UInt8 × List UInt8 := (p.takeWhile (· != 47), (p.dropWhile (· != 47)).drop 1)
theorem frontL_at {p : List UInt8} {k : Nat} (h : ∀ (j : Nat) c, p[j]? = some c → j < k → c ≠ 47) (hk : p[k]? = some 47) : frontL p = (p.take k, p.drop (k + 1)) := by
  induction p generalizing k with
  | nil => simp at hk
  | cons a p ih =>
    cases k with
    | zero =>
      obtain rfl : a = 47 := by simpa using hk
      simp [frontL]
    | succ k =>
      have ha : a ≠ 47 := h 0 a rfl (by omega)
      have := ih (k := k) (fun j c hj hlt => h (j + 1) c (by simpa using hj) (by omega)) (by simpa using hk)
      simp only [frontL, Prod.mk.injEq] at this
      simp [frontL, ha, this.1, this.2]
theorem frontL_none {p : List UInt8} (h : ∀ (j : Nat) c, p[j]? = some c → c ≠ 47) : frontL p = (p, []) := by
  induction p with
  | nil => rfl
  | cons a p ih =>
    have ha : a ≠ 47 := h 0 a rfl
    have := ih (fun j c hj => h (j + 1) c (by simpa using hj))
    simp only [frontL, Prod.mk.injEq] at this
    simp [frontL, ha, this.1, this.2]
end Go.Proofs.YtolddodhmeaceaaGreatDoor
namespace Go.Proofs.YtolddodhmeaceaaGreatDoor
open Go.Hl
theorem upto_succ {p : UInt8 → Prop} {l : List UInt8} {k : Nat} {c : UInt8} (h : ∀ (j : Nat) c, l[j]? = some c → j < k → p c) (hc : l[k]? = some c) (hp : p c) :
    ∀ (j : Nat) c', l[j]? = some c' → j < k + 1 → p c' := fun j c' hj hlt => by
  by_cases hjk : j = k
  · subst hjk; rw [hc] at hj; cases hj; exact hp
  · exact h j c' hj (by omega)
/-- Bytes in base 16. -/
def hexDigits : List UInt8 := [48, 49, 50, 51, 52, 53, 54, 55, 56, 57, 97, 98, 99, 100, 101, 102]
def hexN (n : Nat) : UInt8 := if n < 10 then UInt8.ofNat (48 + n) else UInt8.ofNat (87 + n)
theorem hexN_at : ∀ n, n < 16 → hexDigits[n]? = some (hexN n) := by decide
def hexL (l : List UInt8) : List UInt8 := l.flatMap fun c => [hexN (c.toNat / 16), hexN (c.toNat % 16)]
theorem hexL_length (l : List UInt8) : (hexL l).length = 2 * l.length := by
  induction l with
  | nil => rfl
  | cons c l ih => simp only [hexL, List.flatMap_cons, List.length_append, List.length_cons] at *; simp at *; omega
theorem u8lt (c : UInt8) : c.toNat < 256 := c.toNat_lt
theorem and15 (c : UInt8) : bitsOf .and .u8 (c.toNat : Int) 15 = ((c.toNat % 16 : Nat) : Int) := by
  have h := bitsOf_andN (k := .u8) rfl c.toNat 15 (u8lt c) (by decide)
  have e : c.toNat &&& 15 = c.toNat % 16 := Nat.and_two_pow_sub_one_eq_mod c.toNat 4
  rw [e] at h
  exact h
theorem hexL_snoc {l : List UInt8} {k : Nat} {c : UInt8} (hc : l[k]? = some c) : bvs (hexL (l.take k)) ++ flatC [bv (hexN (c.toNat / 16)), bv (hexN (c.toNat % 16))] = bvs (hexL (l.take (k + 1))) := by
  rw [take_snoc hc]
  simp [hexL, bvs, flatC, Value.cells, bv]
theorem ct_Hex (g : GW) (v : Value) (l : List UInt8) (hv : Bytes g v l) (hl : l.length ≤ 1000000000000) : Ct Tryz.prog g 69 [v] [] (fun r g' H' => r = str (hexL l) ∧ H' = []) := by
  refine CI Tryz.func69 Tryz.ntmps69 rfl fun F g0 hg0 => ?_
  replace hv := hv.mono hg0
  refine T_nil 1 5 (SR (La rfl (nSR (La rfl (nS (T_seq (SR (Lm rfl (Lp (p_len (hv.1) rfl rfl Tryz.runUnderlying25) ?_)))))))))
  refine Lm rfl (nS (T_block (T_loop (ι := Nat × Value) (fun x _ => x.1 ≤ l.length) (fun x => [(3, x.2), (6, v), (7, .int .i64 l.length), (8, .int .i64 x.1)]) (fun x => [own x.2 1 5 (bvs (hexL (l.take x.1))), F]) (fun x => l.length - x.1) ((0, _)) (fun g' hl => by simp) (by repeat (first | exact SubL.nil | refine SubL.cons rfl ?_)) (K0 (K0 .nil)) ?_)))
  rintro ⟨k, o⟩ gA hlgA hk
  try dsimp only
  try dsimp only at hk
  replace hv := hv.mono hlgA
  refine SR (Lp (p_lss rfl rfl) (nS (T_seq (T_condD rfl (fun hc2 => ?_) (fun hc2 => ?_)))))
  ·
    replace hc2 : k < l.length := by omega
    obtain ⟨c, hc⟩ := get_some hc2
    have hc256 := u8lt c
    refine kS (T_seq (T_block (SR (Lp (p_ix (hv.1) (j := k) rfl rfl Tryz.runUnderlying25 Tryz.sizeOf5 (by omega) (by omega) rfl) (Lp (p_ldB hv rfl Tryz.isAgg5 hc) (La rfl (nS (T_regionD 10 Tryz.mixed rfl .nil (Dp 0 rfl (p_move rfl) ?_)))))))))
    refine Dp 1 rfl (p_move rfl) (Dp 2 rfl (p_shr rfl rfl (by decide) rfl (fdivN c.toNat 16)) (Dp 3 rfl (p_indexL (j := c.toNat / 16) rfl rfl Tryz.runUnderlying9 (by omega) (hexN_at _ (by omega))) (Dp 4 rfl (p_move rfl) (Dp 5 rfl (p_and rfl rfl (and15 c)) (Dp 6 rfl (p_indexL (j := c.toNat % 16) rfl rfl Tryz.runUnderlying9 (by omega) (hexN_at _ (by omega))) (DK 7 rfl (e_buildSlice rfl rfl rfl Tryz.runUnderlying25 Tryz.sizeOf5 Tryz.zeroValue5 rfl (by simp [Value.cells, bv])) ?_))))))
    rintro _ _ _ - ⟨b3, rfl, rfl⟩
    refine ⟨_, .nil, ?_⟩
    refine DK 8 rfl (e_append (by_ := 1) rfl rfl rfl rfl Tryz.runUnderlying25 Tryz.runUnderlying25 (.inr ⟨_, rfl⟩) Tryz.sizeOf5 Tryz.zeroValue5 rfl Tryz.typeInfo5 rfl (by decide) (by decide) (src_ownS rfl (.head _)) (by simp [bvs_length, hexL_length, flatC, Value.cells, bv]; omega) (K1 .nil) (by simp [flatC, Value.cells, bv, Value.oneCell'])) ?_
    rintro v4 _ _ - ⟨n_v4, hs_v4, hn_v4, rfl⟩
    refine ⟨_, .nil, ?_⟩
    refine Dp 9 rfl (p_assign rfl) (DD (E_block (E_seq (T_region (Lp (p_add rfl rfl (wr64 (by omega) (by omega))) (Lm rfl (TL_nil ?_)))))))
    rw [hexL_snoc hc]
    refine EL (.refl _) ((k + 1, _)) ?hm ?hI ((K0 (K1 .nil)))
    case hm => exact (by omega)
    case hI => exact (fun g' hl => by omega)
  ·
    replace hc2 : k = l.length := by omega
    subst hc2
    refine T_exit (E_seq_exit (E_loop_exit (E_block_hit (E_seq (SR (Lm rfl (TL_shp (.head _) (fun m hm hml => ?_))))))))
    refine Lp (p_bytesStrS hm (src_own hm (by rw [hml]) (.head _)) rfl Tryz.runUnderlying25 Tryz.runUnderlying9 Tryz.runUnderlying5) (La rfl (nr (E_ret1 [] rfl hlgA rfl (K1 .nil) (fun g' hl => ?_))))
    rw [List.take_length]; exact ⟨rfl, rfl⟩
/-- A letter or a digit. -/
def alnum (c : UInt8) : Prop := 97 ≤ c.toNat ∧ c.toNat ≤ 122 ∨ 65 ≤ c.toNat ∧ c.toNat ≤ 90 ∨ 48 ≤ c.toNat ∧ c.toNat ≤ 57
theorem uptoI_succ {p : Nat → UInt8 → Prop} {l : List UInt8} {k : Nat} {c : UInt8} (h : ∀ (j : Nat) c, l[j]? = some c → j < k → p j c) (hc : l[k]? = some c) (hp : p k c) :
    ∀ (j : Nat) c', l[j]? = some c' → j < k + 1 → p j c' := fun j c' hj hlt => by
  by_cases hjk : j = k
  · subst hjk; rw [hc] at hj; cases hj; exact hp
  · exact h j c' hj (by omega)
theorem hexN_cases : ∀ n, n < 16 → (n < 10 ∧ (hexN n).toNat = 48 + n) ∨ (10 ≤ n ∧ (hexN n).toNat = 87 + n) := by decide
theorem or16 (c : UInt8) : bitsOf .or .u8 ((c.toNat / 16 * 16 : Nat) : Int) ((c.toNat % 16 : Nat) : Int) = (c.toNat : Int) := by
  have hc := u8lt c
  have h := bitsOf_orN (k := .u8) rfl (c.toNat / 16 * 16) (c.toNat % 16) (Nat.lt_of_le_of_lt (Nat.div_mul_le_self _ _) hc) (Nat.lt_of_le_of_lt (Nat.mod_le _ _) hc)
  have e : c.toNat / 16 * 16 ||| c.toNat % 16 = c.toNat := by
    have := Nat.two_pow_add_eq_or_of_lt (i := 4) (b := c.toNat % 16) (Nat.mod_lt _ (by decide)) (c.toNat / 16)
    rw [Nat.mul_comm, ← this]; omega
  rw [e] at h
  exact h
theorem hexL_get0 {l : List UInt8} {k : Nat} {c : UInt8} (hc : l[k]? = some c) : (hexL l)[2 * k]? = some (hexN (c.toNat / 16)) := by
  have := flat_get (f := fun c : UInt8 => [hexN (c.toNat / 16), hexN (c.toNat % 16)]) (n := 2) (fun _ => rfl) l k c hc 0 (by decide)
  rw [Nat.mul_comm]; exact this
theorem hexL_get1 {l : List UInt8} {k : Nat} {c : UInt8} (hc : l[k]? = some c) : (hexL l)[2 * k + 1]? = some (hexN (c.toNat % 16)) := by
  have := flat_get (f := fun c : UInt8 => [hexN (c.toNat / 16), hexN (c.toNat % 16)]) (n := 2) (fun _ => rfl) l k c hc 1 (by decide)
  rw [Nat.mul_comm]; exact this
theorem bvs_snoc {l : List UInt8} {k : Nat} {c : UInt8} (hc : l[k]? = some c) : bvs (l.take k) ++ flatC [.int .u8 c.toNat] = bvs (l.take (k + 1)) := by
  rw [take_snoc hc]; simp [bvs, flatC, Value.cells, bv]
/-- Digits in base 8. -/
def oct (n : Nat) : List UInt8 := if n < 8 then [UInt8.ofNat (48 + n)] else oct (n / 8) ++ [UInt8.ofNat (48 + n % 8)]
theorem oct_lt {n : Nat} (h : n < 8) : oct n = [UInt8.ofNat (48 + n)] := by rw [oct, if_pos h]
theorem oct_ge {n : Nat} (h : ¬ n < 8) : oct n = oct (n / 8) ++ [UInt8.ofNat (48 + n % 8)] := by rw [oct, if_neg h]
theorem oct_length (n : Nat) : (oct n).length ≤ n + 1 := by
  induction n using Nat.strongRecOn with
  | _ n ih =>
    unfold oct
    split
    · simp
    · have := ih (n / 8) (by omega)
      simp; omega
def commitT : List UInt8 := [99, 111, 109, 109, 105, 116]
def treeT : List UInt8 := [116, 114, 101, 101]
def blobT : List UInt8 := [98, 108, 111, 98]
def tagT : List UInt8 := [116, 97, 103]
def obName (k : Int) : List UInt8 := if k = 1 then commitT else if k = 2 then treeT else if k = 3 then blobT else if k = 4 then tagT else []
theorem obName_length (k : Int) : (obName k).length ≤ 6 := by
  unfold obName; repeat (first | decide | split)
/-- A byte of a name. -/
def nameCh (c : UInt8) : Prop := alnum c ∨ c = 45 ∨ c = 95
def pathAt (s : List UInt8) (j : Nat) (c : UInt8) : Prop := (c = 47 → 0 < j ∧ j + 1 < s.length ∧ s[j - 1]? ≠ some 47) ∧ (c ≠ 47 → nameCh c)
theorem one_at {s : List UInt8} {k : Nat} {c : UInt8} (hc : s[k]? = some c) : (s.take (k + 1)).drop k = [c] := by
  have hk := lt_of_get hc
  rw [take_snoc hc, List.drop_left' (by rw [List.length_take]; omega)]
theorem u8eq {c : UInt8} {n : Nat} (hn : n < 256) (h : (c.toNat : Int) = n) : c = UInt8.ofNat n := by
  rw [← UInt8.toNat_inj]
  simp; omega
end Go.Proofs.YtolddodhmeaceaaGreatDoor
namespace Go.Proofs.YtolddodhmeaceaaGreatDoor
open Go.Hl
theorem get_getD {l : List UInt8} {j : Nat} (h : j < l.length) : l[j]? = some (l.getD j 0) := by
  rw [List.getD_eq_getElem?_getD, List.getElem?_eq_getElem h]; rfl
def big32 (b0 b1 b2 b3 : UInt8) : Int :=
  bitsOf .or .u32 (bitsOf .or .u32 (bitsOf .or .u32 (IntKind.u32.wrap ((b0.toNat : Int) * 2 ^ 24)) (IntKind.u32.wrap ((b1.toNat : Int) * 2 ^ 16))) (IntKind.u32.wrap ((b2.toNat : Int) * 2 ^ 8))) b3.toNat
def be32 (l : List UInt8) (i : Nat) : Int := big32 (l.getD i 0) (l.getD (i + 1) 0) (l.getD (i + 2) 0) (l.getD (i + 3) 0)
theorem getD_drop (l : List UInt8) (k j : Nat) : (l.drop k).getD j 0 = l.getD (k + j) 0 := by
  simp [List.getD_eq_getElem?_getD]
theorem be32_drop (l : List UInt8) (k : Nat) : be32 (l.drop k) 0 = be32 l k := by
  simp only [be32, getD_drop, Nat.add_zero, Nat.zero_add]
theorem ct_Big32 (g : GW) (v : Value) (l : List UInt8) (hv : Bytes g v l) (hl : 4 ≤ l.length) : Ct Tryz.prog g 43 [v] [] (fun r g' H' => r = .int .u32 (be32 l 0) ∧ H' = []) := by
  have u0 := u8lt (l.getD 0 0)
  have u1 := u8lt (l.getD 1 0)
  have u2 := u8lt (l.getD 2 0)
  have u3 := u8lt (l.getD 3 0)
  refine CI Tryz.func43 Tryz.ntmps43 rfl fun F g0 hg0 => ?_
  replace hv := hv.mono hg0
  refine SR (La rfl (nS (T_seq (T_regionD 23 Tryz.mixed rfl Part.all (Dp 0 rfl (p_move rfl) (Dp 1 rfl (p_ix (hv.1) (j := 0) rfl rfl Tryz.runUnderlying25 Tryz.sizeOf5 rfl (by omega) rfl) (Dp 2 rfl (p_ldB (k := 0) hv rfl Tryz.isAgg5 (get_getD (by omega))) (Dp 3 rfl (p_conv rfl Tryz.runUnderlying5 Tryz.runUnderlying29 (wrU32 (by omega) (by omega))) (Dp 4 rfl (p_shl (n := 24) rfl rfl (by decide) rfl rfl) ?_)))))))))
  refine Dp 5 rfl (p_move rfl) (Dp 6 rfl (p_ix (hv.1) (j := 1) rfl rfl Tryz.runUnderlying25 Tryz.sizeOf5 rfl (by omega) rfl) (Dp 7 rfl (p_ldB (k := 1) hv rfl Tryz.isAgg5 (get_getD (by omega))) (Dp 8 rfl (p_conv rfl Tryz.runUnderlying5 Tryz.runUnderlying29 (wrU32 (by omega) (by omega))) (Dp 9 rfl (p_shl (n := 16) rfl rfl (by decide) rfl rfl) (Dp 10 rfl (p_or rfl rfl rfl) (Dp 11 rfl (p_move rfl) (Dp 12 rfl (p_ix (hv.1) (j := 2) rfl rfl Tryz.runUnderlying25 Tryz.sizeOf5 rfl (by omega) rfl) (Dp 13 rfl (p_ldB (k := 2) hv rfl Tryz.isAgg5 (get_getD (by omega))) (Dp 14 rfl (p_conv rfl Tryz.runUnderlying5 Tryz.runUnderlying29 (wrU32 (by omega) (by omega))) ?_)))))))))
  refine Dp 15 rfl (p_shl (n := 8) rfl rfl (by decide) rfl rfl) (Dp 16 rfl (p_or rfl rfl rfl) (Dp 17 rfl (p_move rfl) (Dp 18 rfl (p_ix (hv.1) (j := 3) rfl rfl Tryz.runUnderlying25 Tryz.sizeOf5 rfl (by omega) rfl) (Dp 19 rfl (p_ldB (k := 3) hv rfl Tryz.isAgg5 (get_getD (by omega))) (Dp 20 rfl (p_conv rfl Tryz.runUnderlying5 Tryz.runUnderlying29 (wrU32 (by omega) (by omega))) (Dp 21 rfl (p_or rfl rfl rfl) (Dp 22 rfl (p_assign rfl) (DD (E_seq ?_)))))))))
  refine T_ret (E_ret1 [] rfl (.refl _) rfl (K0 .nil) (fun g' hl => ?_))
  exact ⟨rfl, rfl⟩
structure S5 where
  a : Int
  b : Int
  c : Int
  d : Int
  e : Int
def s5i (s : S5) : List Int := [s.a, s.b, s.c, s.d, s.e]
def s5l (s : S5) : List Value := [.int .u32 s.a, .int .u32 s.b, .int .u32 s.c, .int .u32 s.d, .int .u32 s.e]
def s5c (s : S5) : Array Value := #[.int .u32 s.a, .int .u32 s.b, .int .u32 s.c, .int .u32 s.d, .int .u32 s.e]
def h0 : S5 := ⟨1732584193, 4023233417, 2562383102, 271733878, 3285377520⟩
def xor32 (x y : Int) : Int := bitsOf .xor .u32 x y
def and32 (x y : Int) : Int := bitsOf .and .u32 x y
def or32 (x y : Int) : Int := bitsOf .or .u32 x y
def add32 (x y : Int) : Int := IntKind.u32.wrap (x + y)
/-- The words of a block. -/
def wsch (f : Nat → Int) : Nat → List Int
  | 0 => []
  | n + 1 => wsch f n ++ [if n < 16 then f n else
      turn (xor32 (xor32 (xor32 ((wsch f n).getD (n - 3) 0) ((wsch f n).getD (n - 8) 0)) ((wsch f n).getD (n - 14) 0)) ((wsch f n).getD (n - 16) 0)) 1]
theorem wsch_length (f : Nat → Int) : ∀ n, (wsch f n).length = n
  | 0 => rfl
  | n + 1 => by rw [wsch, List.length_append, wsch_length f n]; rfl
theorem wsch_lt {f : Nat → Int} {n : Nat} (h : n < 16) : wsch f n ++ [f n] = wsch f (n + 1) := by rw [wsch, if_pos h]
theorem wsch_ge {f : Nat → Int} {n : Nat} (h : ¬ n < 16) : wsch f n ++
    [turn (xor32 (xor32 (xor32 ((wsch f n).getD (n - 3) 0) ((wsch f n).getD (n - 8) 0)) ((wsch f n).getD (n - 14) 0)) ((wsch f n).getD (n - 16) 0)) 1] = wsch f (n + 1) := by rw [wsch, if_neg h]
/-- The words as an array of 80. -/
def wc (ws : List Int) : Array Value := (ws.map (Value.int .u32) ++ List.replicate (80 - ws.length) (Value.int .u32 0)).toArray
theorem wc_size {ws : List Int} (h : ws.length ≤ 80) : (wc ws).size = 80 := by simp [wc]; omega
theorem wc_get {ws : List Int} {k : Nat} (h : k < ws.length) : (wc ws)[0 + k * 1]? = some (.int .u32 (ws.getD k 0)) := by
  rw [Nat.zero_add, Nat.mul_one]
  simp only [wc, List.getElem?_toArray]
  rw [List.getElem?_append_left (by simpa using h)]
  simp [List.getD_eq_getElem?_getD, h]
theorem wc_set {ws : List Int} {x : Int} (h : ws.length < 80) : (wc ws).setIfInBounds (0 + ws.length * 1) (.int .u32 x) = wc (ws ++ [x]) := by
  rw [Nat.zero_add, Nat.mul_one]
  simp only [wc, List.setIfInBounds_toArray, List.map_append, List.map_cons, List.map_nil, List.length_append, List.length_cons, List.length_nil]
  congr 1
  rw [show 80 - ws.length = (80 - (ws.length + (0 + 1))) + 1 by omega, List.replicate_succ]
  rw [List.set_append_right _ _ (by simp)]
  simp
theorem wc_setN {ws ws' : List Int} {n : Nat} {x : Int} (hn : ws.length = n) (h : n < 80) (e : ws ++ [x] = ws') : (wc ws).setIfInBounds (0 + n * 1) (.int .u32 x) = wc ws' := by
  subst hn; subst e; exact wc_set h
def fk (n : Nat) (s : S5) : Int × Int :=
  if n < 20 then (or32 (and32 s.b s.c) (and32 (notU s.b) s.d), 1518500249)
  else if n < 40 then (xor32 (xor32 s.b s.c) s.d, 1859775393)
  else if n < 60 then (or32 (or32 (and32 s.b s.c) (and32 s.b s.d)) (and32 s.c s.d), 2400959708)
  else (xor32 (xor32 s.b s.c) s.d, 3395469782)
def rnd (w : Int) (n : Nat) (s : S5) : S5 := ⟨add32 (add32 (add32 (add32 (turn s.a 5) (fk n s).1) s.e) (fk n s).2) w, s.a, turn s.b 30, s.c, s.d⟩
def rounds (ws : List Int) (h : S5) : Nat → S5
  | 0 => h
  | n + 1 => rnd (ws.getD n 0) n (rounds ws h n)
def addS (h r : S5) : S5 := ⟨add32 h.a r.a, add32 h.b r.b, add32 h.c r.c, add32 h.d r.d, add32 h.e r.e⟩
def stepS (f : Nat → Int) (h : S5) : S5 := addS h (rounds (wsch f 80) h 80)
def blocksS (l : List UInt8) : Nat → S5
  | 0 => h0
  | m + 1 => stepS (fun i => be32 l (64 * m + 4 * i)) (blocksS l m)
def byteI (x : Int) : UInt8 := UInt8.ofNat (IntKind.u8.wrap x).toNat
theorem byteI_bv (x : Int) : Value.int .u8 (IntKind.u8.wrap x) = bv (byteI x) := by
  unfold bv byteI
  congr 1
  have h1 : IntKind.u8.wrap x = x % 256 := by simp [IntKind.wrap, IntKind.bits, IntKind.signed]
  have h2 : 0 ≤ x % 256 := Int.emod_nonneg _ (by decide)
  have h3 : x % 256 < 256 := Int.emod_lt_of_pos _ (by decide)
  rw [h1]
  simp
  omega
def putB (x : Int) : List UInt8 := [byteI (x.fdiv (2 ^ 24)), byteI (x.fdiv (2 ^ 16)), byteI (x.fdiv (2 ^ 8)), byteI x]
theorem put32_bvs (x : Int) : put32 x = bvs (putB x) := by
  simp only [put32, putB, bvs, List.map_cons, List.map_nil, byteI_bv]
def zpad (n : Nat) : Nat := (119 - n % 64) % 64
def lenAt (n j : Nat) : UInt8 := byteI (((n : Int) * 8).fdiv (2 ^ (56 - 8 * j)))
def lenB (n : Nat) : List UInt8 := (List.range 8).map (lenAt n)
def padL (l : List UInt8) : List UInt8 := l ++ [128] ++ List.replicate (zpad l.length) 0 ++ lenB l.length
theorem lenB_length (n : Nat) : (lenB n).length = 8 := rfl
theorem padL_length (l : List UInt8) : (padL l).length = l.length + 1 + zpad l.length + 8 := by simp [padL, lenB_length]; omega
theorem padL_mod (l : List UInt8) : (padL l).length % 64 = 0 := by rw [padL_length]; unfold zpad; omega
def sha1L (l : List UInt8) : List UInt8 := (s5i (blocksS (padL l) ((padL l).length / 64))).flatMap putB
theorem sha1L_length (l : List UInt8) : (sha1L l).length = 20 := rfl
theorem pz_snoc (l : List UInt8) (z : Nat) : bvs (l ++ [128] ++ List.replicate z 0) ++ flatC [.int .u8 0] = bvs (l ++ [128] ++ List.replicate (z + 1) 0) := by
  rw [List.replicate_succ']
  simp [bvs, flatC, Value.cells, bv]
theorem lenB_take {n j : Nat} (h : j < 8) : (lenB n).take (j + 1) = (lenB n).take j ++ [lenAt n j] := by
  rw [List.take_add_one]
  congr 1
  simp [lenB, h]
theorem pl_snoc {m : List UInt8} {n j : Nat} (h : j < 8) : bvs (m ++ (lenB n).take j) ++ flatC [.int .u8 (IntKind.u8.wrap (((n : Int) * 8).fdiv (2 ^ (56 - 8 * j))))] = bvs (m ++ (lenB n).take (j + 1)) := by
  rw [byteI_bv, lenB_take h]
  simp [bvs, flatC, Value.cells, bv, lenAt]
theorem s5_get {s : S5} {k : Nat} (h : k < 5) : (s5c s)[k]? = some (.int .u32 ((s5i s).getD k 0)) := by
  match k, h with
  | 0, _ => rfl
  | 1, _ => rfl
  | 2, _ => rfl
  | 3, _ => rfl
  | 4, _ => rfl
theorem s5_take {s : S5} {k : Nat} (h : k < 5) : bvs (((s5i s).take k).flatMap putB) ++ put32 ((s5i s).getD k 0) = bvs (((s5i s).take (k + 1)).flatMap putB) := by
  have : (s5i s).take (k + 1) = (s5i s).take k ++ [(s5i s).getD k 0] := by
    rw [List.take_add_one, List.getD_eq_getElem?_getD, List.getElem?_eq_getElem (by simpa [s5i] using h)]
    rfl
  rw [this, put32_bvs]
  simp [bvs]
theorem putB_length (x : Int) : (putB x).length = 4 := rfl
theorem s5_len (s : S5) (k : Nat) (h : k ≤ 5) : (bvs (((s5i s).take k).flatMap putB)).length = 4 * k := by
  rw [bvs_length, flat_length (n := 4) (fun _ => rfl), List.length_take]
  have : (s5i s).length = 5 := rfl
  omega
end Go.Proofs.YtolddodhmeaceaaGreatDoor
