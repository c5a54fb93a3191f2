/- Part 9 of the walk of laws.FnPackCut. -/
import Derived.Test.YtolddodhmeaceaaGreatDoorW08
import Derived.Deep.Slices
import Derived.ReadAgain
import Derived.LaidMore
import Derived.OpenShut
set_option linter.unusedVariables false
set_option linter.unusedSimpArgs false
namespace Go.Hl
open Go.ChangeShapes Go.WideShapes Go.Deep
variable {P : Program} {H : Type} {enc : TypeId × Value → H} {W : World} {held : Bool} {fuel : Nat} {cs : List Value} {x : DataW H × List MemPlace}
/-- All that is there as a call begins. -/
def old (W : World) : GW := ⟨W, fun b => b < W.heap.size⟩
theorem cell_old {b o : Nat} {v : Value} (h : W.cell? ⟨b, o, none⟩ = some v) : Cell (old W) b o v := by
  refine ⟨?_, h⟩
  show b < W.heap.size
  cases hb : W.heap[b]? with
  | none => simp [World.cell?, hb] at h
  | some u => exact (Array.getElem?_eq_some_iff.1 hb).1
theorem spot_none {a : Addr} {v : Value} (h : W.cell? a = some v) : a.spot = none := by
  cases hs : a.spot with
  | none => rfl
  | some s =>
    unfold World.cell? at h
    rw [hs] at h
    split at h
    · simp at h
    · cases h
theorem flat_rows {sz : Nat} : ∀ {rows : List (List Value)}, (∀ r ∈ rows, r.length = sz) → ∀ {j : Nat} {v : Value}, rows.flatten[j]? = some v → ∃ i k r, j = i * sz + k ∧ k < sz ∧ rows[i]? = some r ∧ r[k]? = some v
  | [], _, j, v, h => by simp at h
  | r :: rows, hr, j, v, h => by
    have h0 := hr r (by simp)
    rw [List.flatten_cons] at h
    by_cases hj : j < r.length
    · rw [List.getElem?_append_left hj] at h
      exact ⟨0, j, r, by omega, by omega, rfl, h⟩
    · rw [List.getElem?_append_right (by omega)] at h
      obtain ⟨i, k, r', e1, e2, e3, e4⟩ := flat_rows (fun r h => hr r (.tail _ h)) h
      exact ⟨i + 1, k, r', by rw [Nat.add_mul]; omega, e2, by simpa using e3, e4⟩
/-- A slice that was read: its shape; the rows of its elements' cells. -/
theorem slice_read {t e : TypeId} {sz : Nat} (ht : P.underlying t = some (.slice e)) (hz : P.cellsOf e = sz) (h0 : 0 < sz) (h : DataW.trod enc P W 0 (fun _ => true) held fuel t cs = some x) :
    ∃ (v : Value) (rows : List (List Value)), cs = [v] ∧ Shp v rows.length ∧ rows.length ≤ maxLen ∧ Rd (old W) v rows.flatten ∧ ((x.1 = .nil ∧ rows = []) ∨ ∃ (ds rs : List (DataW H)), x.1 = .slice ds rs ∧ ds.length = rows.length ∧ ∀ (i : Nat) (r : List Value), rows[i]? = some r → r.length = sz ∧ ∃ (k : Nat) (y : DataW H × List MemPlace), DataW.trod enc P W 0 (fun _ => true) held k e r = some y ∧ ds[i]? = some y.1) := by
  rcases open_slice ht h with ⟨rfl, rfl⟩ | ⟨a, len, cap, m, n, D, Pl, rfl, hb, hl, hm, hmm, rfl, hel⟩
  · exact ⟨_, [], rfl, Shp.nil, Nat.zero_le _, rfl, .inl ⟨rfl, rfl⟩⟩
  simp only [if_true] at hmm
  have hmm' := hmm.symm
  subst hmm'
  have hex : ∀ i, i < cap → ∃ r : List Value, r.length = sz ∧ (∀ k, k < sz → W.cell? ((a.add (i * sz)).add k) = r[k]?) ∧ DataW.trod enc P W 0 (fun _ => true) held n e r = some (D i, Pl i) := by
    intro i hi
    obtain ⟨cs', h1, h2⟩ := hel i hi
    rw [hz] at h1
    obtain ⟨_, h3, h4⟩ := World.cells?_some h1
    exact ⟨cs', h3, h4, h2⟩
  obtain ⟨f, hf⟩ := choose_lt hex
  obtain ⟨ab, ao, sp⟩ := a
  have hsp : 0 < cap → sp = none := by
    intro hc
    obtain ⟨h1, h2, _⟩ := hf 0 hc
    have h3 := h2 0 h0
    rw [List.getElem?_eq_getElem (by omega)] at h3
    have h4 := spot_none h3
    simpa [Addr.add] using h4
  refine ⟨_, (List.range len).map f, rfl, ?_, by simpa using Nat.le_trans hl hm, ?_, .inr ⟨_, _, rfl, by simp, ?_⟩⟩
  · by_cases hc : 0 < cap
    · obtain rfl := hsp hc
      exact .inr ⟨ab, ao, cap, by simpa using hl, by simp⟩
    · obtain rfl : cap = 0 := by omega
      obtain rfl : len = 0 := by omega
      exact .inl ⟨_, _, rfl, rfl, .inr rfl⟩
  · have hrl : ∀ r ∈ (List.range len).map f, r.length = sz := by
      intro r hr
      obtain ⟨i, hi, rfl⟩ := List.mem_map.1 hr
      exact (hf i (by have := List.mem_range.1 hi; omega)).1
    by_cases hc : 0 < len
    · obtain rfl := hsp (by omega)
      refine ⟨.inr rfl, fun j v hj => ?_⟩
      obtain ⟨i, k, r, rfl, hk, hi, hv⟩ := flat_rows hrl hj
      rw [List.getElem?_map] at hi
      obtain ⟨i', hi', rfl⟩ := Option.map_eq_some_iff.1 hi
      have hil : i < len := by have := (List.getElem?_eq_some_iff.1 hi').1; simpa using this
      rw [List.getElem?_range hil] at hi'
      obtain rfl := Option.some.inj hi'
      have h4 := (hf i (by omega)).2.1 k hk
      rw [hv] at h4
      apply cell_old
      rw [addr_add, addr_add] at h4
      rw [Nat.add_assoc] at h4
      exact h4
    · obtain rfl : len = 0 := by omega
      exact Rd.nil _ _ _ _
  · intro i r hi
    rw [List.getElem?_map] at hi
    obtain ⟨i', hi', rfl⟩ := Option.map_eq_some_iff.1 hi
    have hil : i < len := by have := (List.getElem?_eq_some_iff.1 hi').1; simpa using this
    rw [List.getElem?_range hil] at hi'
    obtain rfl := Option.some.inj hi'
    obtain ⟨h1, h2, h3⟩ := hf i (by omega)
    exact ⟨h1, n, _, h3, by simp [List.getElem?_map, List.getElem?_range hil]⟩
theorem rows_map {α : Type} {f : α → List Value} {p : α → Prop} : ∀ {rows : List (List Value)}, (∀ r ∈ rows, ∃ a, r = f a ∧ p a) → ∃ l : List α, l.length = rows.length ∧ rows.flatten = l.flatMap f ∧ rows = l.map f ∧ ∀ a ∈ l, p a
  | [], _ => ⟨[], rfl, rfl, rfl, fun _ h => by cases h⟩
  | r :: rows, h => by
    obtain ⟨a, rfl, ha⟩ := h r (by simp)
    obtain ⟨l, h1, h2, h3, h4⟩ := rows_map (rows := rows) (fun r hr => h r (.tail _ hr))
    exact ⟨a :: l, by simp [h1], by simp [h2], by simp [h3], fun b hb => by
      rcases List.mem_cons.1 hb with rfl | hb
      · exact ha
      · exact h4 b hb⟩
/-- Bytes that were read. -/
theorem bytes_read {t e : TypeId} (ht : P.underlying t = some (.slice e)) (he : P.underlying e = some (.int .u8)) (hz : P.cellsOf e = 1) (h : DataW.trod enc P W 0 (fun _ => true) held fuel t cs = some x) :
    ∃ v l, cs = [v] ∧ Bytes (old W) v l := by
  obtain ⟨v, rows, rfl, h1, h2, h3, h4⟩ := slice_read ht hz (by omega) h
  have hall : ∀ r ∈ rows, ∃ c : UInt8, r = [bv c] ∧ True := by
    intro r hr
    obtain ⟨i, hi⟩ := List.getElem?_of_mem hr
    rcases h4 with ⟨_, rfl⟩ | ⟨ds, rs, _, _, h5⟩
    · cases hr
    · obtain ⟨_, k, y, h6, _⟩ := h5 i r hi
      obtain ⟨n, rfl, _, hw⟩ := DataW.trod_int he h6
      have hb := bounds_u8 hw
      refine ⟨UInt8.ofNat n.toNat, ?_, trivial⟩
      simp only [bv]
      congr 2
      have hlt : n.toNat < UInt8.size := by show n.toNat < 256; omega
      have h10 : (UInt8.ofNat n.toNat).toNat = n.toNat := by simp [UInt8.toNat_ofNat']; omega
      rw [h10]; omega
  obtain ⟨l, h5, h6, h7, _⟩ := rows_map hall
  refine ⟨v, l, rfl, by rw [h5]; exact h1, ?_⟩
  rw [h6] at h3
  have e9 : ∀ l : List UInt8, l.flatMap (fun c => [bv c]) = bvs l := by
    intro l
    unfold bvs
    induction l with
    | nil => rfl
    | cons a l ih => rw [List.flatMap_cons, ih]; rfl
  rwa [e9] at h3
/-! What a call leaves. -/
theorem keep_of_le {W W' : World} {I : Nat → Prop} (h : Le (old W) ⟨W', I⟩) (may : MemPlace → Prop) : W.keptBut W' may := by
  refine ⟨h.os, h.output, fun i hi => ?_⟩
  have e := h.same i hi
  have e' : W'.heap[i]? = W.heap[i]? := e
  rw [e']
  cases hb : W.heap[i]? with
  | none => rfl
  | some o =>
    cases o with
    | cells c t f => exact ⟨rfl, rfl, rfl, fun _ _ => rfl⟩
    | map es cl => exact .inr ⟨rfl, rfl⟩
    | _ => rfl
theorem cell_le {W W' : World} {I : Nat → Prop} (h : Le (old W) ⟨W', I⟩) {a : Addr} (ha : a.block < W.heap.size) : W'.cell? a = W.cell? a := by
  have e : W'.heap[a.block]? = W.heap[a.block]? := h.same a.block ha
  unfold World.cell?
  rw [e]
theorem same_le {W W' : World} {I : Nat → Prop} (h : Le (old W) ⟨W', I⟩) (p : MemPlace) (hp : p.block < W.heap.size) : W.sameAt W' p := by
  have e : W'.heap[p.block]? = W.heap[p.block]? := h.same p.block hp
  cases p with
  | cell b o => exact cell_le h (a := ⟨b, o, none⟩) hp
  | map b => exact e
theorem all_le {W W' : World} {I : Nat → Prop} (h : Le (old W) ⟨W', I⟩) {sp : Nat → Bool} : ∀ {ts : List TypeId} {vs : List Value} {ds : List (DataW H)} {ps : List MemPlace}, (∀ p ∈ ps, p.block < W.heap.size) → DataW.TrodAll enc P W 0 sp held ts vs ds ps → DataW.TrodAll enc P W' 0 sp held ts vs ds ps
  | [], [], [], _, _, h => h
  | _ :: _, _ :: _, _ :: _, _, hs, ⟨p, q, ⟨n, h1⟩, h2, e⟩ => ⟨p, q, ⟨n, DataW.trod_carry n _ _ _ h1 (fun y hy => same_le h y (hs y (by rw [e]; exact List.mem_append_left _ hy)))⟩, all_le h (fun y hy => hs y (by rw [e]; exact List.mem_append_right _ hy)) h2, e⟩
theorem var_le {W W' : World} {I : Nat → Prop} (h : Le (old W) ⟨W', I⟩) {n : String} {cs : Array Value} (hv : W.var? P n = some cs) : W'.var? P n = some cs := by
  unfold World.var? at hv ⊢
  obtain ⟨g, hg, hv⟩ := Option.bind_eq_some_iff.1 hv
  rw [hg]
  simp only [Option.bind_some] at hv ⊢
  have hlt : g < W.heap.size := by
    cases hb : W.heap[g]? with
    | none => simp [hb] at hv
    | some u => exact (Array.getElem?_eq_some_iff.1 hb).1
  have e : W'.heap[g]? = W.heap[g]? := h.same g hlt
  rw [e]
  exact hv
theorem vars_le {W W' : World} {I : Nat → Prop} (h : Le (old W) ⟨W', I⟩) {T : TypeId → Prop} (K : Kids P T) (hz : ∀ t e, T t → P.underlying t = some (.slice e) → 0 < P.cellsOf e) (hT : ∀ (g : Nat) (t : TypeId), (P.globals[g]?).map (·.type) = some t → T t) {sp : Nat → Bool} :
    ∀ {ns : List String} {ds : List (DataW H)} {ps : List MemPlace}, (∀ p ∈ ps, p.block < W.heap.size) → (∀ p ∈ ps, sp p.block = true) → DataW.TrodVars enc P W (fun _ => true) ns ds ps → DataW.TrodVars enc P W' sp ns ds ps
  | [], [], _, _, _, h => h
  | _ :: _, _ :: _, _, hs, hs2, ⟨g, t, cs, fuel, p, q, h1, h2, h3, h4, h5, e⟩ => by
    refine ⟨g, t, cs, fuel, p, q, h1, h2, var_le h h3, ?_, vars_le h K hz hT (fun y hy => hs y (by rw [e]; exact List.mem_append_right _ hy)) (fun y hy => hs2 y (by rw [e]; exact List.mem_append_right _ hy)) h5, e⟩
    have h6 := DataW.trod_respare (spare' := sp) K hz fuel _ _ _ (hT g t h2) h4 (fun y hy => hs2 y (by rw [e]; exact List.mem_append_left _ (List.mem_append_right _ hy)))
    exact DataW.trod_carry _ _ _ _ h6 (fun y hy => same_le h y (hs y (by rw [e]; exact List.mem_append_left _ (List.mem_append_right _ hy))))
theorem vars_len : ∀ {ns : List String} {ds : List (DataW H)} {ps : List MemPlace} {sp : Nat → Bool}, DataW.TrodVars enc P W sp ns ds ps → ds.length = ns.length
  | [], [], _, _, _ => rfl
  | _ :: _, _ :: _, _, _, ⟨_, _, _, _, _, _, _, _, _, _, h, _⟩ => by simp [vars_len h]
/-! What the given variables hold. -/
theorem laid_at {w : World} : ∀ {l : List (String × DataW Unit)} {ps : List MemPlace}, DataW.LaidVars P w l ps → ∀ {n : String} {d : DataW Unit}, (n, d) ∈ l →
    ∃ g t cs fuel p, P.globalNamed n = some g ∧ (P.globals[g]?).map (·.type) = some t ∧ w.var? P n = some cs ∧ DataW.trod (fun _ => ()) P w 0 (fun _ => true) false fuel t cs.toList = some (d, p) ∧ ∀ y, y ∈ MemPlace.row ⟨g, 0, none⟩ cs.size ++ p → y ∈ ps
  | [], _, _, n, d, h => by cases h
  | (n', d') :: r, ps, ⟨g, t, cs, fuel, p, q, h1, h2, h3, h4, h5, e⟩, n, d, h => by
    rcases List.mem_cons.1 h with h | h
    · cases h
      exact ⟨g, t, cs, fuel, p, h1, h2, h3, h4, fun y hy => by rw [e]; exact List.mem_append_left _ hy⟩
    · obtain ⟨g', t', cs', f', p', k1, k2, k3, k4, k5⟩ := laid_at h5 h
      exact ⟨g', t', cs', f', p', k1, k2, k3, k4, fun y hy => by rw [e]; exact List.mem_append_right _ (k5 y hy)⟩
/-- A variable that holds an error of errors.New's make. -/
theorem sentinel_at {l : List (String × DataW Unit)} (h : laidMet P l W) {n : String} {g : Nat} {ti tp te ts : TypeId} {ms : Array (String × TypeId)} {nm : String} {f : Field} {text : List UInt8}
    (hm : (n, DataW.iface nm (.ptr (.agg [.lit (.string text)]))) ∈ l) (hg : P.globalNamed n = some g) (hgt : (P.globals[g]?).map (·.type) = some ti)
    (hi : P.underlying ti = some (.interface ms)) (hrow : ∀ u, P.typeName? 3 u = some nm → u = tp)
    (hp : P.underlying tp = some (.pointer te)) (he : P.underlying te = some (.struct #[f])) (hft : f.type = ts) (hfo : f.offset = 0) (hs : P.underlying ts = some .string) (hc : P.cellsOf te = 1) (hcs : P.cellsOf ts = 1) :
    ∃ (p : Nat × Nat) (s : ByteArray), Cell (old W) g 0 (EVal tp p) ∧ EP (old W) p.1 ∧ W.cell? ⟨p.1, p.2, none⟩ = some (.string s) ∧ s.data.toList = text := by
  obtain ⟨ps, hl, _, hin⟩ := h
  obtain ⟨g', t, cs, fuel, p, h1, h2, h3, h4, h5⟩ := laid_at hl hm
  obtain rfl := Option.some.inj (hg.symm.trans h1)
  obtain rfl := Option.some.inj (hgt.symm.trans h2)
  have hcell := fun i => World.var?_cell hg h3 i
  obtain ⟨a, s, e1, e2, e3, _, e4⟩ := errorString_of_trod hi hrow hp he hft hfo hs hc hcs h4 (fun u v e => by
    have hsz : cs.size = 1 := by have := congrArg List.length e; simpa using this
    refine (hin g 0 (h5 _ (List.mem_append_left _ (MemPlace.mem_row.2 ⟨0, by omega, rfl⟩)))).2 u v ?_
    rw [hcell 0]
    have : cs.toList[0]? = some (.iface u v) := by rw [e]; rfl
    simpa using this)
  obtain ⟨ab, ao, sp⟩ := a
  obtain rfl : sp = none := spot_none e2
  refine ⟨(ab, ao), s, cell_old ?_, ⟨?_, ?_⟩, e2, e3⟩
  · rw [hcell 0]
    have : cs.toList[0]? = some (.iface tp (.pointer (some ⟨ab, ao, none⟩))) := by rw [e1]; rfl
    simpa [EVal] using this
  · exact (cell_old e2).1
  · exact (hin ab ao (h5 _ (List.mem_append_right _ (by rw [e4]; exact MemPlace.mem_row.2 ⟨0, by omega, rfl⟩)))).1
/-- A variable's cells. -/
theorem var_at {l : List (String × DataW Unit)} (h : laidMet P l W) {n : String} {d : DataW Unit} {g : Nat} {t : TypeId} (hm : (n, d) ∈ l) (hg : P.globalNamed n = some g) (hgt : (P.globals[g]?).map (·.type) = some t) :
    ∃ cs fuel p, Cells (old W) g 0 cs ∧ DataW.trod (fun _ => ()) P W 0 (fun _ => true) false fuel t cs = some (d, p) := by
  obtain ⟨ps, hl, _, _⟩ := h
  obtain ⟨g', t', cs, fuel, p, h1, h2, h3, h4, h5⟩ := laid_at hl hm
  obtain rfl := Option.some.inj (hg.symm.trans h1)
  obtain rfl := Option.some.inj (hgt.symm.trans h2)
  refine ⟨cs.toList, fuel, p, fun j v hj => cell_old ?_, h4⟩
  rw [Nat.zero_add, World.var?_cell hg h3 j]
  simpa using hj
end Go.Hl
