/- Part 0 of the walk of laws.FnPackCut. -/
import Derived.OrdersHeld
import Derived.Tactics
import Derived.KernelRfl
import Derived.Laws.Sem
import Derived.Laws.Append
import Derived.Laws.AppendOwn
import Derived.Laws.Strings3
import Derived.Laws.Concat
import Derived.Laws.BytesString
import Derived.Laws.Runes
set_option linter.unusedVariables false
set_option linter.unusedSimpArgs false
namespace Go.Hl
/-- A world and the set of the blocks that no one writes any more. -/
structure GW where
  w : World
  I : Nat → Prop
structure Le (g g' : GW) : Prop where
  os : g'.w.os = g.w.os
  output : g'.w.output = g.w.output
  size : g.w.heap.size ≤ g'.w.heap.size
  sub : ∀ b, g.I b → g'.I b
  same : ∀ b, g.I b → g'.w.heap[b]? = g.w.heap[b]?
theorem Le.refl (g : GW) : Le g g := ⟨rfl, rfl, Nat.le_refl _, fun _ h => h, fun _ _ => rfl⟩
theorem Le.trans {a b c : GW} (h : Le a b) (k : Le b c) : Le a c :=
  ⟨k.os.trans h.os, k.output.trans h.output, Nat.le_trans h.size k.size, fun x hx => k.sub x (h.sub x hx),
   fun x hx => (k.same x (h.sub x hx)).trans (h.same x hx)⟩
/-- A piece of the heap: its blocks, and what holds of them. -/
structure Atom where
  dom : Nat → Prop
  holds : World → Prop
  loc : ∀ w w' : World, (∀ b, dom b → w'.heap[b]? = w.heap[b]?) → holds w → holds w'
def blk (b : Nat) (o : Obj) : Atom :=
  ⟨fun x => x = b, fun w => w.heap[b]? = some o, fun _ _ h k => (h b rfl).trans k⟩
def apartA (A B : Atom) : Prop := ∀ b, A.dom b → ¬ B.dom b
structure Sat (H : List Atom) (g : GW) : Prop where
  lt : ∀ b, g.I b → b < g.w.heap.size
  holds : ∀ A ∈ H, A.holds g.w
  dom : ∀ A ∈ H, ∀ b, A.dom b → b < g.w.heap.size ∧ ¬ g.I b
  sep : H.Pairwise apartA
/-- What is known of slots. -/
def lk : List (Nat × Value) → Nat → Option Value
  | [], _ => none
  | (i, v) :: t, k => bif Nat.beq i k then some v else lk t k
structure Kn (n : Nat) (L : List (Nat × Value)) (D : List Deferred) (a : Act) : Prop where
  size : a.tmps.size = n
  look : ∀ k v, lk L k = some v → a.tmps[k]? = some v
  dfr : a.defers = D
def ev (L : List (Nat × Value)) : Operand → Option Value
  | .tmp t => lk L t
  | .const v => some v
  | .global g => some (.pointer (some ⟨g, 0, none⟩))
  | .func f => some (.func (.func f) #[] #[])
theorem Kn.eval {n L D a} (h : Kn n L D a) {x : Operand} {v : Value} (e : ev L x = some v) : a.eval x = v := by
  cases x with
  | tmp t =>
    have := h.look t v e
    simp [Act.eval, this]
  | const u => simpa [ev, Act.eval] using e
  | global g => simpa [ev, Act.eval] using e
  | func f => simpa [ev, Act.eval] using e
theorem beq_false {a b : Nat} (h : ¬ a = b) : Nat.beq a b = false := by
  cases e : Nat.beq a b with
  | false => rfl
  | true => exact absurd (Nat.eq_of_beq_eq_true e) h
theorem Kn.put {n L D a} (h : Kn n L D a) (d : Nat) (v : Value) (hd : Nat.blt d n = true) : Kn n ((d, v) :: L) D (a.put (some d) v) := by
  have hd' : d < n := by simpa [Nat.blt_eq] using hd
  refine ⟨by simp [Act.put, h.size], fun k u e => ?_, by simp [Act.put, h.dfr]⟩
  simp only [lk] at e
  by_cases hk : d = k
  · subst hk
    simp at e
    subst e
    simp [Act.put, h.size, hd']
  · have : Nat.beq d k = false := beq_false hk
    rw [this] at e
    simp only [cond_false] at e
    simp only [Act.put]
    rw [Array.getElem?_setIfInBounds_ne hk]
    exact h.look k u e
/-- The slots behind a result. -/
def pu (L : List (Nat × Value)) (d : Option Nat) (v : Value) : List (Nat × Value) :=
  match d with
  | some d => (d, v) :: L
  | none => L
def okDst (n : Nat) (d : Option Nat) : Bool :=
  match d with
  | some d => Nat.blt d n
  | none => true
theorem Kn.pu {n L D a} (h : Kn n L D a) (d : Option Nat) (v : Value) (hd : okDst n d = true) : Kn n (pu L d v) D (a.put d v) := by
  cases d with
  | some d => exact h.put d v hd
  | none => exact h
inductive SubL (L : List (Nat × Value)) : List (Nat × Value) → Prop
  | nil : SubL L []
  | cons {k : Nat} {v : Value} {t : List (Nat × Value)} (h : lk L k = some v) (r : SubL L t) : SubL L ((k, v) :: t)
theorem SubL.look {L L' : List (Nat × Value)} (h : SubL L L') : ∀ k v, lk L' k = some v → lk L k = some v := by
  induction h with
  | nil => intro k v e; cases e
  | @cons i u t hi _ ih =>
    intro k v e
    simp only [lk] at e
    by_cases hk : i = k
    · subst hk
      simp at e
      exact e ▸ hi
    · have : Nat.beq i k = false := beq_false hk
      rw [this] at e
      exact ih k v e
theorem Kn.sub {n L L' D a} (h : Kn n L D a) (s : SubL L L') : Kn n L' D a :=
  ⟨h.size, fun k v e => h.look k v (s.look k v e), h.dfr⟩
/-! ### Separation -/
theorem Sat.perm {H H' : List Atom} {g : GW} (h : Sat H g) (p : H.Perm H') : Sat H' g :=
  ⟨h.lt, fun A hA => h.holds A (p.mem_iff.2 hA), fun A hA => h.dom A (p.mem_iff.2 hA),
   (List.Perm.pairwise_iff (fun {A B} (s : apartA A B) b hb ha => s b ha hb) p).1 h.sep⟩
theorem Sat.drop {A : Atom} {H : List Atom} {g : GW} (h : Sat (A :: H) g) : Sat H g :=
  ⟨h.lt, fun B hB => h.holds B (.tail _ hB), fun B hB => h.dom B (.tail _ hB), (List.pairwise_cons.1 h.sep).2⟩
theorem Sat.left {H K : List Atom} {g : GW} (h : Sat (H ++ K) g) : Sat H g :=
  ⟨h.lt, fun B hB => h.holds B (List.mem_append_left _ hB), fun B hB => h.dom B (List.mem_append_left _ hB), (List.pairwise_append.1 h.sep).1⟩
theorem Sat.right {H K : List Atom} {g : GW} (h : Sat (H ++ K) g) : Sat K g :=
  ⟨h.lt, fun B hB => h.holds B (List.mem_append_right _ hB), fun B hB => h.dom B (List.mem_append_right _ hB), (List.pairwise_append.1 h.sep).2.1⟩
/-- All pieces as one. -/
def many (H : List Atom) : Atom :=
  ⟨fun b => ∃ A ∈ H, A.dom b, fun w => (∀ A ∈ H, A.holds w) ∧ H.Pairwise apartA,
   fun w w' h k => ⟨fun A hA => A.loc w w' (fun b hb => h b ⟨A, hA, hb⟩) (k.1 A hA), k.2⟩⟩
theorem Sat.fold {H K : List Atom} {g : GW} (h : Sat (H ++ K) g) : Sat (H ++ [many K]) g := by
  have hp := List.pairwise_append.1 h.sep
  refine ⟨h.lt, fun A hA => ?_, fun A hA b hb => ?_, ?_⟩
  · rcases List.mem_append.1 hA with hA | hA
    · exact h.holds A (List.mem_append_left _ hA)
    · cases List.mem_singleton.1 hA
      exact ⟨fun B hB => h.holds B (List.mem_append_right _ hB), hp.2.1⟩
  · rcases List.mem_append.1 hA with hA | hA
    · exact h.dom A (List.mem_append_left _ hA) b hb
    · cases List.mem_singleton.1 hA
      obtain ⟨B, hB, hb⟩ := hb
      exact h.dom B (List.mem_append_right _ hB) b hb
  · refine List.pairwise_append.2 ⟨hp.1, by simp, fun A hA B hB b hb hb' => ?_⟩
    cases List.mem_singleton.1 hB
    obtain ⟨C, hC, hc⟩ := hb'
    exact hp.2.2 A hA C hC b hb hc
theorem Sat.unfold {H K : List Atom} {g : GW} (h : Sat (H ++ [many K]) g) : Sat (H ++ K) g := by
  have hp := List.pairwise_append.1 h.sep
  have hm := h.holds (many K) (by simp)
  have hd := h.dom (many K) (by simp)
  refine ⟨h.lt, fun A hA => ?_, fun A hA b hb => ?_, ?_⟩
  · rcases List.mem_append.1 hA with hA | hA
    · exact h.holds A (List.mem_append_left _ hA)
    · exact hm.1 A hA
  · rcases List.mem_append.1 hA with hA | hA
    · exact h.dom A (List.mem_append_left _ hA) b hb
    · exact hd b ⟨A, hA, hb⟩
  · refine List.pairwise_append.2 ⟨hp.1, hm.2, fun A hA B hB b hb hb' => ?_⟩
    exact hp.2.2 A hA (many K) (by simp) b hb ⟨B, hB, hb'⟩
/-- One piece is taken out of H. -/
inductive Sel : List Atom → Atom → List Atom → Prop
  | here {A : Atom} {H : List Atom} : Sel (A :: H) A H
  | there {A B : Atom} {H H' : List Atom} (h : Sel H A H') : Sel (B :: H) A (B :: H')
theorem Sel.perm {H H' : List Atom} {A : Atom} (h : Sel H A H') : H.Perm (A :: H') := by
  induction h with
  | here => exact .refl _
  | @there A B H H' _ ih => exact (List.Perm.cons B ih).trans (List.Perm.swap A B H')
/-- H taken apart: the pieces Hp, in their order, and the rest Hr. -/
inductive Part : List Atom → List Atom → List Atom → Prop
  | nil {H : List Atom} : Part H [] H
  | cons {H H' Hp Hr : List Atom} {A : Atom} (h : Sel H A H') (r : Part H' Hp Hr) : Part H (A :: Hp) Hr
theorem Part.all : ∀ {H : List Atom}, Part H H []
  | [] => .nil
  | _ :: _ => .cons .here Part.all
theorem Part.perm {H Hp Hr : List Atom} (h : Part H Hp Hr) : H.Perm (Hp ++ Hr) := by
  induction h with
  | nil => exact .refl _
  | @cons H H' Hp Hr A e _ ih => exact e.perm.trans (List.Perm.cons A ih)
/-- Pieces of which some are let go. -/
theorem Sat.part {H Hp Hr : List Atom} {g : GW} (h : Sat H g) (p : Part H Hp Hr) : Sat (Hp ++ Hr) g := h.perm p.perm
/-! ### Steps of the world -/
/-- A new block. -/
def World.al (w : World) (o : Obj) : World := { w with heap := w.heap.push o }
theorem Sat.alloc {H : List Atom} {g : GW} (h : Sat H g) (o : Obj) :
    Sat (blk g.w.heap.size o :: H) ⟨{ g.w with heap := g.w.heap.push o }, g.I⟩ ∧ Le g ⟨{ g.w with heap := g.w.heap.push o }, g.I⟩ := by
  have hold : ∀ b, b < g.w.heap.size → (g.w.heap.push o)[b]? = g.w.heap[b]? := fun b hb => by
    rw [Array.getElem?_push, if_neg (by omega)]
  refine ⟨⟨fun b hb => ?_, fun A hA => ?_, fun A hA b hb => ?_, ?_⟩, ⟨rfl, rfl, by simp, fun _ h => h, fun b hb => hold b (h.lt b hb)⟩⟩
  · have := h.lt b hb; simp; omega
  · rcases List.mem_cons.1 hA with rfl | hA
    · show (g.w.heap.push o)[g.w.heap.size]? = _
      simp
    · exact A.loc g.w _ (fun b hb => hold b (h.dom A hA b hb).1) (h.holds A hA)
  · rcases List.mem_cons.1 hA with rfl | hA
    · cases hb
      refine ⟨by simp, fun hi => ?_⟩
      have := h.lt _ hi
      omega
    · have := h.dom A hA b hb
      exact ⟨by simp; omega, this.2⟩
  · refine List.pairwise_cons.2 ⟨fun A hA b hb hb' => ?_, h.sep⟩
    cases hb
    have := (h.dom A hA _ hb').1
    omega
/-- A block that is known is written anew. -/
theorem Sat.write {H Hr : List Atom} {g : GW} {b : Nat} {o : Obj} (h : Sat H g) (p : Part H [blk b o] Hr) (o' : Obj) (w' : World)
    (hos : w'.os = g.w.os) (hout : w'.output = g.w.output) (hs : w'.heap.size = g.w.heap.size) (hb : w'.heap[b]? = some o')
    (hne : ∀ c, c ≠ b → w'.heap[c]? = g.w.heap[c]?) : Sat (blk b o' :: Hr) ⟨w', g.I⟩ ∧ Le g ⟨w', g.I⟩ := by
  have h' : Sat (blk b o :: Hr) g := h.part p
  have hbd := h'.dom (blk b o) (by simp) b rfl
  have hsep := List.pairwise_cons.1 h'.sep
  refine ⟨⟨fun c hc => ?_, fun A hA => ?_, fun A hA c hc => ?_, ?_⟩, ⟨hos, hout, by simp [hs], fun _ h => h, fun c hc => hne c ?_⟩⟩
  · have := h'.lt c hc; simp only [hs]; omega
  · rcases List.mem_cons.1 hA with rfl | hA'
    · exact hb
    · refine A.loc g.w _ (fun c hc => hne c ?_) (h'.holds A (.tail _ hA'))
      intro e
      subst e
      exact hsep.1 A hA' _ rfl hc
  · rcases List.mem_cons.1 hA with rfl | hA
    · cases hc
      exact ⟨by simp only [hs]; exact hbd.1, hbd.2⟩
    · have := h'.dom A (.tail _ hA) c hc
      exact ⟨by simp only [hs]; exact this.1, this.2⟩
  · exact List.pairwise_cons.2 ⟨fun A hA c hc => hsep.1 A hA c hc, hsep.2⟩
  · rintro rfl
    exact hbd.2 hc
/-- A piece is frozen: no one writes it any more. -/
theorem Sat.freeze {A : Atom} {H : List Atom} {g : GW} (h : Sat (A :: H) g) :
    Sat H ⟨g.w, fun b => g.I b ∨ A.dom b⟩ ∧ Le g ⟨g.w, fun b => g.I b ∨ A.dom b⟩ := by
  have hsep := List.pairwise_cons.1 h.sep
  refine ⟨⟨fun b hb => ?_, fun B hB => h.holds B (.tail _ hB), fun B hB b hb => ⟨(h.dom B (.tail _ hB) b hb).1, ?_⟩, hsep.2⟩, ⟨rfl, rfl, Nat.le_refl _, fun _ h => .inl h, fun _ _ => rfl⟩⟩
  · rcases hb with hb | hb
    · exact h.lt b hb
    · exact (h.dom A (by simp) b hb).1
  · rintro (hi | hi)
    · exact (h.dom B (.tail _ hB) b hb).2 hi
    · exact hsep.1 B hB b hi hb
/-! ### Judgements -/
variable {P : Program}
abbrev QT := Exit → Act → GW → Prop
/-- What a piece of code comes to. -/
def T (P : Program) (n : Nat) (c : Code) (g : GW) (L : List (Nat × Value)) (D : List Deferred) (H : List Atom) (Q : QT) : Prop :=
  ∀ a g', Le g g' → Kn n L D a → Sat H g' → c.wp P (fun e a w => ∃ I, Q e a ⟨w, I⟩) a g'.w
/-- What holds where a piece of code has ended. -/
def E (n : Nat) (e : Exit) (g : GW) (L : List (Nat × Value)) (D : List Deferred) (H : List Atom) (Q : QT) : Prop :=
  ∀ a g', Le g g' → Kn n L D a → Sat H g' → Q e a g'
def SeqQ (P : Program) (y : Code) (Q : QT) : QT
  | .normal, a, g => y.wp P (fun e a w => ∃ I, Q e a ⟨w, I⟩) a g.w
  | e, a, g => Q e a g
def BlockQ (id : Nat) (Q : QT) : QT
  | .exit id', a, g => bif Nat.beq id' id then Q .normal a g else Q (.exit id') a g
  | e, a, g => Q e a g
theorem T_ret {n g L D H Q} (h : E n .ret g L D H Q) : T P n .ret g L D H Q :=
  fun a g' hl hk hs => wp_ret ⟨g'.I, h a g' hl hk hs⟩
theorem T_skip {n g L D H Q} (h : E n .normal g L D H Q) : T P n .skip g L D H Q :=
  fun a g' hl hk hs => wp_skip ⟨g'.I, h a g' hl hk hs⟩
theorem T_exit {n g L D H Q id} (h : E n (.exit id) g L D H Q) : T P n (.exit id) g L D H Q :=
  fun a g' hl hk hs => wp_exit ⟨g'.I, h a g' hl hk hs⟩
theorem T_seq {n x y g L D H Q} (h : T P n x g L D H (SeqQ P y Q)) : T P n (.seq x y) g L D H Q :=
  fun a g' hl hk hs => wp_seq (wp_mono (h a g' hl hk hs) fun e a w ⟨I, q⟩ => by
    cases e <;> first | exact q | exact ⟨I, q⟩)
theorem E_seq {n y g L D H Q} (h : T P n y g L D H Q) : E n .normal g L D H (SeqQ P y Q) := fun a g' hl hk hs => h a g' hl hk hs
theorem E_seq_ret {n y g L D H Q} (h : E n .ret g L D H Q) : E n .ret g L D H (SeqQ P y Q) := h
theorem E_seq_exit {n y g L D H Q id} (h : E n (.exit id) g L D H Q) : E n (.exit id) g L D H (SeqQ P y Q) := h
theorem T_block {n id c g L D H Q} (h : T P n c g L D H (BlockQ id Q)) : T P n (.block id c) g L D H Q :=
  fun a g' hl hk hs => wp_block (wp_mono (h a g' hl hk hs) fun e a w ⟨I, q⟩ => by
    cases e with
    | exit id' =>
      simp only [Exit.inBlock]
      simp only [BlockQ] at q
      by_cases hid : id' = id
      · subst hid; simp at q; simp; exact ⟨I, q⟩
      · have : Nat.beq id' id = false := beq_false hid
        rw [this] at q
        simp only [hid, if_false]; exact ⟨I, q⟩
    | _ => exact ⟨I, q⟩)
theorem E_block {n id g L D H Q} (h : E n .normal g L D H Q) : E n .normal g L D H (BlockQ id Q) := h
theorem E_block_ret {n id g L D H Q} (h : E n .ret g L D H Q) : E n .ret g L D H (BlockQ id Q) := h
theorem E_block_hit {n id g L D H Q} (h : E n .normal g L D H Q) : E n (.exit id) g L D H (BlockQ id Q) := fun a g' hl hk hs => by
  simp only [BlockQ]; simp; exact h a g' hl hk hs
theorem E_block_pass {n id id' g L D H Q} (hne : Nat.beq id' id = false) (h : E n (.exit id') g L D H Q) : E n (.exit id') g L D H (BlockQ id Q) := fun a g' hl hk hs => by
  simp only [BlockQ, hne]; exact h a g' hl hk hs
theorem T_cond {n c x y g L D H Q} {t : Bool} (e : ev L c = some (.bool t)) (hx : t = true → T P n x g L D H Q) (hy : t = false → T P n y g L D H Q) :
    T P n (.cond c x y) g L D H Q := fun a g' hl hk hs => by
  refine wp_cond_split (hk.eval e) (fun h => hx h a g' hl hk hs) (fun h => hy h a g' hl hk hs)
theorem T_condT {n c x y g L D H Q} (e : ev L c = some (.bool true)) (hx : T P n x g L D H Q) : T P n (.cond c x y) g L D H Q :=
  T_cond e (fun _ => hx) (fun h => by cases h)
theorem T_condF {n c x y g L D H Q} (e : ev L c = some (.bool false)) (hy : T P n y g L D H Q) : T P n (.cond c x y) g L D H Q :=
  T_cond e (fun h => by cases h) (fun _ => hy)
theorem T_condD {n c x y g L D H Q} {p : Prop} [Decidable p] (e : ev L c = some (.bool (decide p))) (hx : p → T P n x g L D H Q) (hy : ¬ p → T P n y g L D H Q) :
    T P n (.cond c x y) g L D H Q :=
  T_cond e (fun h => hx (of_decide_eq_true h)) (fun h => hy (of_decide_eq_false h))
theorem T_condN {n c x y g L D H Q} {p : Prop} [Decidable p] (e : ev L c = some (.bool (!decide p))) (hx : ¬ p → T P n x g L D H Q) (hy : p → T P n y g L D H Q) :
    T P n (.cond c x y) g L D H Q :=
  T_cond e (fun h => hx (of_decide_eq_false (by simpa using h))) (fun h => hy (of_decide_eq_true (by simpa using h)))
theorem T_condNB {n c x y g L D H Q} {t : Bool} (e : ev L c = some (.bool (!t))) (hx : t = false → T P n x g L D H Q) (hy : t = true → T P n y g L D H Q) :
    T P n (.cond c x y) g L D H Q :=
  T_cond e (fun h => hx (by simpa using h)) (fun h => hy (by simpa using h))
/-- Less is known from here on. -/
theorem T_weaken {n c g L L' D H H' Q} {Hr : List Atom} (s : SubL L L') (p : Part H H' Hr) (h : T P n c g L' D H' Q) : T P n c g L D H Q :=
  fun a g' hl hk hs => h a g' hl (hk.sub s) (hs.part p).left
theorem T_base {n c g g₁ L D H Q} (hl : Le g₁ g) (h : T P n c g₁ L D H Q) : T P n c g L D H Q := fun a g' hl' hk hs => h a g' (hl.trans hl') hk hs
/-- From here on the world at hand is the base. -/
theorem T_now {n c g L D H Q} (h : ∀ g', Le g g' → Sat H g' → T P n c g' L D H Q) : T P n c g L D H Q :=
  fun a g' hl hk hs => h g' hl hs a g' (.refl _) hk hs
/-- A piece may be told otherwise. -/
theorem T_conv {n c g L D H Q} {A : Atom} (C : GW → List Atom → Prop) (hc : ∀ g', Le g g' → Sat (A :: H) g' → ∃ H', C g' H' ∧ Sat (H' ++ H) g')
    (h : ∀ g' H', Le g g' → C g' H' → T P n c g' L D (H' ++ H) Q) : T P n c g L D (A :: H) Q :=
  fun a g' hl hk hs => let ⟨H', hC, hs'⟩ := hc g' hl hs; h g' H' hl hC a g' (.refl _) hk hs'
/-- A loop: what holds at the head of each round is told by x. -/
def LoopQ {ι : Type} (gb : GW) (n : Nat) (D : List Deferred) (Inv : ι → GW → Prop) (Lf : ι → List (Nat × Value)) (Hf : ι → List Atom) (m : ι → Nat) (x : ι) (Q : QT) : QT
  | .normal, a, g => ∃ x', Le gb g ∧ m x' < m x ∧ Inv x' g ∧ Kn n (Lf x') D a ∧ Sat (Hf x') g
  | e, a, g => Q e a g
theorem wp_loop_ix {ι : Type} {body : Code} {a : Act} {w : World} {Q : Exit → Act → World → Prop} (R : ι → Act → World → Prop) (m : ι → Nat) (x₀ : ι) (h₀ : R x₀ a w)
    (round : ∀ x a w, R x a w → body.wp P (Exit.then (fun a' w' => ∃ x', m x' < m x ∧ R x' a' w') Q) a w) : (Code.loop body).wp P Q a w := by
  intro b k cs
  have key : ∀ n x a w, m x = n → R x a w →
      ∃ e a' w', Q e a' w' ∧ Arrives P (lone (b.at a (.code body :: .inLoop body :: k)) cs w) b k cs e a' w' := by
    intro n
    induction n using Nat.strongRecOn with
    | _ n ih =>
      intro x a w hn hR
      obtain ⟨e, a₁, w₁, hq, harr⟩ := round x a w hR b (.inLoop body :: k) cs
      cases e with
      | normal =>
        obtain ⟨x', hlt, hR₁⟩ := hq
        obtain ⟨e₂, a₂, w₂, hq₂, harr₂⟩ := ih (m x') (hn ▸ hlt) x' a₁ w₁ rfl hR₁
        exact ⟨e₂, a₂, w₂, hq₂, .of_steps (Steps.trans harr (.one step_inLoop)) harr₂⟩
      | exit id => exact ⟨_, a₁, w₁, hq, .pass (x := .inLoop body) rfl (fun _ _ => .inl (by simp)) harr⟩
      | goto l => exact ⟨_, a₁, w₁, hq, .pass (x := .inLoop body) rfl (fun _ _ => .inl (by simp)) harr⟩
      | ret => exact ⟨_, a₁, w₁, hq, .pass (x := .inLoop body) rfl (fun _ _ => .inl (by simp)) harr⟩
      | panic ch => exact ⟨_, a₁, w₁, hq, .pass (x := .inLoop body) rfl (fun _ _ => .inl (by simp)) harr⟩
      | outgrown => exact ⟨_, a₁, w₁, hq, .pass (x := .inLoop body) rfl (fun _ _ => .inl (by simp)) harr⟩
  obtain ⟨e, a', w', hq, harr⟩ := key _ x₀ a w rfl h₀
  exact ⟨e, a', w', hq, .of_steps (.one step_loop) harr⟩
theorem T_loop {ι : Type} {n body g L D H Q} {Hr : List Atom} (Inv : ι → GW → Prop) (Lf : ι → List (Nat × Value)) (Hf : ι → List Atom) (m : ι → Nat) (x₀ : ι)
    (h₀ : ∀ g', Le g g' → Inv x₀ g') (s₀ : SubL L (Lf x₀)) (p₀ : Part H (Hf x₀) Hr)
    (round : ∀ x g', Le g g' → Inv x g' → T P n body g' (Lf x) D (Hf x) (LoopQ g' n D Inv Lf Hf m x Q)) : T P n (.loop body) g L D H Q := by
  intro a g' hl hk hs
  refine wp_loop_ix (fun x a w => ∃ I, Inv x ⟨w, I⟩ ∧ Le g ⟨w, I⟩ ∧ Kn n (Lf x) D a ∧ Sat (Hf x) ⟨w, I⟩) m x₀ ⟨g'.I, h₀ g' hl, hl, hk.sub s₀, (hs.part p₀).left⟩ ?_
  rintro x a w ⟨I, hI, hle, hkn, hsat⟩
  refine wp_mono (round x ⟨w, I⟩ hle hI a ⟨w, I⟩ (.refl _) hkn hsat) fun e a w ⟨I', q⟩ => ?_
  cases e with
  | normal =>
    obtain ⟨x', hl', hm, hI', hk', hs'⟩ := q
    exact ⟨x', hm, I', hI', hle.trans hl', hk', hs'⟩
  | _ => exact ⟨I', q⟩
/-- The end of a round. -/
theorem E_loop {ι : Type} {gb g : GW} {n L D H Q} {Inv : ι → GW → Prop} {Lf : ι → List (Nat × Value)} {Hf : ι → List Atom} {m : ι → Nat} {x : ι} {Hr : List Atom}
    (hb : Le gb g) (x' : ι) (hm : m x' < m x) (hI : ∀ g', Le g g' → Inv x' g') (s : SubL L (Lf x')) (p : Part H (Hf x') Hr) : E n .normal g L D H (LoopQ gb n D Inv Lf Hf m x Q) :=
  fun _ g' hl hk hs => ⟨x', hb.trans hl, hm, hI g' hl, hk.sub s, (hs.part p).left⟩
theorem E_loop_ret {ι : Type} {gb g : GW} {n L D H Q} {Inv : ι → GW → Prop} {Lf : ι → List (Nat × Value)} {Hf : ι → List Atom} {m : ι → Nat} {x : ι}
    (h : E n .ret g L D H Q) : E n .ret g L D H (LoopQ gb n D Inv Lf Hf m x Q) := h
theorem E_loop_exit {ι : Type} {gb g : GW} {n L D H Q id} {Inv : ι → GW → Prop} {Lf : ι → List (Nat × Value)} {Hf : ι → List Atom} {m : ι → Nat} {x : ι}
    (h : E n (.exit id) g L D H Q) : E n (.exit id) g L D H (LoopQ gb n D Inv Lf Hf m x Q) := h
/-- Two ways meet: what holds there is told by x. -/
def CutQ {ι : Type} (gb : GW) (n : Nat) (D : List Deferred) (Inv : ι → GW → Prop) (Lf : ι → List (Nat × Value)) (Hf : ι → List Atom) (Q : QT) : QT
  | .normal, a, g => ∃ x, Le gb g ∧ Inv x g ∧ Kn n (Lf x) D a ∧ Sat (Hf x) g
  | e, a, g => Q e a g
theorem T_cut {ι : Type} {n x y g L D H Q} (Inv : ι → GW → Prop) (Lf : ι → List (Nat × Value)) (Hf : ι → List Atom)
    (h : T P n x g L D H (CutQ g n D Inv Lf Hf Q)) (k : ∀ i g', Le g g' → Inv i g' → T P n y g' (Lf i) D (Hf i) Q) : T P n (.seq x y) g L D H Q :=
  fun a g' hl hk hs => wp_seq (wp_mono (h a g' hl hk hs) fun e a w ⟨I, q⟩ => by
    cases e with
    | normal =>
      obtain ⟨i, hl', hI, hk', hs'⟩ := q
      exact k i ⟨w, I⟩ hl' hI a ⟨w, I⟩ (.refl _) hk' hs'
    | _ => exact ⟨I, q⟩)
theorem E_cut {ι : Type} {gb g : GW} {n L D H Q} {Inv : ι → GW → Prop} {Lf : ι → List (Nat × Value)} {Hf : ι → List Atom} {Hr : List Atom}
    (hb : Le gb g) (x : ι) (hI : ∀ g', Le g g' → Inv x g') (s : SubL L (Lf x)) (p : Part H (Hf x) Hr) : E n .normal g L D H (CutQ gb n D Inv Lf Hf Q) :=
  fun _ g' hl hk hs => ⟨x, hb.trans hl, hI g' hl, hk.sub s, (hs.part p).left⟩
theorem E_cut_ret {ι : Type} {gb g : GW} {n L D H Q} {Inv : ι → GW → Prop} {Lf : ι → List (Nat × Value)} {Hf : ι → List Atom}
    (h : E n .ret g L D H Q) : E n .ret g L D H (CutQ gb n D Inv Lf Hf Q) := h
theorem E_cut_exit {ι : Type} {gb g : GW} {n L D H Q id} {Inv : ι → GW → Prop} {Lf : ι → List (Nat × Value)} {Hf : ι → List Atom}
    (h : E n (.exit id) g L D H Q) : E n (.exit id) g L D H (CutQ gb n D Inv Lf Hf Q) := h
/-! ### Regions -/
/-- Operation o yields v, whatever world it is, as long as the pieces H are there; it changes nothing. -/
def OpP (P : Program) (o : Oper) (g : GW) (L : List (Nat × Value)) (H : List Atom) (v : Value) : Prop :=
  ∀ (a : Act) n D, Kn n L D a → ∀ g', Le g g' → Sat H g' → (execOp a.eval o).run P g'.w = .ok (.value v) g'.w
/-- What operation o comes to. -/
def Op1 (P : Program) (o : Oper) (g : GW) (L : List (Nat × Value)) (H : List Atom) (K : Value → GW → List Atom → Prop) : Prop :=
  ∀ (a : Act) n D, Kn n L D a → ∀ g', Le g g' → Sat H g' → ∀ (next : Act → World → Prop) (Q : Exit → Act → World → Prop),
    (∀ v g'' H'', Le g' g'' → Sat H'' g'' → K v g'' H'' → next (a.put o.dst v) g''.w) → o.upon P a next Q ((execOp a.eval o).run P g'.w)
theorem OpP.op1 {o : Oper} {g L H v} (h : OpP P o g L H v) : Op1 P o g L H (fun u g' H' => u = v ∧ H' = H ∧ Le g g') :=
  fun a n D hk g' hl hs next Q hn => by
    rw [h a n D hk g' hl hs]
    exact hn v g' H (.refl _) hs ⟨rfl, rfl, hl⟩
/-- What is behind a region: K is asked of the state. -/
abbrev KT := Act → GW → Prop
/-- A list of operations, in the order of the text. -/
def TL (P : Program) (n : Nat) (ops : Array Oper) (l : List Oper) (g : GW) (L : List (Nat × Value)) (D : List Deferred) (H : List Atom) (K : KT) : Prop :=
  ∀ a g', Le g g' → Kn n L D a → Sat H g' → ∀ Q : Exit → Act → World → Prop, (∀ a w, (∃ I, K a ⟨w, I⟩) → Q .normal a w) → wpList P ops Q l a g'.w
theorem T_region {n id ops g L D H} {Q : QT} (h : TL P n ops.toArray ops g L D H (fun a g => Q .normal a g)) : T P n (.region id ops.toArray false) g L D H Q :=
  fun a g' hl hk hs => wp_region_lit (h a g' hl hk hs _ fun a w ⟨I, q⟩ => ⟨I, q⟩)
theorem TL_nil {n ops g L D H} {Q : QT} (h : E n .normal g L D H Q) : TL P n ops [] g L D H (fun a g => Q .normal a g) :=
  fun a g' hl hk hs Q hQ => by
    exact hQ a g'.w ⟨g'.I, h a g' hl hk hs⟩
section
variable {n : Nat} {ops : Array Oper} {l : List Oper} {g : GW} {L : List (Nat × Value)} {D : List Deferred} {H : List Atom} {K : KT} {dd : Nat} {op : Op} {ty : TypeId} {ps : String} {af : Array Edge}
theorem TL_p {v : Value} (hd : Nat.blt dd n = true) (h : OpP P ⟨some dd, op, ty, ps, af, none⟩ g L H v) (k : TL P n ops l g ((dd, v) :: L) D H K) :
    TL P n ops (⟨some dd, op, ty, ps, af, none⟩ :: l) g L D H K :=
  fun a g' hl hk hs Q hQ => wpList_plain rfl fun K' hK => by
    unfold Oper.wp
    rw [h a n D hk g' hl hs]
    exact hK _ _ (k _ g' hl (hk.put dd v hd) hs Q hQ)
/-- A guarded operation that is wanted. -/
theorem TL_pg {v : Value} {j : Nat} {oj : Oper} {d : Nat} {b : Bool} (hj : ops[j]? = some oj) (hdj : oj.dst = some d) (hb : lk L d = some (.bool b))
    (hd : Nat.blt dd n = true) (h : OpP P ⟨some dd, op, ty, ps, af, some (j, b)⟩ g L H v) (k : TL P n ops l g ((dd, v) :: L) D H K) :
    TL P n ops (⟨some dd, op, ty, ps, af, some (j, b)⟩ :: l) g L D H K :=
  fun a g' hl hk hs Q hQ => by
    have hw : Region.wanted ⟨some dd, op, ty, ps, af, some (j, b)⟩ (yielded ops a.tmps) = true := by
      have := hk.look d _ hb
      simp [Region.wanted, yielded, hj, hdj, this]
    unfold wpList
    rw [if_pos hw]
    refine .inl ?_
    unfold Oper.wp
    rw [h a n D hk g' hl hs]
    exact k _ g' hl (hk.put dd v hd) hs Q hQ
/-- A guarded operation that is not wanted. -/
theorem TL_skip {dst : Option Nat} {j : Nat} {oj : Oper} {d : Nat} {b : Bool} (hj : ops[j]? = some oj) (hdj : oj.dst = some d) (hb : lk L d = some (.bool (!b)))
    (hd : okDst n dst = true) (k : TL P n ops l g (pu L dst undef) D H K) :
    TL P n ops (⟨dst, op, ty, ps, af, some (j, b)⟩ :: l) g L D H K :=
  fun a g' hl hk hs Q hQ => by
    have hw : Region.wanted ⟨dst, op, ty, ps, af, some (j, b)⟩ (yielded ops a.tmps) = false := by
      have := hk.look d _ hb
      cases b <;> simp [Region.wanted, yielded, hj, hdj, this]
    unfold wpList
    rw [if_neg (by simp [hw])]
    exact k _ g' hl (hk.pu dst undef hd) hs Q hQ
/-- .. whose guard was itself not wanted. -/
theorem TL_skipU {dst : Option Nat} {j : Nat} {oj : Oper} {d : Nat} {b : Bool} (hj : ops[j]? = some oj) (hdj : oj.dst = some d) (hb : lk L d = some undef)
    (hd : okDst n dst = true) (k : TL P n ops l g (pu L dst undef) D H K) :
    TL P n ops (⟨dst, op, ty, ps, af, some (j, b)⟩ :: l) g L D H K :=
  fun a g' hl hk hs Q hQ => by
    have hw : Region.wanted ⟨dst, op, ty, ps, af, some (j, b)⟩ (yielded ops a.tmps) = false := by
      have := hk.look d _ hb
      simp [Region.wanted, yielded, hj, hdj, this, undef]
    unfold wpList
    rw [if_neg (by simp [hw])]
    exact k _ g' hl (hk.pu dst undef hd) hs Q hQ
theorem TL_e {R : Value → GW → List Atom → Prop} (hd : Nat.blt dd n = true) (h : Op1 P ⟨some dd, op, ty, ps, af, none⟩ g L H R)
    (k : ∀ v g' H', Le g g' → R v g' H' → TL P n ops l g' ((dd, v) :: L) D H' K) : TL P n ops (⟨some dd, op, ty, ps, af, none⟩ :: l) g L D H K :=
  fun a g' hl hk hs Q hQ => wpList_plain rfl fun K' hK =>
    h a n D hk g' hl hs K' Q fun v g'' H'' hl' hs' hR => hK _ _ (k v g'' H'' (hl.trans hl') hR _ g'' (.refl _) (hk.put dd v hd) hs' Q hQ)
theorem TL_e0 {R : Value → GW → List Atom → Prop} (h : Op1 P ⟨none, op, ty, ps, af, none⟩ g L H R)
    (k : ∀ v g' H', Le g g' → R v g' H' → TL P n ops l g' L D H' K) : TL P n ops (⟨none, op, ty, ps, af, none⟩ :: l) g L D H K :=
  fun a g' hl hk hs Q hQ => wpList_plain rfl fun K' hK =>
    h a n D hk g' hl hs K' Q fun v g'' H'' hl' hs' hR => hK _ _ (k v g'' H'' (hl.trans hl') hR _ g'' (.refl _) hk hs' Q hQ)
/-- The same where what R tells does not speak of the new world: the base stays. -/
theorem TL_k {R : Value → GW → List Atom → Prop} (hd : Nat.blt dd n = true) (h : Op1 P ⟨some dd, op, ty, ps, af, none⟩ g L H R)
    (k : ∀ v g' H', Le g g' → R v g' H' → TL P n ops l g ((dd, v) :: L) D H' K) : TL P n ops (⟨some dd, op, ty, ps, af, none⟩ :: l) g L D H K :=
  fun a g' hl hk hs Q hQ => wpList_plain rfl fun K' hK =>
    h a n D hk g' hl hs K' Q fun v g'' H'' hl' hs' hR => hK _ _ (k v g'' H'' (hl.trans hl') hR _ g'' (hl.trans hl') (hk.put dd v hd) hs' Q hQ)
theorem TL_k0 {R : Value → GW → List Atom → Prop} (h : Op1 P ⟨none, op, ty, ps, af, none⟩ g L H R)
    (k : ∀ v g' H', Le g g' → R v g' H' → TL P n ops l g L D H' K) : TL P n ops (⟨none, op, ty, ps, af, none⟩ :: l) g L D H K :=
  fun a g' hl hk hs Q hQ => wpList_plain rfl fun K' hK =>
    h a n D hk g' hl hs K' Q fun v g'' H'' hl' hs' hR => hK _ _ (k v g'' H'' (hl.trans hl') hR _ g'' (hl.trans hl') hk hs' Q hQ)
/-- Guarded ones. -/
theorem TL_kg {R : Value → GW → List Atom → Prop} {j : Nat} {oj : Oper} {d : Nat} {b : Bool} (hj : ops[j]? = some oj) (hdj : oj.dst = some d) (hb : lk L d = some (.bool b))
    (hd : Nat.blt dd n = true) (h : Op1 P ⟨some dd, op, ty, ps, af, some (j, b)⟩ g L H R)
    (k : ∀ v g' H', Le g g' → R v g' H' → TL P n ops l g ((dd, v) :: L) D H' K) : TL P n ops (⟨some dd, op, ty, ps, af, some (j, b)⟩ :: l) g L D H K :=
  fun a g' hl hk hs Q hQ => by
    have hw : Region.wanted ⟨some dd, op, ty, ps, af, some (j, b)⟩ (yielded ops a.tmps) = true := by
      have := hk.look d _ hb
      simp [Region.wanted, yielded, hj, hdj, this]
    unfold wpList
    rw [if_pos hw]
    refine .inl ?_
    exact h a n D hk g' hl hs _ Q fun v g'' H'' hl' hs' hR => (k v g'' H'' (hl.trans hl') hR _ g'' (hl.trans hl') (hk.put dd v hd) hs' Q hQ)
end
/-- A bool that is not known is parted. -/
theorem TL_split {n ops l g L D H K} {t : Bool} (s : Nat) (e : lk L s = some (.bool t)) (ht : t = true → TL P n ops l g ((s, .bool true) :: L) D H K)
    (hf : t = false → TL P n ops l g ((s, .bool false) :: L) D H K) : TL P n ops l g L D H K :=
  fun a g' hl hk hs Q hQ => by
    have e' := hk.look s _ e
    have ext : ∀ b, t = b → Kn n ((s, .bool b) :: L) D a := fun b hb => ⟨hk.size, fun k v h => by
      simp only [lk] at h
      by_cases hsk : s = k
      · subst hsk; simp at h; subst h; rw [e', hb]
      · rw [beq_false hsk] at h; exact hk.look k v h, hk.dfr⟩
    cases t with
    | true => exact ht rfl a g' hl (ext true rfl) hs Q hQ
    | false => exact hf rfl a g' hl (ext false rfl) hs Q hQ
theorem TL_splitD {n ops l g L D H K} {p : Prop} [Decidable p] (s : Nat) (e : lk L s = some (.bool (decide p))) (ht : p → TL P n ops l g ((s, .bool true) :: L) D H K)
    (hf : ¬ p → TL P n ops l g ((s, .bool false) :: L) D H K) : TL P n ops l g L D H K :=
  TL_split s e (fun h => ht (of_decide_eq_true h)) (fun h => hf (of_decide_eq_false h))
theorem TL_splitN {n ops l g L D H K} {p : Prop} [Decidable p] (s : Nat) (e : lk L s = some (.bool (!decide p))) (ht : ¬ p → TL P n ops l g ((s, .bool true) :: L) D H K)
    (hf : p → TL P n ops l g ((s, .bool false) :: L) D H K) : TL P n ops l g L D H K :=
  TL_split s e (fun h => ht (of_decide_eq_false (by simpa using h))) (fun h => hf (of_decide_eq_true (by simpa using h)))
theorem TL_splitNB {n ops l g L D H K} {t : Bool} (s : Nat) (e : lk L s = some (.bool (!t))) (ht : t = false → TL P n ops l g ((s, .bool true) :: L) D H K)
    (hf : t = true → TL P n ops l g ((s, .bool false) :: L) D H K) : TL P n ops l g L D H K :=
  TL_split s e (fun h => ht (by simpa using h)) (fun h => hf (by simpa using h))
end Go.Hl
namespace Go.Hl
variable {P : Program}
theorem run_bind_ok {α β : Type} {p : Program} {s : Sem α} {f : α → Sem β} {w w' : World} {a : α} (h : s.run p w = .ok a w') : (s >>= f).run p w = (f a).run p w' := by
  rw [Sem.run_bind, h]; rfl
theorem run_pure {α : Type} (p : Program) (a : α) (w : World) : (pure a : Sem α).run p w = .ok a w := rfl
/-- How an operation that only computes is run. -/
theorem run_v {s : Sem Value} {p : Program} {v : Value} {w w' : World} (h : s.run p w = .ok v w') :
    (do pure (Next.value (← s)) : Sem Next).run p w = .ok (.value v) w' := by
  rw [run_bind_ok h]; rfl
section
variable {d : Option Nat} {ty : TypeId} {ps : String} {af : Array Edge} {gd : Option (Nat × Bool)} {g : GW} {L : List (Nat × Value)} {H : List Atom}
theorem p_move {x v} (e : ev L x = some v) : OpP P ⟨d, .move x, ty, ps, af, gd⟩ g L H v :=
  fun a n D hk g' hl hs => by simp only [execOp, hk.eval e]; rfl
theorem p_assign {x v} (e : ev L x = some v) : OpP P ⟨d, .assign x, ty, ps, af, gd⟩ g L H v :=
  fun a n D hk g' hl hs => by simp only [execOp, hk.eval e]; rfl
theorem p_pickT {c x y v} (ec : ev L c = some (.bool true)) (e : ev L x = some v) : OpP P ⟨d, .pick c x y, ty, ps, af, gd⟩ g L H v :=
  fun a n D hk g' hl hs => by simp only [execOp, hk.eval e, hk.eval ec]; rfl
theorem p_pickF {c x y v} (ec : ev L c = some (.bool false)) (e : ev L y = some v) : OpP P ⟨d, .pick c x y, ty, ps, af, gd⟩ g L H v :=
  fun a n D hk g' hl hs => by simp only [execOp, hk.eval e, hk.eval ec]; rfl
theorem eqGuard_int {op : BinOp} {t : TypeId} {x y : Operand} {k k' : IntKind} {a b : Int} (w : World) : (eqGuard op t x y (.int k a) (.int k' b)).run P w = .ok () w := by
  unfold eqGuard; cases op <;> rfl
theorem p_bin {op t x y yt va vb r} (ex : ev L x = some va) (ey : ev L y = some vb)
    (h : ∀ w, (do eqGuard op t x y va vb; binOp op t va vb : Sem Value).run P w = .ok r w) : OpP P ⟨d, .binOp op t x y yt, ty, ps, af, gd⟩ g L H r :=
  fun a n D hk g' hl hs => by
    simp only [execOp, hk.eval ex, hk.eval ey]
    exact run_v (h g'.w)
theorem p_int {op t x y yt k k' a b r} (ex : ev L x = some (.int k a)) (ey : ev L y = some (.int k' b))
    (h : ∀ w, (binOp op t (.int k a) (.int k' b)).run P w = .ok r w) : OpP P ⟨d, .binOp op t x y yt, ty, ps, af, gd⟩ g L H r :=
  p_bin ex ey fun w => by rw [run_bind_ok (eqGuard_int w)]; exact h w
theorem p_add {t x y yt k a b c} (ex : ev L x = some (.int k a)) (ey : ev L y = some (.int k b)) (hc : k.wrap (a + b) = c) :
    OpP P ⟨d, .binOp .add t x y yt, ty, ps, af, gd⟩ g L H (.int k c) := p_int ex ey fun w => by subst hc; simp [binOp, Op.intArith]
theorem p_sub {t x y yt k a b c} (ex : ev L x = some (.int k a)) (ey : ev L y = some (.int k b)) (hc : k.wrap (a - b) = c) :
    OpP P ⟨d, .binOp .sub t x y yt, ty, ps, af, gd⟩ g L H (.int k c) := p_int ex ey fun w => by subst hc; simp [binOp, Op.intArith]
theorem p_mul {t x y yt k a b c} (ex : ev L x = some (.int k a)) (ey : ev L y = some (.int k b)) (hc : k.wrap (a * b) = c) :
    OpP P ⟨d, .binOp .mul t x y yt, ty, ps, af, gd⟩ g L H (.int k c) := p_int ex ey fun w => by subst hc; simp [binOp, Op.intArith]
theorem p_quo {t x y yt k a b c} (ex : ev L x = some (.int k a)) (ey : ev L y = some (.int k b)) (h0 : b ≠ 0) (hc : k.wrap (a.tdiv b) = c) :
    OpP P ⟨d, .binOp .quo t x y yt, ty, ps, af, gd⟩ g L H (.int k c) := p_int ex ey fun w => by subst hc; simp [binOp, Op.intDiv, h0]
theorem p_rem {t x y yt k a b c} (ex : ev L x = some (.int k a)) (ey : ev L y = some (.int k b)) (h0 : b ≠ 0) (hc : a.tmod b = c) :
    OpP P ⟨d, .binOp .rem t x y yt, ty, ps, af, gd⟩ g L H (.int k c) := p_int ex ey fun w => by subst hc; simp [binOp, Op.intDiv, h0]
/-- What bits make of two numbers. -/
def bitsOf (op : BinOp) (k : IntKind) (a b : Int) : Int :=
  match op with
  | .and => k.wrap (BitVec.ofInt k.bits a &&& BitVec.ofInt k.bits b).toNat
  | .or => k.wrap (BitVec.ofInt k.bits a ||| BitVec.ofInt k.bits b).toNat
  | .xor => k.wrap (BitVec.ofInt k.bits a ^^^ BitVec.ofInt k.bits b).toNat
  | _ => k.wrap (BitVec.ofInt k.bits a &&& ~~~(BitVec.ofInt k.bits b)).toNat
theorem p_and {t x y yt k a b c} (ex : ev L x = some (.int k a)) (ey : ev L y = some (.int k b)) (hc : bitsOf .and k a b = c) :
    OpP P ⟨d, .binOp .and t x y yt, ty, ps, af, gd⟩ g L H (.int k c) := p_int ex ey fun w => by subst hc; simp [binOp, Op.intBits, bitsOf]
theorem p_or {t x y yt k a b c} (ex : ev L x = some (.int k a)) (ey : ev L y = some (.int k b)) (hc : bitsOf .or k a b = c) :
    OpP P ⟨d, .binOp .or t x y yt, ty, ps, af, gd⟩ g L H (.int k c) := p_int ex ey fun w => by subst hc; simp [binOp, Op.intBits, bitsOf]
theorem p_xor {t x y yt k a b c} (ex : ev L x = some (.int k a)) (ey : ev L y = some (.int k b)) (hc : bitsOf .xor k a b = c) :
    OpP P ⟨d, .binOp .xor t x y yt, ty, ps, af, gd⟩ g L H (.int k c) := p_int ex ey fun w => by subst hc; simp [binOp, Op.intBits, bitsOf]
theorem p_andNot {t x y yt k a b c} (ex : ev L x = some (.int k a)) (ey : ev L y = some (.int k b)) (hc : bitsOf .andNot k a b = c) :
    OpP P ⟨d, .binOp .andNot t x y yt, ty, ps, af, gd⟩ g L H (.int k c) := p_int ex ey fun w => by subst hc; simp [binOp, Op.intBits, bitsOf]
theorem p_eql {t x y yt k a b} (ex : ev L x = some (.int k a)) (ey : ev L y = some (.int k b)) :
    OpP P ⟨d, .binOp .eql t x y yt, ty, ps, af, gd⟩ g L H (.bool (decide (a = b))) := p_int ex ey fun w => by
  simp only [binOp, Op.intCmp, ne_eq, not_true_eq_false, if_false]; rfl
theorem p_neq {t x y yt k a b} (ex : ev L x = some (.int k a)) (ey : ev L y = some (.int k b)) :
    OpP P ⟨d, .binOp .neq t x y yt, ty, ps, af, gd⟩ g L H (.bool (decide (a ≠ b))) := p_int ex ey fun w => by
  simp only [binOp, Op.intCmp, ne_eq, not_true_eq_false, if_false, bne, decide_not]; rfl
theorem p_lss {t x y yt k a b} (ex : ev L x = some (.int k a)) (ey : ev L y = some (.int k b)) :
    OpP P ⟨d, .binOp .lss t x y yt, ty, ps, af, gd⟩ g L H (.bool (decide (a < b))) := p_int ex ey fun w => by simp [binOp, Op.intCmp]
theorem p_leq {t x y yt k a b} (ex : ev L x = some (.int k a)) (ey : ev L y = some (.int k b)) :
    OpP P ⟨d, .binOp .leq t x y yt, ty, ps, af, gd⟩ g L H (.bool (decide (a ≤ b))) := p_int ex ey fun w => by simp [binOp, Op.intCmp]
theorem p_gtr {t x y yt k a b} (ex : ev L x = some (.int k a)) (ey : ev L y = some (.int k b)) :
    OpP P ⟨d, .binOp .gtr t x y yt, ty, ps, af, gd⟩ g L H (.bool (decide (b < a))) := p_int ex ey fun w => by simp [binOp, Op.intCmp]
theorem p_geq {t x y yt k a b} (ex : ev L x = some (.int k a)) (ey : ev L y = some (.int k b)) :
    OpP P ⟨d, .binOp .geq t x y yt, ty, ps, af, gd⟩ g L H (.bool (decide (b ≤ a))) := p_int ex ey fun w => by simp [binOp, Op.intCmp]
theorem p_not {t x b} (ex : ev L x = some (.bool b)) : OpP P ⟨d, .unOp .not t x, ty, ps, af, gd⟩ g L H (.bool (!b)) :=
  fun a n D hk g' hl hs => by simp only [execOp, hk.eval ex, Op.unary]; rfl
theorem p_conv {src dst x k k' n ds r} (ex : ev L x = some (.int k' n)) (hs : ∀ w, (underlying src).run P w = .ok ds w) (hd : ∀ w, (underlying dst).run P w = .ok (.int k) w)
    (hr : k.wrap n = r) : OpP P ⟨d, .convert src dst x, ty, ps, af, gd⟩ g L H (.int k r) :=
  fun a nn D hk g' hl _ => by
    subst hr
    simp only [execOp, hk.eval ex]
    refine run_v ?_
    unfold convert
    rw [run_bind_ok (hs _), run_bind_ok (hd _)]
    rfl
/-- A string to a string. -/
theorem p_convStr {src dst x s ds} (ex : ev L x = some (.string s)) (hs : ∀ w, (underlying src).run P w = .ok ds w) (hd : ∀ w, (underlying dst).run P w = .ok .string w)
    : OpP P ⟨d, .convert src dst x, ty, ps, af, gd⟩ g L H (.string s) :=
  fun a nn D hk g' hl _ => by
    simp only [execOp, hk.eval ex]
    refine run_v ?_
    unfold convert
    rw [run_bind_ok (hs _), run_bind_ok (hd _)]
    rfl
theorem p_extract {x i vs v} (ex : ev L x = some (.tuple vs)) (hv : vs[i]? = some v) : OpP P ⟨d, .extract x i, ty, ps, af, gd⟩ g L H v :=
  fun a n D hk g' hl hs => by
    simp only [execOp, hk.eval ex]
    refine run_v ?_
    simp only [Instr.extract, hv]; rfl
theorem p_nilCheck {x b} (ex : ev L x = some (.pointer (some b))) : OpP P ⟨d, .nilCheck x, ty, ps, af, gd⟩ g L H (.pointer (some b)) :=
  fun a n D hk g' hl hs => by simp only [execOp, hk.eval ex]; rfl
theorem p_nilCheckI {x t v} (ex : ev L x = some (.iface t v)) : OpP P ⟨d, .nilCheck x, ty, ps, af, gd⟩ g L H (.iface t v) :=
  fun a n D hk g' hl hs => by simp only [execOp, hk.eval ex]; rfl
theorem p_nilCheckF {x f u c} (ex : ev L x = some (.func (.func f) u c)) : OpP P ⟨d, .nilCheck x, ty, ps, af, gd⟩ g L H (.func (.func f) u c) :=
  fun a n D hk g' hl hs => by simp only [execOp, hk.eval ex]; rfl
theorem addr_add (b o n : Nat) : Addr.add ⟨b, o, none⟩ n = ⟨b, o + n, none⟩ := by
  unfold Addr.add
  split
  · rename_i h; subst h; rfl
  · rfl
theorem p_fieldAddr {s x i b o fs f m r} (ex : ev L x = some (.pointer (some ⟨b, o, none⟩))) (hu : ∀ w, (underlying s).run P w = .ok (.struct fs) w) (hf : fs[i]? = some f)
    (hz : ∀ w, (sizeOf f.type).run P w = .ok (m + 1) w) (hr : o + f.offset = r) : OpP P ⟨d, .fieldAddr s x i, ty, ps, af, gd⟩ g L H (.pointer (some ⟨b, r, none⟩)) :=
  fun a n D hk g' hl hs => by
    subst hr
    simp only [execOp, hk.eval ex]
    refine run_v ?_
    unfold Instr.fieldAt
    rw [run_bind_ok (hu _)]
    simp only [hf, Instr.sureAddr, fieldPlace, Sem.run_bind, hz, Sem.run_pure, Result.andThen_ok]
    rw [if_neg (by omega), Sem.run_pure, Result.andThen_ok, addr_add]
theorem p_indexAddr {t x ix b o len cap k elem sz r} {j : Nat} {i : Int} (ex : ev L x = some (.slice (some ⟨b, o, none⟩) len cap)) (ei : ev L ix = some (.int k i))
    (hu : ∀ w, (underlying t).run P w = .ok (.slice elem) w) (hz : ∀ w, (sizeOf elem).run P w = .ok sz w) (hi : i = (j : Int)) (hj : j < len) (hr : o + j * sz = r) :
    OpP P ⟨d, .indexAddr t x ix, ty, ps, af, gd⟩ g L H (.pointer (some ⟨b, r, none⟩)) :=
  fun a n D hk g' hl hs => by
    subst hr; subst hi
    simp only [execOp, hk.eval ex, hk.eval ei]
    refine run_v ?_
    unfold Instr.indexAt
    simp only [asIntOf, Sem.run_bind, Sem.run_pure, Result.andThen_ok, hu]
    rw [if_pos ⟨by omega, by omega⟩]
    simp only [Sem.run_bind, hz, Result.andThen_ok, Sem.run_pure, Int.toNat_natCast, addr_add]
theorem p_indexAddrA {t x ix b o len k elem sz r} {j : Nat} {i : Int} (ex : ev L x = some (.pointer (some ⟨b, o, none⟩))) (ei : ev L ix = some (.int k i))
    (hu : ∀ w, (underlying t).run P w = .ok (.array len elem) w) (hz : ∀ w, (sizeOf elem).run P w = .ok sz w) (hi : i = (j : Int)) (hj : j < len) (hr : o + j * sz = r) :
    OpP P ⟨d, .indexAddr t x ix, ty, ps, af, gd⟩ g L H (.pointer (some ⟨b, r, none⟩)) :=
  fun a n D hk g' hl hs => by
    subst hr; subst hi
    simp only [execOp, hk.eval ex, hk.eval ei]
    refine run_v ?_
    unfold Instr.indexAt
    simp only [asIntOf, Sem.run_bind, Sem.run_pure, Result.andThen_ok, hu, Instr.sureAddr]
    rw [if_pos ⟨by omega, by omega⟩]
    simp only [Sem.run_bind, hz, Result.andThen_ok, Sem.run_pure, Int.toNat_natCast, addr_add]
theorem p_lenSl {at_ x t p len cap e} (ex : ev L x = some (.slice p len cap)) (ha : at_[0]? = some t) (hu : ∀ w, (underlying t).run P w = .ok (.slice e) w) :
    OpP P ⟨d, .call ⟨.builtin .len, #[x], at_⟩, ty, ps, af, gd⟩ g L H (.int .i64 len) :=
  fun a n D hk g' hl hs => by
    simp only [execOp, resolve, invoke, builtin, List.map_toArray, List.map_cons, List.map_nil, hk.eval ex, Sem.run_bind, Sem.run_pure, Result.andThen_ok, Builtin.len_, ha, hu, goInt,
      List.getElem?_toArray, List.getElem?_cons_zero]
theorem p_lenStr {at_ x t s} (ex : ev L x = some (.string s)) (ha : at_[0]? = some t) (hu : ∀ w, (underlying t).run P w = .ok .string w) :
    OpP P ⟨d, .call ⟨.builtin .len, #[x], at_⟩, ty, ps, af, gd⟩ g L H (.int .i64 s.size) :=
  fun a n D hk g' hl hs => by
    simp only [execOp, resolve, invoke, builtin, List.map_toArray, List.map_cons, List.map_nil, hk.eval ex, Sem.run_bind, Sem.run_pure, Result.andThen_ok, Builtin.len_, ha, hu, goInt,
      List.getElem?_toArray, List.getElem?_cons_zero]
/-- A frozen cell. -/
def Cell (g : GW) (b o : Nat) (v : Value) : Prop := g.I b ∧ g.w.cell? ⟨b, o, none⟩ = some v
theorem Cell.mono {g g' : GW} {b o v} (h : Cell g b o v) (hl : Le g g') : Cell g' b o v :=
  ⟨hl.sub _ h.1, by have := h.2; simp only [World.cell?] at *; rw [hl.same _ h.1]; exact this⟩
def Cells (g : GW) (b o : Nat) (vs : List Value) : Prop := ∀ j v, vs[j]? = some v → Cell g b (o + j) v
theorem Cells.mono {g g' : GW} {b o vs} (h : Cells g b o vs) (hl : Le g g') : Cells g' b o vs := fun j v e => (h j v e).mono hl
theorem run_load_cell {w : World} {b o : Nat} {v : Value} {t : TypeId} (ha : ∀ w, (isAgg t).run P w = .ok false w) (hc : w.cell? ⟨b, o, none⟩ = some v) :
    (Instr.loadAt t (.pointer (some ⟨b, o, none⟩))).run P w = .ok v w := by
  simp only [Instr.loadAt, Instr.sureAddr, Sem.run_bind, Sem.run_pure, Result.andThen_ok, loadVar, ha, Bool.false_eq_true, if_false, run_load, hc]
/-- Load of one cell out of a frozen block. -/
theorem p_loadF {t x b o v} (ex : ev L x = some (.pointer (some ⟨b, o, none⟩))) (ha : ∀ w, (isAgg t).run P w = .ok false w) (hc : Cell g b o v) :
    OpP P ⟨d, .load t x, ty, ps, af, gd⟩ g L H v :=
  fun a n D hk g' hl hs => by
    simp only [execOp, hk.eval ex]
    exact run_v (run_load_cell ha (hc.mono hl).2)
theorem p_loadFs {t x b o o' vs v} (j : Nat) (ex : ev L x = some (.pointer (some ⟨b, o', none⟩))) (ha : ∀ w, (isAgg t).run P w = .ok false w) (hc : Cells g b o vs) (hj : vs[j]? = some v)
    (ho : o' = o + j) : OpP P ⟨d, .load t x, ty, ps, af, gd⟩ g L H v := by
  subst ho; exact p_loadF ex ha (hc j v hj)
/-- Load of one cell out of a block that is held. -/
theorem p_load {t x b o cs el fz v} (ex : ev L x = some (.pointer (some ⟨b, o, none⟩))) (ha : ∀ w, (isAgg t).run P w = .ok false w) (hm : blk b (.cells cs el fz) ∈ H) (hv : cs[o]? = some v) :
    OpP P ⟨d, .load t x, ty, ps, af, gd⟩ g L H v :=
  fun a n D hk g' hl hs => by
    simp only [execOp, hk.eval ex]
    refine run_v (run_load_cell ha ?_)
    have hb : g'.w.heap[b]? = some (.cells cs el fz) := hs.holds _ hm
    simp only [World.cell?, hb, Option.isSome_none, Bool.false_eq_true, if_false, hv]
theorem p_mkIface {t x v u} (ex : ev L x = some v) (hu : ∀ w, (underlying t).run P w = .ok u w) (hn : ∀ ms, u ≠ .interface ms) :
    OpP P ⟨d, .makeInterface t x, ty, ps, af, gd⟩ g L H (.iface t v) :=
  fun a n D hk g' hl hs => by
    simp only [execOp, hk.eval ex]
    refine run_v ?_
    unfold Instr.makeInterface
    rw [run_bind_ok (hu _)]
    cases u <;> first | rfl | exact absurd rfl (hn _)
theorem p_index {t x ix k s v} {j : Nat} {i : Int} (ex : ev L x = some (.string s)) (ei : ev L ix = some (.int k i)) (hu : ∀ w, (underlying t).run P w = .ok .string w)
    (hi : i = (j : Int)) (hv : s[j]? = some v) : OpP P ⟨d, .index t x ix, ty, ps, af, gd⟩ g L H (.int .u8 v.toNat) :=
  fun a n D hk g' hl hs => by
    subst hi
    simp only [execOp, hk.eval ex, hk.eval ei]
    refine run_v ?_
    unfold Instr.index
    simp only [asIntOf, Sem.run_bind, Sem.run_pure, Result.andThen_ok, hu]
    rw [if_pos (by omega)]
    simp only [Int.toNat_natCast, hv, Sem.run_pure]
end
theorem wr64 {z : Int} (h1 : -9223372036854775808 ≤ z) (h2 : z ≤ 9223372036854775807) : IntKind.i64.wrap z = z := by
  simp [IntKind.wrap, IntKind.bits, IntKind.signed]
  split <;> omega
theorem wrI32 {z : Int} (h1 : -2147483648 ≤ z) (h2 : z ≤ 2147483647) : IntKind.i32.wrap z = z := by
  simp [IntKind.wrap, IntKind.bits, IntKind.signed]
  split <;> omega
theorem wrI8 {z : Int} (h1 : -128 ≤ z) (h2 : z ≤ 127) : IntKind.i8.wrap z = z := by
  simp [IntKind.wrap, IntKind.bits, IntKind.signed]
  split <;> omega
/-- Division of numbers of 0 or more. -/
theorem quoN (n k : Nat) (h : n ≤ 9223372036854775807) : IntKind.i64.wrap ((n : Int).tdiv (k : Int)) = ((n / k : Nat) : Int) := by
  have e : (n : Int).tdiv (k : Int) = ((n / k : Nat) : Int) := rfl
  have hle := Nat.div_le_self n k
  rw [e]
  generalize n / k = q at *
  exact wr64 (by omega) (by omega)
theorem remN (n k : Nat) : (n : Int).tmod (k : Int) = ((n % k : Nat) : Int) := rfl
theorem wrU64 {z : Int} (h1 : 0 ≤ z) (h2 : z ≤ 18446744073709551615) : IntKind.u64.wrap z = z := by
  simp only [IntKind.wrap, IntKind.bits, IntKind.signed, Bool.false_and, Bool.false_eq_true, if_false]; omega
theorem wrU32 {z : Int} (h1 : 0 ≤ z) (h2 : z ≤ 4294967295) : IntKind.u32.wrap z = z := by
  simp only [IntKind.wrap, IntKind.bits, IntKind.signed, Bool.false_and, Bool.false_eq_true, if_false]; omega
theorem wrU8 {z : Int} (h1 : 0 ≤ z) (h2 : z ≤ 255) : IntKind.u8.wrap z = z := by
  simp only [IntKind.wrap, IntKind.bits, IntKind.signed, Bool.false_and, Bool.false_eq_true, if_false]; omega
theorem wrU16 {z : Int} (h1 : 0 ≤ z) (h2 : z ≤ 65535) : IntKind.u16.wrap z = z := by
  simp only [IntKind.wrap, IntKind.bits, IntKind.signed, Bool.false_and, Bool.false_eq_true, if_false]; omega
section
variable {d : Option Nat} {ty : TypeId} {ps : String} {af : Array Edge} {gd : Option (Nat × Bool)} {g : GW} {L : List (Nat × Value)} {H : List Atom}
theorem p_shl {t x y yt k yk a b n c} (ex : ev L x = some (.int k a)) (ey : ev L y = some (.int yk b)) (h0 : 0 ≤ b) (hn : min b.toNat k.bits = n) (hc : k.wrap (a * 2 ^ n) = c) :
    OpP P ⟨d, .binOp .shl t x y yt, ty, ps, af, gd⟩ g L H (.int k c) := p_int ex ey fun w => by
  subst hc; subst hn
  have h : ¬ b < 0 := by omega
  simp [binOp, Op.shift, h]
theorem p_shr {t x y yt k yk a b n c} (ex : ev L x = some (.int k a)) (ey : ev L y = some (.int yk b)) (h0 : 0 ≤ b) (hn : min b.toNat k.bits = n) (hc : a.fdiv (2 ^ n) = c) :
    OpP P ⟨d, .binOp .shr t x y yt, ty, ps, af, gd⟩ g L H (.int k c) := p_int ex ey fun w => by
  subst hc; subst hn
  have h : ¬ b < 0 := by omega
  simp [binOp, Op.shift, h]
end
end Go.Hl
namespace Go.Hl
variable {P : Program}
/-- Function f, called with args where the pieces H are there, returns a value of which R holds, with the pieces that R tells; all else is as it was. -/
def Ct (P : Program) (g : GW) (f : FuncId) (args : List Value) (H : List Atom) (R : Value → GW → List Atom → Prop) : Prop :=
  (∃ fn, P.funcs[f]? = some fn ∧ fn.body.isNone = false ∧ (fn.name == "runtime.NumGoroutine") = false) ∧
  ∀ (F : Atom) g', Le g g' → Sat (H ++ [F]) g' → Calls P f args.toArray g'.w
    (fun e w' => ∃ v I H', e = .returned v ∧ Le g' ⟨w', I⟩ ∧ R v ⟨w', I⟩ H' ∧ Sat (H' ++ [F]) ⟨w', I⟩)
theorem Ct.mono {g f args H} {R R' : Value → GW → List Atom → Prop} (h : Ct P g f args H R) (hr : ∀ v g' H', Le g g' → R v g' H' → R' v g' H') : Ct P g f args H R' :=
  ⟨h.1, fun F g' hl hs => (h.2 F g' hl hs).mono fun e w' ⟨v, I, H', he, hl', hR, hs'⟩ => ⟨v, I, H', he, hl', hr _ _ _ (hl.trans hl') hR, hs'⟩⟩
theorem Ct.base {g g₁ f args H} {R : Value → GW → List Atom → Prop} (h : Ct P g₁ f args H R) (hl : Le g₁ g) : Ct P g f args H R :=
  ⟨h.1, fun F g' hl' hs => h.2 F g' (hl.trans hl') hs⟩
def slots : Nat → List Value → List (Nat × Value)
  | _, [] => []
  | k, v :: vs => (k, v) :: slots (k + 1) vs
theorem lk_slots : ∀ (vs : List Value) (k j : Nat) (v : Value), lk (slots k vs) j = some v → ∃ i, j = k + i ∧ vs[i]? = some v
  | [], k, j, v, h => by cases h
  | u :: vs, k, j, v, h => by
    simp only [slots, lk] at h
    by_cases hk : k = j
    · subst hk; simp at h; exact ⟨0, rfl, by simp [h]⟩
    · rw [beq_false hk] at h
      obtain ⟨i, hi, hv⟩ := lk_slots vs (k + 1) j v h
      exact ⟨i + 1, by omega, by simpa using hv⟩
theorem Kn.start (n : Nat) (args : List Value) (h : args.length ≤ n) :
    Kn n (slots 0 args) [] { tmps := args.toArray ++ Array.replicate (n - args.toArray.size) undef, defers := [] } := by
  refine ⟨by simp; omega, fun k v e => ?_, rfl⟩
  obtain ⟨i, hi, hv⟩ := lk_slots args 0 k v e
  obtain rfl : k = i := by omega
  have hlt : k < args.length := (List.getElem?_eq_some_iff.1 hv).1
  rw [Array.getElem?_append_left (by simpa using hlt)]
  simpa using hv
/-- What the end of a function's body owes. -/
def RetQ (P : Program) (fn : Func) (R : Value → GW → List Atom → Prop) (F : Atom) (gb : GW) : QT
  | .normal, a, g | .ret, a, g => a.defers = [] ∧ ∃ v H', (results fn a.tmps).run P g.w = .ok v g.w ∧ Le gb g ∧ R v g H' ∧ Sat (H' ++ [F]) g
  | _, _, _ => False
theorem Ct_intro {g f args H R} {fn : Func} {c : Code} {n : Nat} (hf : P.funcs[f]? = some fn) (hb : fn.body = some c) (hn : (fn.name == "runtime.NumGoroutine") = false) (hnt : fn.ntmps = n) (ha : Nat.ble args.length n = true)
    (h : ∀ F g', Le g g' → T P n c g' (slots 0 args) [] (H ++ [F]) (RetQ P fn R F g')) : Ct P g f args H R := by
  subst hnt
  refine ⟨⟨fn, hf, by simp [hb], hn⟩, fun F g' hl hs => ?_⟩
  refine calls_of_wp hf hb ?_
  refine wp_mono (h F g' hl _ g' (.refl _) (Kn.start _ _ (Nat.le_of_ble_eq_true ha)) hs) fun e a w ⟨I, q⟩ => ?_
  cases e with
  | normal =>
    obtain ⟨hd, v, H', hr, hl', hR, hs'⟩ := q
    exact ⟨hd, v, hr, v, I, H', rfl, hl', hR, hs'⟩
  | ret =>
    obtain ⟨hd, v, H', hr, hl', hR, hs'⟩ := q
    exact ⟨hd, v, hr, v, I, H', rfl, hl', hR, hs'⟩
  | _ => exact q.elim
theorem Kn.getD {n L D a} (h : Kn n L D a) {t : Nat} {v : Value} (e : lk L t = some v) : a.tmps.getD t undef = v := by
  have := h.look t v e
  simp [this]
section
variable {n : Nat} {fn : Func} {R : Value → GW → List Atom → Prop} {F : Atom} {gb g : GW} {L : List (Nat × Value)} {H Hr : List Atom} (H' : List Atom)
theorem E_ret1 {t v} (hr : fn.results = #[.tmp t]) (hb : Le gb g) (e : lk L t = some v) (p : Part H (H' ++ [F]) Hr) (h : ∀ g', Le g g' → R v g' H') : E n .ret g L [] H (RetQ P fn R F gb) :=
  fun a g' hl hk hs => ⟨hk.dfr, v, H', by simp [results, hr, hk.look _ _ e], hb.trans hl, h g' hl, (hs.part p).left⟩
theorem E_ret2 {t u v x} (hr : fn.results = #[.tmp t, .tmp u]) (hb : Le gb g) (e : lk L t = some v) (e' : lk L u = some x) (p : Part H (H' ++ [F]) Hr) (h : ∀ g', Le g g' → R (.tuple #[v, x]) g' H') :
    E n .ret g L [] H (RetQ P fn R F gb) :=
  fun a g' hl hk hs => ⟨hk.dfr, _, H', by simp [results, hr, hk.look _ _ e, hk.look _ _ e'], hb.trans hl, h g' hl, (hs.part p).left⟩
theorem E_ret3 {t u s v x y} (hr : fn.results = #[.tmp t, .tmp u, .tmp s]) (hb : Le gb g) (e : lk L t = some v) (e' : lk L u = some x) (e'' : lk L s = some y) (p : Part H (H' ++ [F]) Hr)
    (h : ∀ g', Le g g' → R (.tuple #[v, x, y]) g' H') : E n .ret g L [] H (RetQ P fn R F gb) :=
  fun a g' hl hk hs => ⟨hk.dfr, _, H', by simp [results, hr, hk.look _ _ e, hk.look _ _ e', hk.look _ _ e''], hb.trans hl, h g' hl, (hs.part p).left⟩
theorem E_end0 (hr : fn.results = #[]) (hb : Le gb g) (p : Part H (H' ++ [F]) Hr) (h : ∀ g', Le g g' → R (.tuple #[]) g' H') : E n .normal g L [] H (RetQ P fn R F gb) :=
  fun a g' hl hk hs => ⟨hk.dfr, _, H', by simp [results, hr], hb.trans hl, h g' hl, (hs.part p).left⟩
theorem E_ret0 (hr : fn.results = #[]) (hb : Le gb g) (p : Part H (H' ++ [F]) Hr) (h : ∀ g', Le g g' → R (.tuple #[]) g' H') : E n .ret g L [] H (RetQ P fn R F gb) :=
  fun a g' hl hk hs => ⟨hk.dfr, _, H', by simp [results, hr], hb.trans hl, h g' hl, (hs.part p).left⟩
end
def evs (L : List (Nat × Value)) : List Operand → Option (List Value)
  | [] => some []
  | x :: xs => match ev L x, evs L xs with
    | some v, some vs => some (v :: vs)
    | _, _ => none
theorem Kn.evals {n L D a} (h : Kn n L D a) : ∀ {xs : List Operand} {vs : List Value}, evs L xs = some vs → xs.map a.eval = vs
  | [], vs, e => by simpa [evs] using e
  | x :: xs, vs, e => by
    simp only [evs] at e
    cases h1 : ev L x with
    | none => simp [h1] at e
    | some v =>
      cases h2 : evs L xs with
      | none => simp [h1, h2] at e
      | some us =>
        simp [h1, h2] at e
        rw [← e, List.map_cons, h.eval h1, h.evals h2]
section
variable {d : Option Nat} {ty : TypeId} {ps : String} {af : Array Edge} {gd : Option (Nat × Bool)} {g : GW} {L : List (Nat × Value)} {H : List Atom}
/-- A contract at a call: the pieces that the callee takes, and the rest. -/
theorem ct_upon {o : Oper} {f : FuncId} {vs : List Value} {Hp Hr : List Atom} {R : Value → GW → List Atom → Prop}
    (hrun : ∀ (a : Act) n D, Kn n L D a → ∀ w, (execOp a.eval o).run P w = (callFunc f vs.toArray).run P w) (h : Ct P g f vs Hp R) (p : Part H Hp Hr) :
    Op1 P o g L H (fun v g' H'' => ∃ H', H'' = H' ++ Hr ∧ R v g' H') := by
  intro a n D hk g' hl hs next Q hn
  obtain ⟨⟨fn, hfn, hb, hnm⟩, hc⟩ := h
  have hr : (callFunc f vs.toArray).run P g'.w = .ok (.enter f vs.toArray) g'.w := by
    unfold callFunc
    simp only [program, Sem.run_bind, Sem.run, Result.andThen_ok, hfn, hnm, hb, Bool.false_eq_true, if_false, Sem.run_pure]
  rw [hrun a n D hk, hr]
  show Calls P f _ _ _
  refine (hc (many Hr) g' hl (hs.part p).fold).mono ?_
  rintro e w' ⟨v, I, H', rfl, hl', hR, hs'⟩
  exact hn v ⟨w', I⟩ (H' ++ Hr) hl' hs'.unfold ⟨H', rfl, hR⟩
theorem e_call {f xs at_ vs Hp Hr} {R : Value → GW → List Atom → Prop} (e : evs L xs = some vs) (h : Ct P g f vs Hp R) (p : Part H Hp Hr) :
    Op1 P ⟨d, .call ⟨.value (.func f), xs.toArray, at_⟩, ty, ps, af, gd⟩ g L H (fun v g' H'' => ∃ H', H'' = H' ++ Hr ∧ R v g' H') :=
  ct_upon (fun a n D hk w => by
    have hv := hk.evals e
    simp only [execOp, resolve, Sem.run_bind, Act.eval, Deferred.ofValue, Sem.run_pure, Result.andThen_ok, invoke, List.map_toArray, hv]
    simp) h p
/-- A call of a function value that is known. -/
theorem e_callV {x f u c xs at_ vs Hp Hr} {R : Value → GW → List Atom → Prop} (ex : ev L x = some (.func (.func f) u c)) (e : evs L xs = some vs) (h : Ct P g f (u.toList ++ vs ++ c.toList) Hp R) (p : Part H Hp Hr) :
    Op1 P ⟨d, .call ⟨.value x, xs.toArray, at_⟩, ty, ps, af, gd⟩ g L H (fun v g' H'' => ∃ H', H'' = H' ++ Hr ∧ R v g' H') :=
  ct_upon (vs := u.toList ++ vs ++ c.toList) (fun a n D hk w => by
    have hv := hk.evals e
    have hx := hk.eval ex
    simp only [execOp, resolve, Sem.run_bind, hx, Deferred.ofValue, Sem.run_pure, Result.andThen_ok, invoke, List.map_toArray, hv]
    congr 2
    apply Array.ext'
    simp) h p
/-- A call through an interface value whose method is known. -/
theorem e_invoke {x t rv m f rv' xs at_ vs Hp Hr} {R : Value → GW → List Atom → Prop} (ex : ev L x = some (.iface t rv)) (hm : ∀ w, (method (P.types.size + Made.depth) t rv m).run P w = .ok (f, rv') w)
    (e : evs L xs = some vs) (h : Ct P g f (rv' :: vs) Hp R) (p : Part H Hp Hr) :
    Op1 P ⟨d, .call ⟨.invoke x m, xs.toArray, at_⟩, ty, ps, af, gd⟩ g L H (fun v g' H'' => ∃ H', H'' = H' ++ Hr ∧ R v g' H') :=
  ct_upon (vs := rv' :: vs) (fun a n D hk w => by
    have hv := hk.evals e
    have hx := hk.eval ex
    simp only [execOp, resolve, Sem.run_bind, Sem.run_pure, Result.andThen_ok, invoke, List.map_toArray, hv, hx]
    have e0 : (#[Value.iface t rv] ++ vs.toArray)[0]? = some (.iface t rv) := by simp
    have e1 : (#[Value.iface t rv] ++ vs.toArray).extract 1 (#[Value.iface t rv] ++ vs.toArray).size = vs.toArray := by
      apply Array.ext'
      simp
    simp only [e0, e1, callMethod, program, Sem.run_bind, Sem.run, Result.andThen_ok]
    rw [hm w]
    simp) h p
end
end Go.Hl
namespace Go.Hl
variable {P : Program}
def setR (c : Array Value) (k : Nat) : List Value → Array Value
  | [] => c
  | v :: vs => setR (c.setIfInBounds k v) (k + 1) vs
theorem size_setR : ∀ (vs : List Value) (c : Array Value) (k : Nat), (setR c k vs).size = c.size
  | [], c, k => rfl
  | v :: vs, c, k => by rw [setR, size_setR vs]; simp
theorem setR_get : ∀ (vs : List Value) (c : Array Value) (k j : Nat), k + vs.length ≤ c.size →
    (setR c k vs)[j]? = if k ≤ j ∧ j < k + vs.length then vs[j - k]? else c[j]?
  | [], c, k, j, h => by rw [if_neg (by intro hh; simp at hh; omega)]; rfl
  | v :: vs, c, k, j, h => by
    have hlen : (v :: vs).length = vs.length + 1 := rfl
    rw [hlen] at h ⊢
    rw [setR, setR_get vs _ (k + 1) j (by simp; omega)]
    by_cases h1 : k + 1 ≤ j ∧ j < k + 1 + vs.length
    · rw [if_pos h1, if_pos ⟨by omega, by omega⟩]
      have e : j - k = (j - (k + 1)) + 1 := by omega
      rw [e, List.getElem?_cons_succ]
    · rw [if_neg h1]
      by_cases h2 : j = k
      · subst h2
        rw [if_pos ⟨by omega, by omega⟩]
        rw [Array.getElem?_setIfInBounds_self, if_pos (by omega), Nat.sub_self, List.getElem?_cons_zero]
      · rw [if_neg (by omega), Array.getElem?_setIfInBounds_ne (by omega)]
theorem run_store_blk {w : World} {b o : Nat} {c : Array Value} {e : TypeId} {fz : Nat × Nat} {v : Value} (hb : w.heap[b]? = some (.cells c e fz)) (hv : v.oneCell' = true) (ho : o < c.size)
    (hf : ¬ (fz.1 ≤ o ∧ o < fz.2)) : (store ⟨b, o, none⟩ v).run P w = .ok () (w.setCell ⟨b, o, none⟩ v) := by
  rw [run_store P w _ v _ hv]
  have hc : w.cell? ⟨b, o, none⟩ = some c[o] := by simp [World.cell?, hb, ho]
  have hfz : w.frozen? ⟨b, o, none⟩ = false := by
    obtain ⟨lo, hi⟩ := fz
    simp only [World.frozen?, hb]
    simp only [] at hf
    by_cases h1 : lo ≤ o
    · have : ¬ o < hi := fun h2 => hf ⟨h1, h2⟩
      simp [this]
    · simp [h1]
  simp [hc, hfz]
theorem heap_setCell {w : World} {b o : Nat} {c : Array Value} {e : TypeId} {fz : Nat × Nat} {v : Value} (hb : w.heap[b]? = some (.cells c e fz)) :
    (w.setCell ⟨b, o, none⟩ v).heap[b]? = some (.cells (c.setIfInBounds o v) e fz) ∧ (∀ k, k ≠ b → (w.setCell ⟨b, o, none⟩ v).heap[k]? = w.heap[k]?) := by
  constructor
  · simp [World.setCell, Array.getElem?_modify, hb]
  · intro k hk
    simp only [World.setCell, Array.getElem?_modify]
    rw [if_neg (by omega)]
/-- w' is w with other cells in block b. -/
structure Wrote (w w' : World) (b : Nat) (o' : Obj) : Prop where
  os : w'.os = w.os
  output : w'.output = w.output
  size : w'.heap.size = w.heap.size
  at_ : w'.heap[b]? = some o'
  other : ∀ c, c ≠ b → w'.heap[c]? = w.heap[c]?
theorem run_storeCells_blk (b o : Nat) (e : TypeId) (fz : Nat × Nat) : ∀ (vs : List Value) (i : Nat) (c : Array Value) (w : World), w.heap[b]? = some (.cells c e fz) → (∀ v ∈ vs, v.oneCell' = true) →
    o + i + vs.length ≤ c.size → (∀ k, o + i ≤ k → k < o + i + vs.length → ¬ (fz.1 ≤ k ∧ k < fz.2)) →
    ∃ w', (storeCells ⟨b, o, none⟩ vs i).run P w = .ok () w' ∧ Wrote w w' b (.cells (setR c (o + i) vs) e fz)
  | [], i, c, w, hb, _, _, _ => ⟨w, rfl, rfl, rfl, rfl, hb, fun _ _ => rfl⟩
  | v :: vs, i, c, w, hb, hv, hs, hf => by
    have hlen : (v :: vs).length = vs.length + 1 := rfl
    rw [hlen] at hs hf
    have h1 := heap_setCell (o := o + i) (v := v) hb
    obtain ⟨w', hr, hw⟩ := run_storeCells_blk b o e fz vs (i + 1) (c.setIfInBounds (o + i) v) (w.setCell ⟨b, o + i, none⟩ v) h1.1 (fun u hu => hv u (.tail _ hu)) (by simp; omega)
      (fun k h2 h3 => hf k (by omega) (by omega))
    refine ⟨w', ?_, hw.os, hw.output, by rw [hw.size]; simp, ?_, fun k hk => (hw.other k hk).trans (h1.2 k hk)⟩
    · unfold storeCells
      rw [addr_add, Sem.run_bind, run_store_blk hb (hv v (by simp)) (by omega) (hf (o + i) (by omega) (by omega))]
      exact hr
    · have := hw.at_
      rw [← Nat.add_assoc] at this
      exact this
theorem Sat.wrote {H Hr : List Atom} {g : GW} {b : Nat} {o o' : Obj} {w' : World} (h : Sat H g) (p : Part H [blk b o] Hr) (hw : Wrote g.w w' b o') : Sat (blk b o' :: Hr) ⟨w', g.I⟩ ∧ Le g ⟨w', g.I⟩ :=
  h.write p o' w' hw.os hw.output hw.size hw.at_ hw.other
theorem Sat.head {A : Atom} {H Hr : List Atom} {g : GW} (h : Sat H g) (p : Part H [A] Hr) : A.holds g.w := (h.part p).holds A (by simp)
section
variable {d : Option Nat} {ty : TypeId} {ps : String} {af : Array Edge} {gd : Option (Nat × Bool)} {g : GW} {L : List (Nat × Value)} {H Hr : List Atom}
theorem Op1.of_run {o : Oper} {R : Value → GW → List Atom → Prop}
    (h : ∀ (a : Act) n D, Kn n L D a → ∀ g', Le g g' → Sat H g' → ∃ v w' I' H', (execOp a.eval o).run P g'.w = .ok (.value v) w' ∧ Le g' ⟨w', I'⟩ ∧ Sat H' ⟨w', I'⟩ ∧ R v ⟨w', I'⟩ H') : Op1 P o g L H R :=
  fun a n D hk g' hl hs next Q hn => by
    obtain ⟨v, w', I', H', hr, hl', hs', hR⟩ := h a n D hk g' hl hs
    rw [hr]
    exact hn v ⟨w', I'⟩ H' hl' hs' hR
theorem Op1.of_skip {o : Oper} {R : Value → GW → List Atom → Prop}
    (h : ∀ (a : Act) n D, Kn n L D a → ∀ g', Le g g' → Sat H g' → ∃ w' I' H', (execOp a.eval o).run P g'.w = .ok .skip w' ∧ Le g' ⟨w', I'⟩ ∧ Sat H' ⟨w', I'⟩ ∧ R undef ⟨w', I'⟩ H') : Op1 P o g L H R :=
  fun a n D hk g' hl hs next Q hn => by
    obtain ⟨w', I', H', hr, hl', hs', hR⟩ := h a n D hk g' hl hs
    rw [hr]
    exact hn undef ⟨w', I'⟩ H' hl' hs' hR
/-- A new variable that holds v. -/
theorem e_box {t x v cs} (ex : ev L x = some v) (hc : v.cells = cs) :
    Op1 P ⟨d, .box t x, ty, ps, af, gd⟩ g L H (fun u g' H' => ∃ b, u = .pointer (some ⟨b, 0, none⟩) ∧ H' = blk b (.cells cs t) :: H) :=
  Op1.of_run fun a n D hk g' hl hs => by
    subst hc
    obtain ⟨hs', hl'⟩ := hs.alloc (.cells v.cells t)
    refine ⟨_, _, g'.I, _, ?_, hl', hs', _, rfl, rfl⟩
    simp only [execOp, hk.eval ex]
    exact run_v rfl
theorem e_alloc {t z cs} (hz : ∀ w, (zeroValue t).run P w = .ok z w) (hc : z.cells = cs) :
    Op1 P ⟨d, .alloc t, ty, ps, af, gd⟩ g L H (fun u g' H' => ∃ b, u = .pointer (some ⟨b, 0, none⟩) ∧ H' = blk b (.cells cs t) :: H) :=
  Op1.of_run fun a n D hk g' hl hs => by
    subst hc
    obtain ⟨hs', hl'⟩ := hs.alloc (.cells z.cells t)
    refine ⟨_, _, g'.I, _, ?_, hl', hs', _, rfl, rfl⟩
    simp only [execOp]
    refine run_v ?_
    unfold Instr.alloc
    rw [run_bind_ok (hz _)]
    rfl
/-- A store of one cell or more. -/
theorem e_store {t x y b o v cs e fz m} (ex : ev L x = some (.pointer (some ⟨b, o, none⟩))) (ey : ev L y = some v) (hz : ∀ w, (sizeOf t).run P w = .ok m w) (hm : v.cells.size = m)
    (hv : ∀ u ∈ v.cells.toList, u.oneCell' = true) (p : Part H [blk b (.cells cs e fz)] Hr) (hs : o + m ≤ cs.size) (hf : ∀ k, o ≤ k → k < o + m → ¬ (fz.1 ≤ k ∧ k < fz.2)) :
    Op1 P ⟨d, .store t x y, ty, ps, af, gd⟩ g L H (fun u g' H' => u = undef ∧ H' = blk b (.cells (setR cs o v.cells.toList) e fz) :: Hr) :=
  Op1.of_skip fun a n D hk g' hl hsat => by
    subst hm
    have hb : g'.w.heap[b]? = some (.cells cs e fz) := hsat.head p
    obtain ⟨w', hr, hw⟩ := run_storeCells_blk (P := P) b o e fz v.cells.toList 0 cs g'.w hb hv (by simpa using hs) (by simpa using hf)
    obtain ⟨hs', hl'⟩ := hsat.wrote p hw
    refine ⟨w', g'.I, _, ?_, hl', hs', rfl, rfl⟩
    simp only [execOp, hk.eval ex, hk.eval ey, Instr.storeAt, Instr.sureAddr, Sem.run_bind, Sem.run_pure, Result.andThen_ok, storeVar, hz]
    rw [if_neg (by simp), hr]
    rfl
/-- One cell. -/
theorem e_store1 {t x y b o v cs cs' e fz} (ex : ev L x = some (.pointer (some ⟨b, o, none⟩))) (ey : ev L y = some v) (hz : ∀ w, (sizeOf t).run P w = .ok 1 w) (hv : v.oneCell' = true)
    (p : Part H [blk b (.cells cs e fz)] Hr) (hs : Nat.blt o cs.size = true) (hf : (Nat.ble fz.1 o && Nat.blt o fz.2) = false) (hcs : cs.setIfInBounds o v = cs') :
    Op1 P ⟨d, .store t x y, ty, ps, af, gd⟩ g L H (fun u g' H' => u = undef ∧ H' = blk b (.cells cs' e fz) :: Hr) := by
  have hv' : v.cells = #[v] := by cases v <;> first | rfl | cases hv
  have hs1 : o < cs.size := by simpa [Nat.blt_eq] using hs
  have h := e_store (P := P) (d := d) (ty := ty) (ps := ps) (af := af) (gd := gd) (g := g) (t := t) ex ey hz (by rw [hv']; rfl) (by rw [hv']; simpa using hv) p (by omega) (fun k h1 h2 h3 => by
    obtain rfl : k = o := by omega
    have : (Nat.ble fz.1 k && Nat.blt k fz.2) = true := by simp [Nat.blt_eq, h3.1, h3.2]
    rw [this] at hf
    cases hf)
  rw [hv'] at h
  subst hcs
  exact h
end
/-- The row that a slice value owns: element size sz, and the cells of its elements. -/
def own (v : Value) (sz : Nat) (e : TypeId) (xs : List Value) : Atom where
  dom := fun b => match v with | .slice (some a) _ _ => b = a.block | _ => False
  holds := fun w => match v with
    | .slice none len cap => len = 0 ∧ cap = 0 ∧ xs = []
    | .slice (some a) len cap => a.spot = none ∧ xs.length = len * sz ∧ len ≤ cap ∧ ∃ c fz, w.heap[a.block]? = some (.cells c e fz) ∧ a.off + cap * sz ≤ c.size ∧
        (∀ j u, xs[j]? = some u → c[a.off + j]? = some u) ∧ (∀ k, k < a.off + cap * sz → ¬ (fz.1 ≤ k ∧ k < fz.2))
    | _ => False
  loc := fun w w' h k => by
    cases v with
    | slice a len cap =>
      cases a with
      | none => exact k
      | some a =>
        obtain ⟨h1, h2, h3, c, fz, h4, h5⟩ := k
        exact ⟨h1, h2, h3, c, fz, (h a.block rfl).trans h4, h5⟩
    | _ => exact k
theorem own_nil (sz : Nat) (e : TypeId) {H : List Atom} {g : GW} (h : Sat H g) : Sat (own (.slice none 0 0) sz e [] :: H) g :=
  ⟨h.lt, fun A hA => by
      rcases List.mem_cons.1 hA with rfl | hA
      · exact ⟨rfl, rfl, rfl⟩
      · exact h.holds A hA,
   fun A hA b hb => by
      rcases List.mem_cons.1 hA with rfl | hA
      · exact hb.elim
      · exact h.dom A hA b hb,
   List.pairwise_cons.2 ⟨fun A _ b hb _ => hb.elim, h.sep⟩⟩
end Go.Hl
namespace Go.Hl
variable {P : Program}
section
variable {d : Option Nat} {ty : TypeId} {ps : String} {af : Array Edge} {gd : Option (Nat × Bool)} {g : GW} {L : List (Nat × Value)} {H Hr : List Atom}
theorem own_cell {w : World} {b off len cap sz e xs} (h : (own (.slice (some ⟨b, off, none⟩) len cap) sz e xs).holds w) {j : Nat} {u : Value} (hj : xs[j]? = some u) :
    w.cell? ⟨b, off + j, none⟩ = some u := by
  obtain ⟨_, _, _, c, fz, hb, _, hx, _⟩ := h
  simp only [World.cell?, hb, Option.isSome_none, Bool.false_eq_true, if_false]
  exact hx j u hj
theorem p_loadOwn {t x b o off len cap sz e xs v} (j : Nat) (ex : ev L x = some (.pointer (some ⟨b, o, none⟩))) (ha : ∀ w, (isAgg t).run P w = .ok false w)
    (hm : own (.slice (some ⟨b, off, none⟩) len cap) sz e xs ∈ H) (ho : o = off + j) (hj : xs[j]? = some v) :
    OpP P ⟨d, .load t x, ty, ps, af, gd⟩ g L H v :=
  fun a n D hk g' hl hs => by
    subst ho
    simp only [execOp, hk.eval ex]
    exact run_v (run_load_cell ha (own_cell (hs.holds _ hm) hj))
theorem run_loadN {w : World} {b o m : Nat} {vs : List Value} {t : TypeId} (ha : ∀ w, (isAgg t).run P w = .ok true w) (hz : ∀ w, (sizeOf t).run P w = .ok m w) (hl : vs.length = m)
    (hc : ∀ j v, vs[j]? = some v → w.cell? ⟨b, o + j, none⟩ = some v) :
    (Instr.loadAt t (.pointer (some ⟨b, o, none⟩))).run P w = .ok (.agg vs.toArray) w := by
  subst hl
  simp only [Instr.loadAt, Instr.sureAddr, Sem.run_bind, Sem.run_pure, Result.andThen_ok, loadVar, ha, if_true, hz]
  rw [run_loadCells_list (P := P) (w := w) ⟨b, o, none⟩ vs (fun j v h => by rw [addr_add]; exact hc j v h)]
  rfl
/-- Load of a struct or an array out of a row. -/
theorem p_loadOwnN {t x b o off len cap sz e xs m} {vs : List Value} (j : Nat) (ex : ev L x = some (.pointer (some ⟨b, o, none⟩))) (ha : ∀ w, (isAgg t).run P w = .ok true w) (hz : ∀ w, (sizeOf t).run P w = .ok m w)
    (hm : own (.slice (some ⟨b, off, none⟩) len cap) sz e xs ∈ H) (ho : o = off + j) (hl : vs.length = m) (hj : ∀ i v, vs[i]? = some v → xs[j + i]? = some v) :
    OpP P ⟨d, .load t x, ty, ps, af, gd⟩ g L H (.agg vs.toArray) :=
  fun a n D hk g' hl' hs => by
    subst ho
    simp only [execOp, hk.eval ex]
    exact run_v (run_loadN ha hz hl fun i v h => by rw [Nat.add_assoc]; exact own_cell (hs.holds _ hm) (hj i v h))
theorem p_loadFN {t x b o m} {vs : List Value} (ex : ev L x = some (.pointer (some ⟨b, o, none⟩))) (ha : ∀ w, (isAgg t).run P w = .ok true w) (hz : ∀ w, (sizeOf t).run P w = .ok m w)
    (hc : Cells g b o vs) (hl : vs.length = m) : OpP P ⟨d, .load t x, ty, ps, af, gd⟩ g L H (.agg vs.toArray) :=
  fun a n D hk g' hl' hs => by
    simp only [execOp, hk.eval ex]
    exact run_v (run_loadN ha hz hl fun i v h => ((hc.mono hl') i v h).2)
theorem p_loadN {t x b o cs el fz m} {vs : List Value} (ex : ev L x = some (.pointer (some ⟨b, o, none⟩))) (ha : ∀ w, (isAgg t).run P w = .ok true w) (hz : ∀ w, (sizeOf t).run P w = .ok m w)
    (hm : blk b (.cells cs el fz) ∈ H) (hl : vs.length = m) (hj : ∀ i v, vs[i]? = some v → cs[o + i]? = some v) : OpP P ⟨d, .load t x, ty, ps, af, gd⟩ g L H (.agg vs.toArray) :=
  fun a n D hk g' hl' hs => by
    simp only [execOp, hk.eval ex]
    refine run_v (run_loadN ha hz hl fun i v h => ?_)
    have hb : g'.w.heap[b]? = some (.cells cs el fz) := hs.holds _ hm
    simp only [World.cell?, hb, Option.isSome_none, Bool.false_eq_true, if_false]
    exact hj i v h
/-- What a value reads as where it is appended or copied. -/
def Src (P : Program) (g : GW) (H : List Atom) (x : Value) (sz m : Nat) (ys : List Value) : Prop :=
  (∀ w, (Builtin.lenOf x).run P w = .ok m w) ∧ ys.length = m * sz ∧ ∀ g', Le g g' → Sat H g' → ∀ k, k * sz ≤ ys.length → (Builtin.firstCells sz k x).run P g'.w = .ok (ys.take (k * sz)).toArray g'.w
theorem firstCells_some {w : World} {b o len cap sz k : Nat} {ys : List Value} (hk : k * sz ≤ ys.length) (h : ∀ j v, ys[j]? = some v → w.cell? ⟨b, o + j, none⟩ = some v) :
    (Builtin.firstCells sz k (.slice (some ⟨b, o, none⟩) len cap)).run P w = .ok (ys.take (k * sz)).toArray w := by
  refine run_firstCells_some w sz k ⟨b, o, none⟩ len cap (ys.take (k * sz)) (by rw [List.length_take]; omega) fun j v hj => ?_
  rw [addr_add]
  rw [List.getElem?_take] at hj
  split at hj
  · exact h j v hj
  · cases hj
theorem src_ownS {b o m cap sz e ys} (hl : ys.length = m * sz) (hm : own (.slice (some ⟨b, o, none⟩) m cap) sz e ys ∈ H) : Src P g H (.slice (some ⟨b, o, none⟩) m cap) sz m ys :=
  ⟨fun w => rfl, hl, fun g' hl' hs k hk => firstCells_some hk fun j v hj => own_cell (hs.holds _ hm) hj⟩
theorem src_cells {b o m cap sz ys} (hl : ys.length = m * sz) (hc : Cells g b o ys) : Src P g H (.slice (some ⟨b, o, none⟩) m cap) sz m ys :=
  ⟨fun w => rfl, hl, fun g' hl' hs k hk => firstCells_some hk fun j v hj => ((hc.mono hl') j v hj).2⟩
theorem src_nilP {p cap sz} : Src P g H (.slice p 0 cap) sz 0 [] :=
  ⟨fun w => rfl, by simp, fun g' hl' hs k hk => by
    have h0 : k * sz = 0 := by simpa using hk
    cases p with
    | none => simp [Builtin.firstCells]
    | some a => simp [Builtin.firstCells, h0, loadCells, loadCellsFrom]⟩
theorem src_nil {cap sz} : Src P g H (.slice none 0 cap) sz 0 [] := src_nilP
/-- The cells of bytes. -/
def bv (c : UInt8) : Value := .int .u8 c.toNat
def bvs (l : List UInt8) : List Value := l.map bv
/-- A text as a value. -/
def bs (l : List UInt8) : ByteArray := ⟨l.toArray⟩
def str (l : List UInt8) : Value := .string (bs l)
theorem bs_size (l : List UInt8) : (bs l).size = l.length := rfl
theorem src_str {l : List UInt8} : Src P g H (str l) 1 l.length (bvs l) :=
  ⟨fun w => rfl, by simp [bvs], fun g' hl' hs k hk => by
    simp only [str, Builtin.firstCells, Sem.run_pure]
    congr 1
    apply Array.ext'
    rw [ByteArray.data_extract]
    simp [bs, bvs, List.map_take]
    rfl⟩
end
end Go.Hl
namespace Go.Hl
variable {P : Program}
/-- A slice of n elements. -/
def Shp (v : Value) (n : Nat) : Prop := (∃ p cap, v = .slice p 0 cap ∧ n = 0 ∧ (p = none ∨ cap = 0)) ∨ ∃ b o cap, n ≤ cap ∧ v = .slice (some ⟨b, o, none⟩) n cap
theorem own_shp {w : World} {v : Value} {sz e xs} (h : (own v sz e xs).holds w) : ∃ n, Shp v n ∧ xs.length = n * sz := by
  cases v with
  | slice a len cap =>
    cases a with
    | none => obtain ⟨rfl, _, rfl⟩ := h; exact ⟨0, .inl ⟨none, cap, rfl, rfl, .inl rfl⟩, by simp⟩
    | some a =>
      obtain ⟨b, o, sp⟩ := a
      obtain ⟨hsp, hl, hc, _⟩ := h
      simp only [] at hsp
      subst hsp
      exact ⟨len, .inr ⟨b, o, cap, hc, rfl⟩, hl⟩
  | _ => exact h.elim
theorem Sat.upd {H Hr : List Atom} {g : GW} {A : Atom} (h : Sat H g) (p : Part H [A] Hr) (w' : World) (A' : Atom) (hos : w'.os = g.w.os) (hout : w'.output = g.w.output)
    (hs : g.w.heap.size ≤ w'.heap.size) (hne : ∀ b, b < g.w.heap.size → ¬ A.dom b → w'.heap[b]? = g.w.heap[b]?) (hA : A'.holds w')
    (hd : ∀ b, A'.dom b → b < w'.heap.size ∧ (A.dom b ∨ g.w.heap.size ≤ b)) : Sat (A' :: Hr) ⟨w', g.I⟩ ∧ Le g ⟨w', g.I⟩ := by
  have h' : Sat (A :: Hr) g := h.part p
  have hsep := List.pairwise_cons.1 h'.sep
  have hI : ∀ b, g.I b → w'.heap[b]? = g.w.heap[b]? := fun b hb => hne b (h'.lt b hb) fun hA => (h'.dom A (by simp) b hA).2 hb
  refine ⟨⟨fun c hc => Nat.lt_of_lt_of_le (h'.lt c hc) hs, fun B hB => ?_, fun B hB c hc => ?_, ?_⟩, ⟨hos, hout, hs, fun _ h => h, hI⟩⟩
  · rcases List.mem_cons.1 hB with rfl | hB'
    · exact hA
    · exact B.loc g.w _ (fun c hc => hne c (h'.dom B (.tail _ hB') c hc).1 fun hAc => hsep.1 B hB' c hAc hc) (h'.holds B (.tail _ hB'))
  · rcases List.mem_cons.1 hB with rfl | hB'
    · refine ⟨(hd c hc).1, fun hi => ?_⟩
      rcases (hd c hc).2 with h1 | h1
      · exact (h'.dom A (by simp) c h1).2 hi
      · have := h'.lt c hi; omega
    · have := h'.dom B (.tail _ hB') c hc
      exact ⟨Nat.lt_of_lt_of_le this.1 hs, this.2⟩
  · refine List.pairwise_cons.2 ⟨fun B hB c hc hc' => ?_, hsep.2⟩
    rcases (hd c hc).2 with h1 | h1
    · exact hsep.1 B hB c h1 hc'
    · have := (h'.dom B (.tail _ hB) c hc').1; omega
theorem Sat.drew {H : List Atom} {g : GW} (h : Sat H g) (n : Nat) : Sat H ⟨{ g.w with drawn := n }, g.I⟩ ∧ Le g ⟨{ g.w with drawn := n }, g.I⟩ :=
  ⟨⟨h.lt, fun A hA => A.loc g.w _ (fun _ _ => rfl) (h.holds A hA), h.dom, h.sep⟩, ⟨rfl, rfl, Nat.le_refl _, fun _ h => h, fun _ _ => rfl⟩⟩
theorem le_mul_of_pos' {a b c : Nat} (h : 0 < c) (e : b = a * c) : a ≤ b := by
  subst e; exact Nat.le_mul_of_pos_right a h
section
variable {d : Option Nat} {ty : TypeId} {ps : String} {af : Array Edge} {gd : Option (Nat × Bool)} {g : GW} {L : List (Nat × Value)} {H Hr : List Atom}
/-- A row of cells as it lies in a block. -/
theorem own_mk {w : World} {b off len cap sz : Nat} {e : TypeId} {xs : List Value} {c : Array Value} {fz : Nat × Nat} (hb : w.heap[b]? = some (.cells c e fz)) (hl : xs.length = len * sz) (hc : len ≤ cap)
    (hs : off + cap * sz ≤ c.size) (hx : ∀ j u, xs[j]? = some u → c[off + j]? = some u) (hf : ∀ k, k < off + cap * sz → ¬ (fz.1 ≤ k ∧ k < fz.2)) :
    (own (.slice (some ⟨b, off, none⟩) len cap) sz e xs).holds w := ⟨rfl, hl, hc, c, fz, hb, hs, hx, hf⟩
theorem run_append {sT xT elem sz m by_ : Nat} {v x : Value} {xs ys : List Value} {dx : TypeDesc} {z : Value} {ti : TypeInfo} {at_ : Array TypeId}
    (h0 : at_[0]? = some sT) (h1 : at_[1]? = some xT) (hu : ∀ w, (underlying sT).run P w = .ok (.slice elem) w) (hux : ∀ w, (underlying xT).run P w = .ok dx w) (hdx : dx = .string ∨ ∃ e', dx = .slice e')
    (hz : ∀ w, (sizeOf elem).run P w = .ok sz w) (hzv : ∀ w, (zeroValue elem).run P w = .ok z w) (hzs : z.cells.size = sz) (hti : ∀ w, (typeInfo elem).run P w = .ok ti w) (hby : ti.bytes = by_)
    (hsz : 0 < sz) (hby0 : 0 < by_)
    (src : Src P g H x sz m ys) (hroom : (xs.length + ys.length) * by_ ≤ 70368744177664) {gw : GW} (hgw : Le g gw) (hsat : Sat H gw) (p : Part H [own v sz elem xs] Hr)
    (hone : ∀ u ∈ ys, u.oneCell' = true) :
    ∃ v' w', (Builtin.append_ at_ ty #[v, x]).run P gw.w = .ok v' w' ∧ Le gw ⟨w', gw.I⟩ ∧ Sat (own v' sz elem (xs ++ ys) :: Hr) ⟨w', gw.I⟩ := by
  have hown := hsat.head p
  have hd := (hsat.part p).dom (own v sz elem xs) (by simp)
  obtain ⟨hlen, hyl, hread⟩ := src
  -- the length, the capacity
  obtain ⟨base, len, cap, hv, hxl, hlc⟩ : ∃ base len cap, v = .slice base len cap ∧ xs.length = len * sz ∧ len ≤ cap := by
    cases v with
    | slice a len cap =>
      cases a with
      | none => obtain ⟨h1, h2, h3⟩ := hown; subst h1; subst h2; subst h3; exact ⟨none, 0, 0, rfl, by simp, Nat.le_refl _⟩
      | some a => obtain ⟨h1, h2, h3, _⟩ := hown; exact ⟨some a, len, cap, rfl, h2, h3⟩
    | _ => exact hown.elim
  subst hv
  have hneed : len + m ≤ xs.length + ys.length := by
    rw [hxl, hyl, ← Nat.add_mul]; exact Nat.le_mul_of_pos_right _ hsz
  have hfit : (len + m) * by_ ≤ 70368744177664 := Nat.le_trans (Nat.mul_le_mul_right by_ hneed) hroom
  have hfit' : len + m ≤ 70368744177664 := Nat.le_trans (Nat.le_mul_of_pos_right _ hby0) hfit
  have hym : ys.take (m * sz) = ys := by rw [← hyl]; exact List.take_length
  have hfirst : ∀ g', Le g g' → Sat H g' → (Builtin.firstCells sz m x).run P g'.w = .ok ys.toArray g'.w := fun g' hl hs => by
    have := hread g' hl hs m (by rw [hyl]; exact Nat.le_refl _)
    rw [hym] at this
    exact this
  by_cases hcap : len + m ≤ cap
  · -- in place
    have hpre : (Builtin.append_ at_ ty #[.slice base len cap, x]).run P gw.w =
      (do
          if let some a := base then storeCells (a.add (len * sz)) ys
          pure (.slice base (len + m) cap) : Sem Value).run P gw.w := by
      unfold Builtin.append_
      rcases hdx with rfl | ⟨e', rfl⟩ <;>
      · simp [h0, h1, hu, hux, hz, hlen, hfirst gw hgw hsat, hcap]
        cases base <;> rfl
    rw [hpre]
    cases base with
    | none =>
      obtain ⟨h1', h2, h3⟩ := hown
      subst h1'; subst h2; subst h3
      obtain rfl : m = 0 := by omega
      obtain rfl : ys = [] := List.eq_nil_of_length_eq_zero (by rw [hyl]; simp)
      exact ⟨_, _, rfl, .refl _, hsat.part p⟩
    | some a =>
      obtain ⟨b, off, spot⟩ := a
      obtain ⟨hsp, _, _, c, fz, hb, hcs, hx, hf⟩ := hown
      simp only [] at hsp hb hcs hx hf
      subst hsp
      have hle : (len + m) * sz ≤ cap * sz := Nat.mul_le_mul_right sz hcap
      rw [Nat.add_mul] at hle
      obtain ⟨w', hr, hw⟩ := run_storeCells_blk (P := P) b (off + len * sz) elem fz ys 0 c gw.w hb hone (by omega) (fun k h1 h2 => hf k (by omega))
      refine ⟨.slice (some ⟨b, off, none⟩) (len + m) cap, w', ?_, ?_⟩
      · simp only [addr_add]
        rw [run_bind_ok hr]; rfl
      · refine And.symm (hsat.upd p w' (own (.slice (some ⟨b, off, none⟩) (len + m) cap) sz elem (xs ++ ys)) hw.os hw.output (Nat.le_of_eq hw.size.symm) (fun k _ hk => hw.other k hk) ?_ ?_)
        · refine own_mk hw.at_ (by rw [List.length_append, hxl, hyl, Nat.add_mul]) hcap (by rw [size_setR]; exact hcs) ?_ hf
          intro j u hj
          rw [Nat.add_zero, setR_get _ _ _ _ (by omega)]
          rw [List.getElem?_append] at hj
          split at hj
          · rename_i hjl
            rw [if_neg (by omega)]
            exact hx j u hj
          · rename_i hjl
            have hjl2 : j - xs.length < ys.length := (List.getElem?_eq_some_iff.1 hj).1
            rw [if_pos ⟨by omega, by omega⟩]
            have e : off + j - (off + len * sz) = j - xs.length := by omega
            rw [e]; exact hj
        · intro k hk
          cases hk
          exact ⟨by rw [hw.size]; exact (hd b rfl).1, .inl rfl⟩
  · -- a new row
    have hgw1 := hsat.drew (gw.w.drawn + 1)
    have hold : ∀ g', Sat H g' → (Builtin.firstCells sz len (.slice base len cap)).run P g'.w = .ok xs.toArray g'.w := fun g' hs => by
      have ho := hs.head p
      cases base with
      | none =>
        obtain ⟨h1', h2, h3⟩ := ho
        subst h3
        rfl
      | some a =>
        obtain ⟨b, off, spot⟩ := a
        obtain ⟨hsp, _⟩ := ho
        simp only [] at hsp
        subst hsp
        have := firstCells_some (P := P) (w := g'.w) (b := b) (o := off) (len := len) (cap := cap) (sz := sz) (k := len) (ys := xs) (by rw [hxl]; exact Nat.le_refl _) (fun j u hj => own_cell (hs.head p) hj)
        rw [show xs.take (len * sz) = xs from by rw [← hxl]; exact List.take_length] at this
        exact this
    have h2 : ¬ ((9223372036854775807 < ((len : Int) + (m : Int))) ∧ ti.bytes = 0) := by omega
    have h3 : ¬ (281474976710656 < Builtin.nextslicecap (len + m) cap * ti.bytes) := by
      rw [hby]
      have := growslice_fits (need := len + m) (old := cap) (bytes := by_) (by omega) (by omega)
      omega
    have h4 : IntKind.i64.max = 9223372036854775807 := rfl
    have hpre : (Builtin.append_ at_ ty #[.slice base len cap, x]).run P gw.w =
      .ok (.slice (some ⟨gw.w.heap.size, 0, none⟩) (len + m) (grownCap gw.w (len + m) cap elem))
        { gw.w with drawn := gw.w.drawn + 1, heap := gw.w.heap.push (.cells (xs.toArray ++ ys.toArray ++ Builtin.zeroCells z.cells (grownCap gw.w (len + m) cap elem - (len + m))) elem) } := by
      have hf1 := hfirst _ (hgw.trans hgw1.2) hgw1.1
      have hf2 := hold _ hgw1.1
      simp only [] at hf1 hf2
      unfold Builtin.append_
      rcases hdx with rfl | ⟨e', rfl⟩ <;>
      · simp [h0, h1, hu, hux, hz, hlen, hcap, hti, h2, h3, hzv, Question.forced, hf1, hf2, newRow, grownCap, -World.drew_eq, -World.alloc_eq]
        congr 2
        apply Array.ext'
        simp [List.append_assoc]
    rw [hpre]
    have hcapge : len + m ≤ grownCap gw.w (len + m) cap elem := by
      unfold grownCap; exact Nat.le_add_right _ _
    have hsize : (xs.toArray ++ ys.toArray ++ Builtin.zeroCells z.cells (grownCap gw.w (len + m) cap elem - (len + m))).size = grownCap gw.w (len + m) cap elem * sz := by
      rw [Array.size_append, Array.size_append, size_zeroCells, hzs, List.size_toArray, List.size_toArray, hxl, hyl, ← Nat.add_mul, ← Nat.add_mul]
      congr 1; omega
    refine ⟨_, _, rfl, And.symm (hsat.upd p _ _ rfl rfl (by simp) (fun k hk _ => ?_) ?_ ?_)⟩
    · show (gw.w.heap.push _)[k]? = _
      rw [Array.getElem?_push, if_neg (by omega)]
    · refine own_mk (fz := (0, 0)) (c := xs.toArray ++ ys.toArray ++ Builtin.zeroCells z.cells (grownCap gw.w (len + m) cap elem - (len + m))) ?_ (by rw [List.length_append, hxl, hyl, Nat.add_mul]) hcapge (by rw [hsize]; omega) (fun j u hj => ?_) (fun k _ h => by simp at h)
      · show (gw.w.heap.push _)[gw.w.heap.size]? = _
        simp
      · rw [Nat.zero_add, Array.getElem?_append_left (by have := (List.getElem?_eq_some_iff.1 hj).1; simpa using this), List.append_toArray, List.getElem?_toArray]
        exact hj
    · intro k hk
      cases hk
      exact ⟨by simp, .inr (Nat.le_refl _)⟩
theorem e_append {sT xT elem sz m by_ : Nat} {xo so : Operand} {v xv : Value} {xs ys : List Value} {dx : TypeDesc} {z : Value} {ti : TypeInfo} {at_ : Array TypeId}
    (es : ev L so = some v) (ex : ev L xo = some xv)
    (h0 : at_[0]? = some sT) (h1 : at_[1]? = some xT) (hu : ∀ w, (underlying sT).run P w = .ok (.slice elem) w) (hux : ∀ w, (underlying xT).run P w = .ok dx w) (hdx : dx = .string ∨ ∃ e', dx = .slice e')
    (hz : ∀ w, (sizeOf elem).run P w = .ok sz w) (hzv : ∀ w, (zeroValue elem).run P w = .ok z w) (hzs : z.cells.size = sz) (hti : ∀ w, (typeInfo elem).run P w = .ok ti w) (hby : ti.bytes = by_)
    (hsz : 0 < sz) (hby0 : 0 < by_) (src : Src P g H xv sz m ys) (hroom : (xs.length + ys.length) * by_ ≤ 70368744177664) (p : Part H [own v sz elem xs] Hr) (hone : ∀ u ∈ ys, u.oneCell' = true) :
    Op1 P ⟨d, .call ⟨.builtin .append, #[so, xo], at_⟩, ty, ps, af, gd⟩ g L H (fun u g' H' => ∃ n, Shp u n ∧ (xs ++ ys).length = n * sz ∧ H' = own u sz elem (xs ++ ys) :: Hr) :=
  Op1.of_run fun a n D hk g' hl hs => by
    obtain ⟨v', w', hr, hl', hs'⟩ := run_append (P := P) (ty := ty) h0 h1 hu hux hdx hz hzv hzs hti hby hsz hby0 src hroom hl hs p hone
    obtain ⟨n', h1, h2⟩ := own_shp (hs'.holds _ (List.mem_cons_self ..))
    refine ⟨v', w', g'.I, _, ?_, hl', hs', n', h1, h2, rfl⟩
    simp only [execOp, resolve, invoke, builtin, List.map_toArray, List.map_cons, List.map_nil, hk.eval es, hk.eval ex, Sem.run_bind, Sem.run_pure, Result.andThen_ok, hr]
end
end Go.Hl
namespace Go.Hl
variable {P : Program}
/-- What holds of every world on the way through a region, up to the operation that ends it. -/
def SW (g : GW) (Hs : List Atom) (w : World) : Prop := ∃ I, Le g ⟨w, I⟩ ∧ Sat Hs ⟨w, I⟩
/-- The operation 'bar' has not been carried out. -/
def Ahead (bar : Nat) (listed : Array Bool) : Prop := listed.getD bar false = false
/-- Whatever is carried out ahead of i is carried out ahead of 'bar'. -/
def waits (ops : Array Oper) (bar i : Nat) : Bool :=
  match ops[bar]? with
  | none => true
  | some o => o.after.any fun e => Region.binds .any e && e.on == i
/-- Whatever order is picked from here on; S holds till 'bar' is carried out. -/
def wpB (P : Program) (ops : Array Oper) (Q : Exit → Act → World → Prop) (bar : Nat) (S : World → Prop) : Nat → Array Bool → Act → World → Prop
  | 0, listed, a, w => Region.ready .any ops listed = [] ∧ Q .normal a w
  | fuel + 1, listed, a, w =>
    (Region.ready .any ops listed = [] → Q .normal a w) ∧
    ∀ i ∈ Region.ready .any ops listed, wpOp P ops Q i (fun a' w' => (Ahead bar (listed.setIfInBounds i true) → S w') ∧ wpB P ops Q bar S fuel (listed.setIfInBounds i true) a' w') a w
section
variable {ops : Array Oper} {Q : Exit → Act → World → Prop} {bar : Nat} {S : World → Prop}
theorem wpAny_of_B : ∀ (fuel : Nat) (listed : Array Bool) (a : Act) (w : World), wpB P ops Q bar S fuel listed a w → wpAny P .any ops Q fuel listed a w
  | 0, _, _, _, h => h
  | fuel + 1, _, _, _, h => ⟨h.1, fun i hi => wpOp_mono (fun a' w' h' => wpAny_of_B fuel _ a' w' h'.2) (h.2 i hi)⟩
theorem wpB_done {listed : Array Bool} {a : Act} {w : World} (hr : Region.ready .any ops listed = []) (h : Q .normal a w) : ∀ fuel, wpB P ops Q bar S fuel listed a w
  | 0 => ⟨hr, h⟩
  | _ + 1 => ⟨fun _ => h, by rw [hr]; simp⟩
/-- Number i is taken first: what it yields is the same in every world that may come up ahead of it. -/
theorem wpB_first {i : Nat} {oi : Oper} {v : Value} {V : World → Prop} (hib : i ≠ bar) (hi : ops[i]? = some oi) (hsel : Region.noSelect ops = true) (hQ : ∀ c a a' w, Q (.panic c) a w → Q (.panic c) a' w)
    (hV : (∀ w, V w) ∨ ((∀ w, S w → V w) ∧ waits ops bar i = true)) :
    ∀ (fuel : Nat) (listed : Array Bool) (a : Act) (w : World),
      (∀ j oj, ops[j]? = some oj → j ≠ i → listed.getD j true = false → (∀ e ∈ oj.after, Region.binds .any e = true → e.on ≠ i) → oi.apart ops oj = true) →
      ((∀ w, V w) ∨ Ahead bar listed) → i ∈ Region.ready .any ops listed → YieldsIf P ops V oi v a → V w → (Ahead bar listed → S w) →
      wpB P ops Q bar S fuel (listed.setIfInBounds i true) (a.put oi.dst v) w → wpB P ops Q bar S (fuel + 1) listed a w := by
  have hself : ∀ {listed : Array Bool}, Ahead bar (listed.setIfInBounds i true) → Ahead bar listed := fun {listed} h => by
    unfold Ahead at *
    cases e : listed.getD bar false with
    | false => rfl
    | true => rw [getD_set_true e] at h; cases h
  intro fuel
  induction fuel with
  | zero =>
    intro listed a w hfree hb hr hy hw hS H
    refine ⟨fun h => (by rw [h] at hr; cases hr), fun j hj => ?_⟩
    by_cases hji : j = i
    · subst hji; exact hy.wpOp hi hw ⟨fun h => hS (hself h), H⟩
    · have := ready_mono hj hji
      rw [H.1] at this
      cases this
  | succ fuel ih =>
    intro listed a w hfree hb hr hy hw hS H
    refine ⟨fun h => (by rw [h] at hr; cases hr), fun j hj => ?_⟩
    by_cases hji : j = i
    · subst hji; exact hy.wpOp hi hw ⟨fun h => hS (hself h), H⟩
    · have h1 := H.2 j (ready_mono hj hji)
      obtain ⟨hjun, oj, hoj, hall⟩ := mem_ready.1 hj
      have hiun := (mem_ready.1 hr).1
      have hnoti : ∀ e ∈ oj.after, Region.binds .any e = true → e.on ≠ i := fun e he hbe heq => by
        have h2 := hall e he hbe
        rw [heq] at h2
        rcases Nat.lt_or_ge i listed.size with h' | h'
        · simp [h'] at hiun h2; rw [hiun] at h2; cases h2
        · simp [Array.getElem?_eq_none h'] at h2
      have h2 := wpOp_putIf hoj (hfree j oj hoj hji hjun hnoti) (fun cs b => Region.noSelect_spec hsel i oi cs b hi) (fun cs b => Region.noSelect_spec hsel j oj cs b hoj) (fun c a w h => hQ c _ _ w h) hy h1
      -- j is not the end: that waits for i
      have hjb : waits ops bar i = true → j ≠ bar ∨ ops[bar]? = none := fun hwt => by
        by_cases hjb : j = bar
        · subst hjb
          unfold waits at hwt
          rw [hoj] at hwt
          simp only [Array.any_eq_true', Bool.and_eq_true, beq_iff_eq] at hwt
          obtain ⟨e, he, hbe, heq⟩ := hwt
          exact absurd heq (hnoti e he hbe)
        · exact .inl hjb
      have hfree' : ∀ k ok, ops[k]? = some ok → k ≠ i → (listed.setIfInBounds j true).getD k true = false →
          (∀ e ∈ ok.after, Region.binds .any e = true → e.on ≠ i) → oi.apart ops ok = true := fun k ok hk hki hun hno => by
        refine hfree k ok hk hki ?_ hno
        by_cases hjk : j = k
        · subst hjk; exact hjun
        · rw [getD_set_ne true hjk] at hun; exact hun
      have hkeep : Ahead bar listed → waits ops bar i = true → Ahead bar (listed.setIfInBounds j true) := fun h hwt => by
        rcases hjb hwt with h3 | h3
        · unfold Ahead at *; rw [getD_set_ne false h3]; exact h
        · by_cases h4 : j = bar
          · subst h4; rw [hoj] at h3; cases h3
          · unfold Ahead at *; rw [getD_set_ne false h4]; exact h
      have hset : ∀ {l : Array Bool}, Ahead bar l → i ≠ bar → Ahead bar (l.setIfInBounds i true) := fun {l} h hib => by
        unfold Ahead at *; rw [getD_set_ne false hib]; exact h
      refine wpOp_mono (fun a' w' h3 => ?_) h2
      have hcomm : (listed.setIfInBounds i true).setIfInBounds j true = (listed.setIfInBounds j true).setIfInBounds i true := Array.setIfInBounds_comm _ _ (Ne.symm hji)
      have hS' : Ahead bar (listed.setIfInBounds j true) → S w' := fun h => h3.2.1 (by rw [hcomm]; exact hset h hib)
      have hb' : (∀ w, V w) ∨ Ahead bar (listed.setIfInBounds j true) := by
        rcases hV with h | ⟨_, hwt⟩
        · exact .inl h
        · rcases hb with h | h
          · exact .inl h
          · exact .inr (hkeep h hwt)
      have hVw : V w' := by
        rcases hV with h | ⟨hSV, _⟩
        · exact h w'
        · rcases hb' with h | h
          · exact h w'
          · exact hSV w' (hS' h)
      refine ⟨hS', ih (listed.setIfInBounds j true) a' w' hfree' hb' (ready_mono hr (Ne.symm hji)) h3.1 hVw hS' ?_⟩
      rw [← hcomm]
      exact h3.2.2
theorem wpB_all {rs : List Nat} {fuel : Nat} {listed : Array Bool} {a : Act} {w : World} (hr : Region.ready .any ops listed = rs) (hne : rs ≠ [])
    (h : ∀ i ∈ rs, wpOp P ops Q i (fun a' w' => (Ahead bar (listed.setIfInBounds i true) → S w') ∧ wpB P ops Q bar S fuel (listed.setIfInBounds i true) a' w') a w) : wpB P ops Q bar S (fuel + 1) listed a w :=
  ⟨fun h0 => absurd (hr ▸ h0) hne, hr ▸ h⟩
end
/-! ### The judgement: Hs holds till 'bar' -/
def TD (P : Program) (n : Nat) (ops : Array Oper) (bar : Nat) (fuel : Nat) (listed : Array Bool) (gS g : GW) (L : List (Nat × Value)) (D : List Deferred) (Hs H : List Atom) (K : KT) : Prop :=
  Le gS g → ∀ a g', Le g g' → Kn n L D a → Sat (Hs ++ H) g' → ∀ Q : Exit → Act → World → Prop, (∀ a w, (∃ I, K a ⟨w, I⟩) → Q .normal a w) → (∀ c a a' w, Q (.panic c) a w → Q (.panic c) a' w) →
    wpB P ops Q bar (SW gS Hs) fuel listed a g'.w
/-- Behind 'bar'. -/
def TA (P : Program) (n : Nat) (ops : Array Oper) (bar : Nat) (S : World → Prop) (fuel : Nat) (listed : Array Bool) (g : GW) (L : List (Nat × Value)) (D : List Deferred) (H : List Atom) (K : KT) : Prop :=
  ∀ a g', Le g g' → Kn n L D a → Sat H g' → ∀ Q : Exit → Act → World → Prop, (∀ a w, (∃ I, K a ⟨w, I⟩) → Q .normal a w) → (∀ c a a' w, Q (.panic c) a w → Q (.panic c) a' w) →
    wpB P ops Q bar S fuel listed a g'.w
section
variable {n : Nat} {ops : Array Oper} {bar fuel : Nat} {listed : Array Bool} {gS g : GW} {L : List (Nat × Value)} {D : List Deferred} {Hs H Hr : List Atom} {K : KT} {o : Oper} {i dd : Nat} {S : World → Prop} {Fz : GW → Prop}
theorem T_regionD {id m} {Q : QT} {H₀ : List Atom} (bar : Nat) (hm : P.follows .mixedOrders = true) (hn : ops.size = m) (p : Part H₀ Hs H)
    (h : TD P n ops bar m (Array.replicate m false) g g L D Hs H (fun a g => Q .normal a g)) : T P n (.region id ops true) g L D H₀ Q :=
  fun a g' hl hk hs => by
    subst hn
    have h1 := (hs.part p).drew (g'.w.drawn + 1)
    have h2 : (Code.region id ops true).wp P (fun e a w => e = .normal ∧ ∃ I, Q .normal a ⟨w, I⟩) a g'.w :=
      wp_region_any hm (wpAny_of_B _ _ _ _ (h (.refl _) a ⟨{ g'.w with drawn := g'.w.drawn + 1 }, g'.I⟩ (hl.trans h1.2) hk h1.1 (fun e a w => e = .normal ∧ ∃ I, Q .normal a ⟨w, I⟩) (fun a w ⟨I, q⟩ => ⟨rfl, I, q⟩)
        (fun c a a' w q => by cases q.1)))
    exact wp_mono h2 fun e a w ⟨he, q⟩ => by subst he; exact q
theorem sw_of {g' : GW} (hS : Le gS g) (hl : Le g g') (hs : Sat (Hs ++ H) g') : SW gS Hs g'.w := ⟨g'.I, hS.trans hl, hs.left⟩
theorem TD_done {Q : QT} (hr : Region.ready .any ops listed = []) (h : E n .normal g L D (Hs ++ H) Q) : TD P n ops bar fuel listed gS g L D Hs H (fun a g => Q .normal a g) :=
  fun hS a g' hl hk hs Q hQ hp => wpB_done hr (hQ a g'.w ⟨g'.I, h a g' hl hk hs⟩) fuel
theorem TA_done {Q : QT} (hr : Region.ready .any ops listed = []) (h : E n .normal g L D H Q) : TA P n ops bar S fuel listed g L D H (fun a g => Q .normal a g) :=
  fun a g' hl hk hs Q hQ hp => wpB_done hr (hQ a g'.w ⟨g'.I, h a g' hl hk hs⟩) fuel
theorem ne_of_beq {a b : Nat} (h : Nat.beq a b = false) : a ≠ b := by rintro rfl; simp at h
theorem take_ (hi : ops[i]? = some o) (hb : Nat.beq i bar = false) (hs : Region.noSelect ops = true) (hf : Region.free .any ops listed i = true) (hr : (Region.ready .any ops listed).contains i = true)
    {v : Value} {a : Act} {w : World} {Q : Exit → Act → World → Prop} (hp : ∀ c a a' w, Q (.panic c) a w → Q (.panic c) a' w) {V : World → Prop}
    (hV : (∀ w, V w) ∨ ((∀ w, S w → V w) ∧ waits ops bar i = true ∧ Ahead bar listed)) (hy : YieldsIf P ops V o v a) (hw : V w) (hS : Ahead bar listed → S w)
    (h : wpB P ops Q bar S fuel (listed.setIfInBounds i true) (a.put o.dst v) w) : wpB P ops Q bar S (fuel + 1) listed a w :=
  wpB_first (ne_of_beq hb) hi hs hp (hV.imp id fun h => ⟨h.1, h.2.1⟩) fuel listed a w (Region.free_spec hi hf) (hV.imp id fun h => h.2.2) (by simpa using hr) hy hw hS h
/-- Taken first. -/
theorem TD_p {v : Value} (hi : ops[i]? = some o) (hg : o.guard = none) (hb : Nat.beq i bar = false) (hs : Region.noSelect ops = true) (hf : Region.free .any ops listed i = true) (hr : (Region.ready .any ops listed).contains i = true)
    (hwt : waits ops bar i = true) (hah : listed.getD bar false = false)
    (hdst : o.dst = some dd) (hd : Nat.blt dd n = true) (h : OpP P o gS L Hs v) (k : TD P n ops bar fuel (listed.setIfInBounds i true) gS g ((dd, v) :: L) D Hs H K) : TD P n ops bar (fuel + 1) listed gS g L D Hs H K :=
  fun hS a g' hl hk hsat Q hQ hp =>
    take_ (V := SW gS Hs) hi hb hs hf hr hp (.inr ⟨fun _ h => h, hwt, hah⟩) (.inl ⟨by simp [Region.wanted, hg], fun w ⟨I, hl, hs⟩ => h a n D hk ⟨w, I⟩ hl hs⟩) (sw_of hS hl hsat) (fun _ => sw_of hS hl hsat)
      (k hS _ g' hl (by rw [hdst]; exact hk.put dd v hd) hsat Q hQ hp)
theorem TD_pg {v : Value} {j : Nat} {oj : Oper} {dj : Nat} {b : Bool} (hi : ops[i]? = some o) (hg : o.guard = some (j, b)) (hj : ops[j]? = some oj) (hdj : oj.dst = some dj) (hbb : lk L dj = some (.bool b))
    (hb : Nat.beq i bar = false) (hs : Region.noSelect ops = true) (hf : Region.free .any ops listed i = true) (hr : (Region.ready .any ops listed).contains i = true)
    (hwt : waits ops bar i = true) (hah : listed.getD bar false = false)
    (hdst : o.dst = some dd) (hd : Nat.blt dd n = true) (h : OpP P o gS L Hs v) (k : TD P n ops bar fuel (listed.setIfInBounds i true) gS g ((dd, v) :: L) D Hs H K) : TD P n ops bar (fuel + 1) listed gS g L D Hs H K :=
  fun hS a g' hl hk hsat Q hQ hp =>
    take_ (V := SW gS Hs) hi hb hs hf hr hp (.inr ⟨fun _ h => h, hwt, hah⟩) (.inl ⟨by have := hk.look dj _ hbb; simp [Region.wanted, hg, yielded, hj, hdj, this], fun w ⟨I, hl, hs⟩ => h a n D hk ⟨w, I⟩ hl hs⟩)
      (sw_of hS hl hsat) (fun _ => sw_of hS hl hsat) (k hS _ g' hl (by rw [hdst]; exact hk.put dd v hd) hsat Q hQ hp)
theorem TD_skip {j : Nat} {oj : Oper} {dj : Nat} {b : Bool} (hi : ops[i]? = some o) (hg : o.guard = some (j, b)) (hj : ops[j]? = some oj) (hdj : oj.dst = some dj) (hbb : lk L dj = some (.bool (!b)))
    (hb : Nat.beq i bar = false) (hs : Region.noSelect ops = true) (hf : Region.free .any ops listed i = true) (hr : (Region.ready .any ops listed).contains i = true)
    (hd : okDst n o.dst = true) (k : TD P n ops bar fuel (listed.setIfInBounds i true) gS g (pu L o.dst undef) D Hs H K) : TD P n ops bar (fuel + 1) listed gS g L D Hs H K :=
  fun hS a g' hl hk hsat Q hQ hp =>
    take_ (V := fun _ => True) hi hb hs hf hr hp (.inl fun _ => trivial) (.inr ⟨by have := hk.look dj _ hbb; cases b <;> simp [Region.wanted, hg, yielded, hj, hdj, this], rfl⟩) trivial (fun _ => sw_of hS hl hsat)
      (k hS _ g' hl (hk.pu o.dst undef hd) hsat Q hQ hp)
theorem TD_skipU {j : Nat} {oj : Oper} {dj : Nat} {b : Bool} (hi : ops[i]? = some o) (hg : o.guard = some (j, b)) (hj : ops[j]? = some oj) (hdj : oj.dst = some dj) (hbb : lk L dj = some undef)
    (hb : Nat.beq i bar = false) (hs : Region.noSelect ops = true) (hf : Region.free .any ops listed i = true) (hr : (Region.ready .any ops listed).contains i = true)
    (hd : okDst n o.dst = true) (k : TD P n ops bar fuel (listed.setIfInBounds i true) gS g (pu L o.dst undef) D Hs H K) : TD P n ops bar (fuel + 1) listed gS g L D Hs H K :=
  fun hS a g' hl hk hsat Q hQ hp =>
    take_ (V := fun _ => True) hi hb hs hf hr hp (.inl fun _ => trivial) (.inr ⟨by have := hk.look dj _ hbb; simp [Region.wanted, hg, yielded, hj, hdj, this, undef], rfl⟩) trivial (fun _ => sw_of hS hl hsat)
      (k hS _ g' hl (hk.pu o.dst undef hd) hsat Q hQ hp)
/-- The only one that may come up. -/
theorem TD_v {v : Value} (hi : ops[i]? = some o) (hg : o.guard = none) (hr : Region.ready .any ops listed = [i])
    (hdst : o.dst = some dd) (hd : Nat.blt dd n = true) (h : OpP P o g L (Hs ++ H) v) (k : TD P n ops bar fuel (listed.setIfInBounds i true) gS g ((dd, v) :: L) D Hs H K) : TD P n ops bar (fuel + 1) listed gS g L D Hs H K :=
  fun hS a g' hl hk hsat Q hQ hp => wpB_all hr (by simp) fun j hj => by
    obtain rfl : j = i := by simpa using hj
    unfold wpOp
    rw [hi]
    simp only [Region.wanted, hg, if_true]
    refine .inl ?_
    unfold Oper.wp
    rw [h a n D hk g' hl hsat]
    exact ⟨fun _ => sw_of hS hl hsat, k hS _ g' hl (by rw [hdst]; exact hk.put dd v hd) hsat Q hQ hp⟩
theorem TA_v {v : Value} (hi : ops[i]? = some o) (hg : o.guard = none) (hr : Region.ready .any ops listed = [i]) (hpast : listed.getD bar false = true)
    (hdst : o.dst = some dd) (hd : Nat.blt dd n = true) (h : OpP P o g L H v) (k : TA P n ops bar S fuel (listed.setIfInBounds i true) g ((dd, v) :: L) D H K) : TA P n ops bar S (fuel + 1) listed g L D H K :=
  fun a g' hl hk hsat Q hQ hp => wpB_all hr (by simp) fun j hj => by
    obtain rfl : j = i := by simpa using hj
    unfold wpOp
    rw [hi]
    simp only [Region.wanted, hg, if_true]
    refine .inl ?_
    unfold Oper.wp
    rw [h a n D hk g' hl hsat]
    exact ⟨fun hh => (by unfold Ahead at hh; rw [getD_set_true hpast] at hh; cases hh), k _ g' hl (by rw [hdst]; exact hk.put dd v hd) hsat Q hQ hp⟩
theorem TD_e {R : Value → GW → List Atom → Prop} (hi : ops[i]? = some o) (hg : o.guard = none) (hr : Region.ready .any ops listed = [i])
    (hd : okDst n o.dst = true) (h : Op1 P o g L (Hs ++ H) R)
    (k : ∀ v g' H'', Le g g' → R v g' H'' → ∃ H', Part H'' Hs H' ∧ TD P n ops bar fuel (listed.setIfInBounds i true) gS g' (pu L o.dst v) D Hs H' K) : TD P n ops bar (fuel + 1) listed gS g L D Hs H K :=
  fun hS a g' hl hk hsat Q hQ hp => wpB_all hr (by simp) fun j hj => by
    obtain rfl : j = i := by simpa using hj
    unfold wpOp
    rw [hi]
    simp only [Region.wanted, hg, if_true]
    refine .inl ?_
    unfold Oper.wp
    refine h a n D hk g' hl hsat _ _ fun v g'' H'' hl' hs' hR => ?_
    obtain ⟨H', p, hk'⟩ := k v g'' H'' (hl.trans hl') hR
    have hs2 := hs'.part p
    exact ⟨fun _ => sw_of (hS.trans (hl.trans hl')) (.refl _) hs2, hk' (hS.trans (hl.trans hl')) _ g'' (.refl _) (hk.pu o.dst v hd) hs2 Q hQ hp⟩
theorem TD_k {R : Value → GW → List Atom → Prop} (hi : ops[i]? = some o) (hg : o.guard = none) (hr : Region.ready .any ops listed = [i])
    (hd : okDst n o.dst = true) (h : Op1 P o g L (Hs ++ H) R)
    (k : ∀ v g' H'', Le g g' → R v g' H'' → ∃ H', Part H'' Hs H' ∧ TD P n ops bar fuel (listed.setIfInBounds i true) gS g (pu L o.dst v) D Hs H' K) : TD P n ops bar (fuel + 1) listed gS g L D Hs H K :=
  fun hS => TD_e hi hg hr hd h (fun v g' H'' hl hR => let ⟨H', p, t⟩ := k v g' H'' hl hR; ⟨H', p, fun _ a g'' hl' => t hS a g'' (hl.trans hl')⟩) hS
theorem TD_eg {R : Value → GW → List Atom → Prop} {j : Nat} {oj : Oper} {dj : Nat} {b : Bool} (hi : ops[i]? = some o) (hg : o.guard = some (j, b)) (hj : ops[j]? = some oj) (hdj : oj.dst = some dj) (hbb : lk L dj = some (.bool b))
    (hr : Region.ready .any ops listed = [i]) (hd : okDst n o.dst = true) (h : Op1 P o g L (Hs ++ H) R)
    (k : ∀ v g' H'', Le g g' → R v g' H'' → ∃ H', Part H'' Hs H' ∧ TD P n ops bar fuel (listed.setIfInBounds i true) gS g' (pu L o.dst v) D Hs H' K) : TD P n ops bar (fuel + 1) listed gS g L D Hs H K :=
  fun hS a g' hl hk hsat Q hQ hp => wpB_all hr (by simp) fun j' hj' => by
    obtain rfl : j' = i := by simpa using hj'
    unfold wpOp
    rw [hi]
    have hw : Region.wanted o (yielded ops a.tmps) = true := by have := hk.look dj _ hbb; simp [Region.wanted, hg, yielded, hj, hdj, this]
    simp only [hw, if_true]
    refine .inl ?_
    unfold Oper.wp
    refine h a n D hk g' hl hsat _ _ fun v g'' H'' hl' hs' hR => ?_
    obtain ⟨H', p, hk'⟩ := k v g'' H'' (hl.trans hl') hR
    have hs2 := hs'.part p
    exact ⟨fun _ => sw_of (hS.trans (hl.trans hl')) (.refl _) hs2, hk' (hS.trans (hl.trans hl')) _ g'' (.refl _) (hk.pu o.dst v hd) hs2 Q hQ hp⟩
theorem TD_kg {R : Value → GW → List Atom → Prop} {j : Nat} {oj : Oper} {dj : Nat} {b : Bool} (hi : ops[i]? = some o) (hg : o.guard = some (j, b)) (hj : ops[j]? = some oj) (hdj : oj.dst = some dj) (hbb : lk L dj = some (.bool b))
    (hr : Region.ready .any ops listed = [i]) (hd : okDst n o.dst = true) (h : Op1 P o g L (Hs ++ H) R)
    (k : ∀ v g' H'', Le g g' → R v g' H'' → ∃ H', Part H'' Hs H' ∧ TD P n ops bar fuel (listed.setIfInBounds i true) gS g (pu L o.dst v) D Hs H' K) : TD P n ops bar (fuel + 1) listed gS g L D Hs H K :=
  fun hS => TD_eg hi hg hj hdj hbb hr hd h (fun v g' H'' hl hR => let ⟨H', p, t⟩ := k v g' H'' hl hR; ⟨H', p, fun _ a g'' hl' => t hS a g'' (hl.trans hl')⟩) hS
theorem TD_shp {v : Value} {sz e xs} (hm : own v sz e xs ∈ Hs ++ H) (h : ∀ m, Shp v m → xs.length = m * sz → TD P n ops bar fuel listed gS g L D Hs H K) : TD P n ops bar fuel listed gS g L D Hs H K :=
  fun hS a g' hl hk hs Q hQ hp => by
    obtain ⟨m, h1, h2⟩ := own_shp (hs.holds _ hm)
    exact h m h1 h2 hS a g' hl hk hs Q hQ hp
theorem TD_freeze {v : Value} {sz e xs} (p : Part H [own v sz e xs] Hr) (hF : ∀ {g : GW}, Sat (own v sz e xs :: (Hs ++ Hr)) g → ∃ I, Sat (Hs ++ Hr) ⟨g.w, I⟩ ∧ Le g ⟨g.w, I⟩ ∧ Fz ⟨g.w, I⟩)
    (h : ∀ g', Le g g' → Fz g' → TD P n ops bar fuel listed gS g' L D Hs Hr K) : TD P n ops bar fuel listed gS g L D Hs H K :=
  fun hS a g' hl hk hs Q hQ hp => by
    obtain ⟨I, h1, h2, h3⟩ := hF ((hs.perm (List.Perm.append_left Hs p.perm)).perm (by
      show (Hs ++ ([own v sz e xs] ++ Hr)).Perm (own v sz e xs :: (Hs ++ Hr))
      exact List.perm_middle))
    exact h ⟨g'.w, I⟩ (hl.trans h2) h3 (hS.trans (hl.trans h2)) a ⟨g'.w, I⟩ (.refl _) hk h1 Q hQ hp
theorem ahead_self {l : Array Bool} {b : Nat} (h : Nat.blt b l.size = true) : ¬ Ahead b (l.setIfInBounds b true) := by
  have h' : b < l.size := by simpa [Nat.blt_eq] using h
  unfold Ahead
  simp [h']
/-- 'bar' itself: from here on nothing is asked of the world on the way. -/
theorem TD_bar {R : Value → GW → List Atom → Prop} (hi : ops[bar]? = some o) (hg : o.guard = none) (hr : Region.ready .any ops listed = [bar]) (hsz : Nat.blt bar listed.size = true)
    (hd : okDst n o.dst = true) (h : Op1 P o g L (Hs ++ H) R)
    (k : ∀ v g' H'', Le g g' → R v g' H'' → TA P n ops bar (SW gS Hs) fuel (listed.setIfInBounds bar true) g (pu L o.dst v) D H'' K) : TD P n ops bar (fuel + 1) listed gS g L D Hs H K :=
  fun hS a g' hl hk hsat Q hQ hp => wpB_all hr (by simp) fun j hj => by
    obtain rfl : j = bar := by simpa using hj
    unfold wpOp
    rw [hi]
    simp only [Region.wanted, hg, if_true]
    refine .inl ?_
    unfold Oper.wp
    refine h a n D hk g' hl hsat _ _ fun v g'' H'' hl' hs' hR => ?_
    exact ⟨fun hh => absurd hh (ahead_self hsz), k v g'' H'' (hl.trans hl') hR _ g'' (hl.trans hl') (hk.pu o.dst v hd) hs' Q hQ hp⟩
theorem TA_e {R : Value → GW → List Atom → Prop} (hi : ops[i]? = some o) (hg : o.guard = none) (hr : Region.ready .any ops listed = [i]) (hpast : listed.getD bar false = true)
    (hd : okDst n o.dst = true) (h : Op1 P o g L H R)
    (k : ∀ v g' H'', Le g g' → R v g' H'' → TA P n ops bar S fuel (listed.setIfInBounds i true) g' (pu L o.dst v) D H'' K) : TA P n ops bar S (fuel + 1) listed g L D H K :=
  fun a g' hl hk hsat Q hQ hp => wpB_all hr (by simp) fun j hj => by
    obtain rfl : j = i := by simpa using hj
    unfold wpOp
    rw [hi]
    simp only [Region.wanted, hg, if_true]
    refine .inl ?_
    unfold Oper.wp
    refine h a n D hk g' hl hsat _ _ fun v g'' H'' hl' hs' hR => ?_
    exact ⟨fun hh => (by unfold Ahead at hh; rw [getD_set_true hpast] at hh; cases hh), k v g'' H'' (hl.trans hl') hR _ g'' (.refl _) (hk.pu o.dst v hd) hs' Q hQ hp⟩
theorem TA_k {R : Value → GW → List Atom → Prop} (hi : ops[i]? = some o) (hg : o.guard = none) (hr : Region.ready .any ops listed = [i]) (hpast : listed.getD bar false = true)
    (hd : okDst n o.dst = true) (h : Op1 P o g L H R)
    (k : ∀ v g' H'', Le g g' → R v g' H'' → TA P n ops bar S fuel (listed.setIfInBounds i true) g (pu L o.dst v) D H'' K) : TA P n ops bar S (fuel + 1) listed g L D H K :=
  TA_e hi hg hr hpast hd h (fun v g' H'' hl hR a g'' hl' => k v g' H'' hl hR a g'' (hl.trans hl'))
/-- Behind 'bar', one that asks nothing of the world. -/
theorem TA_p {v : Value} (hi : ops[i]? = some o) (hg : o.guard = none) (hb : Nat.beq i bar = false) (hs : Region.noSelect ops = true) (hf : Region.free .any ops listed i = true) (hr : (Region.ready .any ops listed).contains i = true)
    (hpast : listed.getD bar false = true) (hdst : o.dst = some dd) (hd : Nat.blt dd n = true) (h : ∀ g, OpP P o g L [] v)
    (k : TA P n ops bar S fuel (listed.setIfInBounds i true) g ((dd, v) :: L) D H K) : TA P n ops bar S (fuel + 1) listed g L D H K :=
  fun a g' hl hk hsat Q hQ hp =>
    take_ (V := fun _ => True) hi hb hs hf hr hp (.inl fun _ => trivial)
      (.inl ⟨by simp [Region.wanted, hg], fun w _ => h ⟨w, fun _ => False⟩ a n D hk ⟨w, fun _ => False⟩ (.refl _) ⟨fun _ h => h.elim, by simp, by simp, .nil⟩⟩) trivial
      (fun hh => by unfold Ahead at hh; rw [hpast] at hh; cases hh) (k _ g' hl (by rw [hdst]; exact hk.put dd v hd) hsat Q hQ hp)
theorem TD_split {t : Bool} (s : Nat) (e : lk L s = some (.bool t)) (ht : t = true → TD P n ops bar fuel listed gS g ((s, .bool true) :: L) D Hs H K)
    (hf : t = false → TD P n ops bar fuel listed gS g ((s, .bool false) :: L) D Hs H K) : TD P n ops bar fuel listed gS g L D Hs H K :=
  fun hS a g' hl hk hs Q hQ hp => by
    have e' := hk.look s _ e
    have ext : ∀ b, t = b → Kn n ((s, .bool b) :: L) D a := fun b hb => ⟨hk.size, fun k v h => by
      simp only [lk] at h
      by_cases hsk : s = k
      · subst hsk; simp at h; subst h; rw [e', hb]
      · rw [beq_false hsk] at h; exact hk.look k v h, hk.dfr⟩
    cases t with
    | true => exact ht rfl hS a g' hl (ext true rfl) hs Q hQ hp
    | false => exact hf rfl hS a g' hl (ext false rfl) hs Q hQ hp
theorem TD_splitD {p : Prop} [Decidable p] (s : Nat) (e : lk L s = some (.bool (decide p))) (ht : p → TD P n ops bar fuel listed gS g ((s, .bool true) :: L) D Hs H K)
    (hf : ¬ p → TD P n ops bar fuel listed gS g ((s, .bool false) :: L) D Hs H K) : TD P n ops bar fuel listed gS g L D Hs H K :=
  TD_split s e (fun h => ht (of_decide_eq_true h)) (fun h => hf (of_decide_eq_false h))
theorem TD_splitN {p : Prop} [Decidable p] (s : Nat) (e : lk L s = some (.bool (!decide p))) (ht : ¬ p → TD P n ops bar fuel listed gS g ((s, .bool true) :: L) D Hs H K)
    (hf : p → TD P n ops bar fuel listed gS g ((s, .bool false) :: L) D Hs H K) : TD P n ops bar fuel listed gS g L D Hs H K :=
  TD_split s e (fun h => ht (of_decide_eq_false (by simpa using h))) (fun h => hf (of_decide_eq_true (by simpa using h)))
end
end Go.Hl
namespace Go.Hl
variable {P : Program}
def flatC : List Value → List Value
  | [] => []
  | v :: vs => v.cells.toList ++ flatC vs
theorem foldl_setR : ∀ (l : List Value) (c : Array Value) (o k : Nat), (l.zipIdx k).foldl (fun cs (x : Value × Nat) => cs.setIfInBounds (o + x.2) x.1) c = setR c (o + k) l
  | [], c, o, k => rfl
  | v :: l, c, o, k => by
    rw [List.zipIdx_cons, List.foldl_cons, foldl_setR l _ o (k + 1)]
    rfl
theorem setR_append : ∀ (xs ys : List Value) (c : Array Value) (k : Nat), setR c k (xs ++ ys) = setR (setR c k xs) (k + xs.length) ys
  | [], ys, c, k => rfl
  | x :: xs, ys, c, k => by
    rw [List.cons_append, setR, setR_append xs ys, setR]
    congr 1
    simp [Nat.add_comm, Nat.add_left_comm]
theorem fill_full (sz : Nat) : ∀ (vs : List Value) (k : Nat) (c : Array Value), (∀ v ∈ vs, v.cells.size = sz) → k * sz + vs.length * sz ≤ c.size →
    Instr.fill (fun i => some (i * sz, sz)) c ((List.range' k vs.length).zip vs) = some (setR c (k * sz) (flatC vs))
  | [], k, c, h, hs => rfl
  | v :: vs, k, c, h, hs => by
    have hv := h v (by simp)
    have hlen : (v :: vs).length = vs.length + 1 := rfl
    rw [hlen, Nat.add_mul] at hs
    rw [hlen, List.range'_succ, List.zip_cons_cons]
    unfold Instr.fill
    simp only []
    rw [if_neg (by simp [hv]; omega)]
    have e : v.cells.zipIdx.foldl (fun cs (x : Value × Nat) => cs.setIfInBounds (k * sz + x.2) x.1) c = setR c (k * sz) v.cells.toList := by
      rw [← Array.foldl_toList, Array.toList_zipIdx, foldl_setR]
      rfl
    rw [show (v.cells.zipIdx.foldl (fun cs x => match x with | (c, j) => cs.setIfInBounds (k * sz + j) c) c) = setR c (k * sz) v.cells.toList from e]
    rw [fill_full sz vs (k + 1) _ (fun u hu => h u (.tail _ hu)) (by rw [size_setR, Nat.add_mul]; omega)]
    rw [flatC, setR_append]
    congr 2
    rw [Array.length_toList, hv, Nat.add_mul]; omega
theorem setR_full (c : Array Value) (l : List Value) (h : l.length = c.size) : setR c 0 l = l.toArray := by
  apply Array.ext
  · rw [size_setR]; simp [h]
  · intro i h1 h2
    have := setR_get l c 0 i (by omega)
    rw [size_setR] at h1
    rw [if_pos ⟨by omega, by omega⟩, Nat.sub_zero] at this
    rw [Array.getElem?_eq_getElem (by rw [size_setR]; exact h1)] at this
    simp at h2
    rw [List.getElem?_eq_getElem h2] at this
    simpa using this
section
variable {d : Option Nat} {ty : TypeId} {ps : String} {af : Array Edge} {gd : Option (Nat × Bool)} {g : GW} {L : List (Nat × Value)} {H Hr : List Atom}
theorem flatC_length (sz : Nat) : ∀ (vs : List Value), (∀ v ∈ vs, v.cells.size = sz) → (flatC vs).length = vs.length * sz
  | [], h => by simp [flatC]
  | v :: vs, h => by
    rw [flatC, List.length_append, flatC_length sz vs (fun u hu => h u (.tail _ hu)), Array.length_toList, h v (by simp), List.length_cons, Nat.add_mul]
    omega
theorem e_buildSlice {t len el sz z} {parts : List (Nat × Operand)} {vs : List Value} (hi : parts.map (·.1) = List.range' 0 len) (e : evs L (parts.map (·.2)) = some vs) (hn : vs.length = len)
    (hu : ∀ w, (underlying t).run P w = .ok (.slice el) w) (hz : ∀ w, (sizeOf el).run P w = .ok sz w) (hzv : ∀ w, (zeroValue el).run P w = .ok z w) (hb' : Nat.ble (len * sz) 16777216 = true)
    (hall : ∀ v ∈ vs, v.cells.size = sz) :
    Op1 P ⟨d, .buildSlice t len parts.toArray, ty, ps, af, gd⟩ g L H (fun u g' H' => ∃ b, u = .slice (some ⟨b, 0, none⟩) len len ∧ H' = own (.slice (some ⟨b, 0, none⟩) len len) sz el (flatC vs) :: H) :=
  Op1.of_run fun a n D hk g' hl hs => by
    have hfl := flatC_length sz vs hall
    have hb : len * sz ≤ 16777216 := Nat.le_of_ble_eq_true hb'
    obtain ⟨hs', hl'⟩ := hs.alloc (.cells (flatC vs).toArray el)
    refine ⟨.slice (some ⟨g'.w.heap.size, 0, none⟩) len len, { g'.w with heap := g'.w.heap.push (.cells (flatC vs).toArray el) }, g'.I, _, ?_, hl', ?_, _, rfl, rfl⟩
    · have hev := hk.evals e
      have hp : (parts.toArray.map fun (x : Nat × Operand) => (x.1, a.eval x.2)).toList = (List.range' 0 len).zip vs := by
        rw [← hev, ← hi]
        simp [List.map_toArray, List.zip_map', Function.comp]
      simp only [execOp]
      refine run_v ?_
      unfold Instr.buildSlice
      rw [run_bind_ok (hu _)]
      simp only [Sem.run_bind, hz, Result.andThen_ok]
      rw [if_neg (by omega)]
      have hpre : ∀ c : Array Value, c.size = len * sz → Instr.fill (fun i => some (i * sz, sz)) c (parts.toArray.map fun (x : Nat × Operand) => (x.1, a.eval x.2)).toList = some (flatC vs).toArray := by
        intro c hc
        rw [hp, ← hn, fill_full sz vs 0 c hall (by rw [hc, hn]; omega), Nat.zero_mul, setR_full _ _ (by rw [hfl, hc, hn])]
      by_cases h0 : len * sz = 0
      · rw [if_pos h0]
        simp only [Sem.run_bind, Sem.run_pure, Result.andThen_ok]
        rw [hpre _ (by simp [h0])]
        rfl
      · rw [if_neg h0]
        simp only [Sem.run_bind, Sem.run_pure, Result.andThen_ok, hzv]
        rw [hpre _ (by simp)]
        rfl
    · have h2 := hs'.upd (A := blk g'.w.heap.size (.cells (flatC vs).toArray el)) (.cons .here .nil) _ (own (.slice (some ⟨g'.w.heap.size, 0, none⟩) len len) sz el (flatC vs)) rfl rfl (Nat.le_refl _) (fun _ _ _ => rfl)
        (own_mk (c := (flatC vs).toArray) (fz := (0, 0)) (by show (g'.w.heap.push _)[g'.w.heap.size]? = _; simp) (by rw [hfl, hn]) (Nat.le_refl _) (by simp [hfl, hn]) (fun j u hj => by simpa using hj) (fun k _ h => by simp at h))
        (fun b hb => by cases hb; exact ⟨by simp, .inl rfl⟩)
      exact h2.1
end
end Go.Hl
namespace Go.Hl
variable {P : Program}
theorem bs_toList (l : List UInt8) : (bs l).toList = l := ByteArray.toList_mk l
theorem bs_inj {l m : List UInt8} (h : bs l = bs m) : l = m := by rw [← bs_toList l, h, bs_toList]
theorem bs_of (s : ByteArray) : s = bs s.toList := by
  rw [ByteArray.toList_eq]
  rfl
section
variable {d : Option Nat} {ty : TypeId} {ps : String} {af : Array Edge} {gd : Option (Nat × Bool)} {g : GW} {L : List (Nat × Value)} {H Hr : List Atom}
theorem eqGuard_str {op : BinOp} {t : TypeId} {x y : Operand} {a b : ByteArray} (w : World) : (eqGuard op t x y (.string a) (.string b)).run P w = .ok () w := by
  unfold eqGuard; cases op <;> rfl
theorem p_str {op t x y yt a b r} (ex : ev L x = some (.string a)) (ey : ev L y = some (.string b))
    (h : ∀ w, (binOp op t (.string a) (.string b)).run P w = .ok r w) : OpP P ⟨d, .binOp op t x y yt, ty, ps, af, gd⟩ g L H r :=
  p_bin ex ey fun w => by rw [run_bind_ok (eqGuard_str w)]; exact h w
theorem p_str_eql {t x y yt a b} (ex : ev L x = some (str a)) (ey : ev L y = some (str b)) : OpP P ⟨d, .binOp .eql t x y yt, ty, ps, af, gd⟩ g L H (.bool (decide (a = b))) :=
  p_str ex ey fun w => by
    rw [binOp_string_eql, bs_toList, bs_toList, Sem.run_pure]
    congr 2
    rw [Bool.eq_iff_iff]
    simp
theorem p_str_neq {t x y yt a b} (ex : ev L x = some (str a)) (ey : ev L y = some (str b)) : OpP P ⟨d, .binOp .neq t x y yt, ty, ps, af, gd⟩ g L H (.bool (decide (a ≠ b))) :=
  p_str ex ey fun w => by
    rw [binOp_string_neq, bs_toList, bs_toList, Sem.run_pure]
    congr 2
    rw [Bool.eq_iff_iff]
    simp
theorem p_str_lss {t x y yt a b} (ex : ev L x = some (str a)) (ey : ev L y = some (str b)) : OpP P ⟨d, .binOp .lss t x y yt, ty, ps, af, gd⟩ g L H (.bool (Op.bytesLess a b)) :=
  p_str ex ey fun w => by rw [binOp_string_lss, bs_toList, bs_toList, Sem.run_pure]
theorem p_str_geq {t x y yt a b} (ex : ev L x = some (str a)) (ey : ev L y = some (str b)) : OpP P ⟨d, .binOp .geq t x y yt, ty, ps, af, gd⟩ g L H (.bool (!Op.bytesLess a b)) :=
  p_str ex ey fun w => by simp [binOp, Op.stringOp, bs_toList]
theorem p_str_gtr {t x y yt a b} (ex : ev L x = some (str a)) (ey : ev L y = some (str b)) : OpP P ⟨d, .binOp .gtr t x y yt, ty, ps, af, gd⟩ g L H (.bool (!(Op.bytesLess a b || decide (a = b)))) :=
  p_str ex ey fun w => by
    simp only [binOp, Op.stringOp, bs_toList, Sem.run_pure]
    congr 4
    rw [Bool.eq_iff_iff]
    simp
theorem p_str_add {t x y yt a b c} (ex : ev L x = some (str a)) (ey : ev L y = some (str b)) (hb : a.length + b.length ≤ 9223372036854775807) (hc : a ++ b = c) :
    OpP P ⟨d, .binOp .add t x y yt, ty, ps, af, gd⟩ g L H (str c) :=
  p_str ex ey fun w => by
    subst hc
    rw [binOp_string_add, run_string_add_sum w _ _ (by rw [bs_size, bs_size]; exact hb)]
    unfold str bs
    rw [ByteArray.mk_append_mk]
theorem p_lenStrL {at_ x t l} (ex : ev L x = some (str l)) (ha : at_[0]? = some t) (hu : ∀ w, (underlying t).run P w = .ok .string w) :
    OpP P ⟨d, .call ⟨.builtin .len, #[x], at_⟩, ty, ps, af, gd⟩ g L H (.int .i64 l.length) := p_lenStr ex ha hu
theorem bs_get (l : List UInt8) (j : Nat) : (bs l)[j]? = l[j]? := by
  by_cases h : j < l.length
  · rw [ByteArray.getElem?_lt' _ _ (by rw [bs_size]; exact h), List.getElem?_eq_getElem h]
    rfl
  · rw [ByteArray.getElem?_ge' _ _ (by rw [bs_size]; exact h), List.getElem?_eq_none (by omega)]
theorem p_indexL {t x ix k l c} {j : Nat} {i : Int} (ex : ev L x = some (str l)) (ei : ev L ix = some (.int k i)) (hu : ∀ w, (underlying t).run P w = .ok .string w)
    (hi : i = (j : Int)) (hv : l[j]? = some c) : OpP P ⟨d, .index t x ix, ty, ps, af, gd⟩ g L H (bv c) :=
  p_index ex ei hu hi (by rw [bs_get]; exact hv)
theorem bs_extract (l : List UInt8) (a b : Nat) : (bs l).extract a b = bs ((l.take b).drop a) := by
  unfold bs
  rw [ByteArray.extract_mk, List.drop_take]
/-- s[lo:hi] -/
theorem p_sliceStr {t x lo hi l k k' r} {a b : Nat} {i j : Int} (ex : ev L x = some (str l)) (elo : ev L lo = some (.int k i)) (ehi : ev L hi = some (.int k' j)) (hu : ∀ w, (underlying t).run P w = .ok .string w)
    (hi' : i = (a : Int)) (hj : j = (b : Int)) (hab : a ≤ b) (hb : b ≤ l.length) (hr : (l.take b).drop a = r) : OpP P ⟨d, .slice t x (some lo) (some hi) none, ty, ps, af, gd⟩ g L H (str r) :=
  fun _ n D hk g' hl hs => by
    subst hr; subst hi'; subst hj
    simp only [execOp, hk.eval ex, Option.map_some, Option.map_none, hk.eval elo, hk.eval ehi]
    refine run_v ?_
    unfold Instr.sliceAt Instr.slice str
    simp only [Sem.run_bind, hu, Result.andThen_ok, Option.isSome_none, Bool.false_eq_true, if_false, Instr.sliceBounds, Instr.sliceBound, asIntOf, Sem.run_pure, bs_size]
    rw [if_pos ⟨by omega, by omega⟩, Sem.run_pure]
    simp only [Result.andThen_ok, Int.toNat_natCast]
    rw [if_pos ⟨by omega, by omega⟩, Sem.run_pure]
    simp only [Result.andThen_ok, bs_extract]
theorem p_sliceStrTo {t x hi l k' r} {b : Nat} {j : Int} (ex : ev L x = some (str l)) (ehi : ev L hi = some (.int k' j)) (hu : ∀ w, (underlying t).run P w = .ok .string w)
    (hj : j = (b : Int)) (hb : b ≤ l.length) (hr : l.take b = r) : OpP P ⟨d, .slice t x none (some hi) none, ty, ps, af, gd⟩ g L H (str r) :=
  fun _ n D hk g' hl hs => by
    subst hr; subst hj
    simp only [execOp, hk.eval ex, Option.map_some, Option.map_none, hk.eval ehi]
    refine run_v ?_
    unfold Instr.sliceAt Instr.slice str
    simp only [Sem.run_bind, hu, Result.andThen_ok, Option.isSome_none, Bool.false_eq_true, if_false, Instr.sliceBounds, Instr.sliceBound, asIntOf, Sem.run_pure, bs_size]
    rw [if_pos ⟨by omega, by omega⟩, Sem.run_pure]
    simp only [Result.andThen_ok, Int.toNat_natCast, bs_extract, List.drop_zero]
theorem p_sliceStrFrom {t x lo l k r} {a : Nat} {i : Int} (ex : ev L x = some (str l)) (elo : ev L lo = some (.int k i)) (hu : ∀ w, (underlying t).run P w = .ok .string w)
    (hi' : i = (a : Int)) (ha : a ≤ l.length) (hr : l.drop a = r) : OpP P ⟨d, .slice t x (some lo) none none, ty, ps, af, gd⟩ g L H (str r) :=
  fun _ n D hk g' hl hs => by
    subst hr; subst hi'
    simp only [execOp, hk.eval ex, Option.map_some, Option.map_none, hk.eval elo]
    refine run_v ?_
    unfold Instr.sliceAt Instr.slice str
    simp only [Sem.run_bind, hu, Result.andThen_ok, Option.isSome_none, Bool.false_eq_true, if_false, Instr.sliceBounds, Instr.sliceBound, asIntOf, Sem.run_pure, bs_size]
    rw [if_pos ⟨by omega, by omega⟩, Sem.run_pure]
    simp only [Result.andThen_ok, Int.toNat_natCast, bs_extract, List.take_length]
/-- string(rune) of ASCII. -/
theorem p_runeStr {src dst x k n ds} {c : UInt8} (ex : ev L x = some (.int k n)) (hs : ∀ w, (underlying src).run P w = .ok ds w) (hd : ∀ w, (underlying dst).run P w = .ok .string w)
    (hn : n = (c.toNat : Int)) (hc : c.toNat < 128) : OpP P ⟨d, .convert src dst x, ty, ps, af, gd⟩ g L H (str [c]) :=
  fun a nn D hk g' hl _ => by
    subst hn
    simp only [execOp, hk.eval ex]
    refine run_v ?_
    have he : Utf8.encode (c.toNat : Int) = bs [c] := by
      have hv : Utf8.valid (c.toNat : Int) = true := by
        unfold Utf8.valid; simp; omega
      unfold Utf8.encode
      simp only [hv, if_true, Int.toNat_natCast]
      rw [if_pos hc]
      simp [bs]
    unfold convert
    rw [run_bind_ok (hs _), run_bind_ok (hd _)]
    cases ds <;> simp [Conv.intToString, he, str]
/-- What reads as bytes. -/
theorem foldl_push (l : List UInt8) : ∀ s : ByteArray, (l.map fun c => (c.toNat : Int)).foldl (fun r n => r.push (UInt8.ofNat n.toNat)) s = s ++ bs l := by
  induction l with
  | nil => intro s; simp [bs]; apply ByteArray.ext; simp
  | cons c l ih =>
    intro s
    rw [List.map_cons, List.foldl_cons, ih]
    apply ByteArray.ext
    simp [bs]
theorem p_bytesStr {src dst x e l m} {v : Value} (ex : ev L x = some v) (hs : ∀ w, (underlying src).run P w = .ok (.slice e) w) (hd : ∀ w, (underlying dst).run P w = .ok .string w)
    (he : ∀ w, (underlying e).run P w = .ok (.int .u8) w) (hv : (∃ ad cap, v = .slice (some ad) m cap) ∨ ∃ cap, v = .slice none m cap) (src' : Src P g H v 1 m (bvs l)) :
    OpP P ⟨d, .convert src dst x, ty, ps, af, gd⟩ g L H (str l) :=
  fun a nn D hk g' hl hsat => by
    simp only [execOp, hk.eval ex]
    refine run_v ?_
    have hr := src'.2.2 g' hl hsat m (by rw [src'.2.1]; exact Nat.le_refl _)
    have hlen := src'.2.1
    rw [Nat.mul_one] at hlen hr
    rw [← hlen, List.take_length] at hr
    rw [hlen] at hr
    unfold convert
    rw [run_bind_ok (hs _), run_bind_ok (hd _)]
    rcases hv with ⟨ad, cap, rfl⟩ | ⟨cap, rfl⟩
    · simp only []
      rw [run_bind_ok (he _)]
      simp only []
      have hr2 : (loadCells ad m).run P g'.w = .ok (((l.map fun c => (c.toNat : Int)).map (Value.int .u8)).toArray) g'.w := by
        simp only [Builtin.firstCells, Nat.mul_one] at hr
        rw [hr]
        simp [bvs]
        exact fun a _ => rfl
      rw [run_bytesToString g'.w ad m cap _ hr2, foldl_push]
      have e0 : (ByteArray.empty ++ bs l) = bs l := by apply ByteArray.ext; simp
      rw [e0]
      rfl
    · simp only []
      rw [run_bind_ok (he _)]
      have : l = [] := by
        simp [Builtin.firstCells, bvs] at hr
        exact hr
      subst this
      rfl
end
end Go.Hl
namespace Go.Hl
variable {P : Program}
/-- The address of a cell of a slice. -/
def ep (v : Value) (k : Nat) : Value :=
  match v with
  | .slice (some a) _ _ => .pointer (some ⟨a.block, a.off + k, none⟩)
  | v => v
/-- What a slice reads as, in frozen memory: the cells of its elements. -/
def Rd (g : GW) (v : Value) (xs : List Value) : Prop :=
  match v with
  | .slice (some a) _ _ => (xs = [] ∨ a.spot = none) ∧ Cells g a.block a.off xs
  | .slice none _ _ => xs = []
  | _ => False
theorem Rd.mono {g g' : GW} {v : Value} {xs : List Value} (h : Rd g v xs) (hl : Le g g') : Rd g' v xs := by
  cases v with
  | slice a len cap =>
    cases a with
    | none => exact h
    | some a => exact ⟨h.1, h.2.mono hl⟩
  | _ => exact h
theorem Rd.nil (g : GW) (p : Option Addr) (n c : Nat) : Rd g (.slice p n c) [] := by
  cases p with
  | none => rfl
  | some a => exact ⟨.inl rfl, fun j v h => by simp at h⟩
def Bytes (g : GW) (v : Value) (l : List UInt8) : Prop := Shp v l.length ∧ Rd g v (bvs l)
theorem Bytes.mono {g g' : GW} {v : Value} {l : List UInt8} (h : Bytes g v l) (hl : Le g g') : Bytes g' v l := ⟨h.1, h.2.mono hl⟩
theorem Bytes.nil (g : GW) (cap : Nat) : Bytes g (.slice none 0 cap) [] := ⟨.inl ⟨none, cap, rfl, rfl, .inl rfl⟩, rfl⟩
theorem Shp.nil : Shp (.slice none 0 0) 0 := .inl ⟨none, 0, rfl, rfl, .inl rfl⟩
theorem Shp.some (b o n cap : Nat) (h : n ≤ cap) : Shp (.slice (some ⟨b, o, none⟩) n cap) n := .inr ⟨b, o, cap, h, rfl⟩
theorem Shp.pos {v : Value} {n : Nat} (h : Shp v n) (hn : 0 < n) : ∃ b o cap, n ≤ cap ∧ v = .slice (.some ⟨b, o, none⟩) n cap := by
  rcases h with ⟨_, cap, _, h, _⟩ | h
  · omega
  · exact h
section
variable {d : Option Nat} {ty : TypeId} {ps : String} {af : Array Edge} {gd : Option (Nat × Bool)} {g : GW} {L : List (Nat × Value)} {H Hr : List Atom}
theorem p_len {at_ x t e} {v : Value} {n : Nat} (hs : Shp v n) (ex : ev L x = some v) (ha : at_[0]? = some t) (hu : ∀ w, (underlying t).run P w = .ok (.slice e) w) :
    OpP P ⟨d, .call ⟨.builtin .len, #[x], at_⟩, ty, ps, af, gd⟩ g L H (.int .i64 n) := by
  rcases hs with ⟨p0, cap, rfl, rfl, hp0⟩ | ⟨b, o, cap, hcap, rfl⟩
  · exact p_lenSl ex ha hu
  · exact p_lenSl ex ha hu
theorem p_ix {t x ix k elem sz r} {v : Value} {n j : Nat} {i : Int} (hs : Shp v n) (ex : ev L x = some v) (ei : ev L ix = some (.int k i))
    (hu : ∀ w, (underlying t).run P w = .ok (.slice elem) w) (hz : ∀ w, (sizeOf elem).run P w = .ok sz w) (hi : i = (j : Int)) (hj : j < n) (hr : ep v (j * sz) = r) :
    OpP P ⟨d, .indexAddr t x ix, ty, ps, af, gd⟩ g L H r := by
  obtain ⟨b, o, cap, hcap, rfl⟩ := hs.pos (by omega)
  subst hr
  exact p_indexAddr ex ei hu hz hi hj rfl
theorem p_fa {s x i fs f m r} {v : Value} {n k : Nat} (hs : Shp v n) (hn : 0 < n) (ex : ev L x = some (ep v k)) (hu : ∀ w, (underlying s).run P w = .ok (.struct fs) w) (hf : fs[i]? = some f)
    (hz : ∀ w, (sizeOf f.type).run P w = .ok (m + 1) w) (hr : ep v (k + f.offset) = r) : OpP P ⟨d, .fieldAddr s x i, ty, ps, af, gd⟩ g L H r := by
  obtain ⟨b, o, cap, hcap, rfl⟩ := hs.pos hn
  subst hr
  exact p_fieldAddr ex hu hf hz (Nat.add_assoc _ _ _)
theorem own_at {w : World} {v : Value} {sz e xs} (h : (own v sz e xs).holds w) {k : Nat} {u : Value} (hk : xs[k]? = some u) : ∃ b o len cap, v = .slice (some ⟨b, o, none⟩) len cap ∧ w.cell? ⟨b, o + k, none⟩ = some u := by
  cases v with
  | slice a len cap =>
    cases a with
    | none => obtain ⟨_, _, h3⟩ := h; subst h3; cases hk
    | some a =>
      obtain ⟨b, o, sp⟩ := a
      obtain ⟨hsp, h2⟩ := h
      simp only [] at hsp
      subst hsp
      exact ⟨b, o, len, cap, rfl, own_cell (sz := sz) (e := e) ⟨rfl, h2⟩ hk⟩
  | _ => exact h.elim
theorem p_ldOwn {t x sz e xs u} {v : Value} {k : Nat} (ex : ev L x = some (ep v k)) (ha : ∀ w, (isAgg t).run P w = .ok false w) (hm : own v sz e xs ∈ H) (hk' : xs[k]? = some u) :
    OpP P ⟨d, .load t x, ty, ps, af, gd⟩ g L H u :=
  fun a n D hk g' hl hs => by
    obtain ⟨b, o, len, cap, rfl, hc⟩ := own_at (hs.holds _ hm) hk'
    have ex' : ev L x = some (.pointer (some ⟨b, o + k, none⟩)) := ex
    simp only [execOp, hk.eval ex']
    exact run_v (run_load_cell ha hc)
theorem Rd.at {g : GW} {v : Value} {xs : List Value} (h : Rd g v xs) {k : Nat} {u : Value} (hk : xs[k]? = some u) : ∃ b o len cap, v = .slice (some ⟨b, o, none⟩) len cap ∧ Cells g b o xs := by
  cases v with
  | slice a len cap =>
    cases a with
    | none => have h' : xs = [] := h; subst h'; cases hk
    | some a =>
      obtain ⟨b, o, sp⟩ := a
      obtain ⟨hsp, h2⟩ := h
      simp only [] at hsp
      obtain rfl : sp = none := hsp.resolve_left (fun h => by subst h; cases hk)
      exact ⟨b, o, len, cap, rfl, h2⟩
  | _ => exact h.elim
theorem p_ldRd {t x xs u} {v : Value} {k : Nat} (h : Rd g v xs) (ex : ev L x = some (ep v k)) (ha : ∀ w, (isAgg t).run P w = .ok false w) (hk' : xs[k]? = some u) :
    OpP P ⟨d, .load t x, ty, ps, af, gd⟩ g L H u := by
  obtain ⟨b, o, len, cap, rfl, hc⟩ := h.at hk'
  exact p_loadFs k ex ha hc hk' rfl
theorem p_ldRdN {t x xs m} {vs : List Value} {v : Value} {k : Nat} (h : Rd g v xs) (ex : ev L x = some (ep v k)) (ha : ∀ w, (isAgg t).run P w = .ok true w) (hz : ∀ w, (sizeOf t).run P w = .ok m w)
    (hl : vs.length = m) (hm : 0 < m) (hj : ∀ i u, vs[i]? = some u → xs[k + i]? = some u) : OpP P ⟨d, .load t x, ty, ps, af, gd⟩ g L H (.agg vs.toArray) := by
  have h0 : ∃ u, vs[0]? = some u := ⟨vs[0]'(by omega), List.getElem?_eq_getElem _⟩
  obtain ⟨u0, hu0⟩ := h0
  obtain ⟨b, o, len, cap, rfl, hc⟩ := h.at (hj 0 u0 hu0)
  refine p_loadFN ex ha hz (fun i u hi => ?_) hl
  have := hc (k + i) u (hj i u hi)
  rw [← Nat.add_assoc] at this
  exact this
theorem p_ldOwnN {t x sz e xs m} {vs : List Value} {v : Value} {k : Nat} (ex : ev L x = some (ep v k)) (ha : ∀ w, (isAgg t).run P w = .ok true w) (hz : ∀ w, (sizeOf t).run P w = .ok m w)
    (hm' : own v sz e xs ∈ H) (hl : vs.length = m) (hm : 0 < m) (hj : ∀ i u, vs[i]? = some u → xs[k + i]? = some u) : OpP P ⟨d, .load t x, ty, ps, af, gd⟩ g L H (.agg vs.toArray) :=
  fun a n D hk g' hl' hs => by
    have h0 : ∃ u, vs[0]? = some u := ⟨vs[0]'(by omega), List.getElem?_eq_getElem _⟩
    obtain ⟨u0, hu0⟩ := h0
    obtain ⟨b, o, len, cap, rfl, hc⟩ := own_at (hs.holds _ hm') (hj 0 u0 hu0)
    have ex' : ev L x = some (.pointer (some ⟨b, o + k, none⟩)) := ex
    simp only [execOp, hk.eval ex']
    refine run_v (run_loadN ha hz hl fun i u hi => ?_)
    have := own_cell (hs.holds _ hm') (hj i u hi)
    rw [← Nat.add_assoc] at this
    exact this
/-- A store into a row of the code's own. -/
theorem e_stOwn {t x y sz e xs u} {v : Value} {k : Nat} (ex : ev L x = some (ep v k)) (ey : ev L y = some u) (hz : ∀ w, (sizeOf t).run P w = .ok 1 w) (hu : u.oneCell' = true)
    (p : Part H [own v sz e xs] Hr) (hk : k < xs.length) : Op1 P ⟨d, .store t x y, ty, ps, af, gd⟩ g L H (fun r g' H' => r = undef ∧ H' = own v sz e (xs.set k u) :: Hr) :=
  Op1.of_skip fun a n D hkn g' hl hsat => by
    have hown := hsat.head p
    have hd := (hsat.part p).dom (own v sz e xs) (by simp)
    cases v with
    | slice a' len cap =>
      cases a' with
      | none => obtain ⟨_, _, h3⟩ := hown; subst h3; simp at hk
      | some a' =>
        obtain ⟨b, o, sp⟩ := a'
        obtain ⟨hsp, hxl, hlc, c, fz, hb, hcs, hx, hf⟩ := hown
        simp only [] at hsp hb hcs hx hf
        subst hsp
        have hle : len * sz ≤ cap * sz := Nat.mul_le_mul_right sz hlc
        have hu' : u.cells = #[u] := by cases u <;> first | rfl | cases hu
        obtain ⟨w', hr, hw⟩ := run_storeCells_blk (P := P) b (o + k) e fz [u] 0 c g'.w hb (by simpa using hu) (by simp; omega) (fun j h1 h2 => hf j (by simp at h2; omega))
        have h2 := hsat.upd p w' (own (.slice (some ⟨b, o, none⟩) len cap) sz e (xs.set k u)) hw.os hw.output (Nat.le_of_eq hw.size.symm) (fun j _ hj => hw.other j hj)
          (own_mk hw.at_ (by rw [List.length_set]; exact hxl) hlc (by rw [size_setR]; exact hcs) (fun j r hj => by
            rw [Nat.add_zero, setR_get _ _ _ _ (by simp; omega)]
            by_cases hjk : k = j
            · subst hjk
              rw [if_pos ⟨by omega, by simp⟩, Nat.sub_self]
              rw [List.getElem?_set_self hk] at hj
              exact hj
            · rw [List.getElem?_set_ne hjk] at hj
              rw [if_neg (by simp; omega)]
              exact hx j r hj) hf)
          (fun j hj => by cases hj; exact ⟨by rw [hw.size]; exact (hd b rfl).1, .inl rfl⟩)
        refine ⟨w', g'.I, _, ?_, h2.2, h2.1, rfl, rfl⟩
        have ex' : ev L x = some (.pointer (some ⟨b, o + k, none⟩)) := ex
        simp only [execOp, hkn.eval ex', hkn.eval ey, Instr.storeAt, Instr.sureAddr, Sem.run_bind, Sem.run_pure, Result.andThen_ok, storeVar, hz, hu']
        rw [if_neg (by simp), hr]
        rfl
    | _ => exact hown.elim
theorem src_own {sz e n ys} {v : Value} (hs : Shp v n) (hl : ys.length = n * sz) (hm : own v sz e ys ∈ H) : Src P g H v sz n ys := by
  rcases hs with ⟨p0, cap, rfl, rfl, hp0⟩ | ⟨b, o, cap, hcap, rfl⟩
  · have : ys = [] := List.eq_nil_of_length_eq_zero (by simpa using hl)
    subst this
    exact src_nilP
  · exact src_ownS hl hm
theorem src_rd {sz n ys} {v : Value} (hs : Shp v n) (hl : ys.length = n * sz) (h : Rd g v ys) : Src P g H v sz n ys := by
  rcases hs with ⟨p0, cap, rfl, rfl, hp0⟩ | ⟨b, o, cap, hcap, rfl⟩
  · have : ys = [] := List.eq_nil_of_length_eq_zero (by simpa using hl)
    subst this
    exact src_nilP
  · exact src_cells hl h.2
theorem src_bytes {l} {v : Value} (h : Bytes g v l) : Src P g H v 1 l.length (bvs l) := src_rd h.1 (by simp [bvs]) h.2
/-- A row is frozen. -/
theorem own_freeze {v : Value} {sz e xs} {g : GW} (h : Sat (own v sz e xs :: H) g) : ∃ I, Sat H ⟨g.w, I⟩ ∧ Le g ⟨g.w, I⟩ ∧ Rd ⟨g.w, I⟩ v xs := by
  obtain ⟨h1, h2⟩ := h.freeze
  refine ⟨_, h1, h2, ?_⟩
  have hown := h.holds _ (List.mem_cons_self ..)
  cases v with
  | slice a len cap =>
    cases a with
    | none => exact hown.2.2
    | some a =>
      obtain ⟨b, o, sp⟩ := a
      have hsp := hown.1
      simp only [] at hsp
      subst hsp
      exact ⟨.inr rfl, fun j u hj => ⟨.inr rfl, own_cell hown hj⟩⟩
  | _ => exact hown.elim
theorem T_freeze {n c D Q} {v : Value} {sz e xs} (p : Part H [own v sz e xs] Hr) (h : ∀ g', Le g g' → Rd g' v xs → T P n c g' L D Hr Q) : T P n c g L D H Q :=
  fun a g' hl hk hs => by
    obtain ⟨I, h1, h2, h3⟩ := own_freeze (hs.part p)
    exact h ⟨g'.w, I⟩ (hl.trans h2) h3 a ⟨g'.w, I⟩ (.refl _) hk h1
theorem T_nil {n c D Q} (sz : Nat) (e : TypeId) (h : T P n c g L D (own (.slice none 0 0) sz e [] :: H) Q) : T P n c g L D H Q :=
  fun a g' hl hk hs => h a g' hl hk (own_nil sz e hs)
theorem TL_nilS {n ops l D K} (sz : Nat) (e : TypeId) (h : TL P n ops l g L D (own (.slice none 0 0) sz e [] :: H) K) : TL P n ops l g L D H K :=
  fun a g' hl hk hs => h a g' hl hk (own_nil sz e hs)
end
section
variable {d : Option Nat} {ty : TypeId} {ps : String} {af : Array Edge} {gd : Option (Nat × Bool)} {g : GW} {L : List (Nat × Value)} {H Hr : List Atom}
/-- A store of a whole block. -/
theorem e_storeW {t x y b v cs vs e m} (ex : ev L x = some (.pointer (some ⟨b, 0, none⟩))) (ey : ev L y = some v) (hz : ∀ w, (sizeOf t).run P w = .ok m w) (hv : v.cells = vs) (hm : vs.size = m)
    (hone : ∀ u ∈ vs.toList, u.oneCell' = true) (p : Part H [blk b (.cells cs e)] Hr) (hs : cs.size = m) :
    Op1 P ⟨d, .store t x y, ty, ps, af, gd⟩ g L H (fun u g' H' => u = undef ∧ H' = blk b (.cells vs e) :: Hr) := by
  subst hv
  have h := e_store (P := P) (d := d) (ty := ty) (ps := ps) (af := af) (gd := gd) (g := g) (t := t) (m := m) ex ey hz hm hone p (by omega) (fun k _ _ h => by simp at h)
  rw [setR_full cs v.cells.toList (by rw [Array.length_toList, hm, hs])] at h
  exact h
end
theorem flat_get {α β : Type} {f : α → List β} {n : Nat} (hf : ∀ a, (f a).length = n) : ∀ (l : List α) (i : Nat) (a : α), l[i]? = some a → ∀ j, j < n → (l.flatMap f)[i * n + j]? = (f a)[j]?
  | [], i, a, h, j, hj => by simp at h
  | x :: l, i, a, h, j, hj => by
    rw [List.flatMap_cons]
    cases i with
    | zero =>
      obtain rfl : x = a := by simpa using h
      rw [List.getElem?_append_left (by rw [hf]; omega)]
      simp
    | succ i =>
      rw [List.getElem?_append_right (by rw [hf, Nat.add_mul]; omega), hf]
      have e : (i + 1) * n + j - n = i * n + j := by rw [Nat.add_mul]; omega
      rw [e]
      exact flat_get hf l i a (by simpa using h) j hj
theorem flat_length {α β : Type} {f : α → List β} {n : Nat} (hf : ∀ a, (f a).length = n) (l : List α) : (l.flatMap f).length = l.length * n := by
  induction l with
  | nil => simp
  | cons x l ih => rw [List.flatMap_cons, List.length_append, ih, hf, List.length_cons, Nat.add_mul]; omega
theorem flat_all {α β : Type} {f : α → List β} {n : Nat} (hf : ∀ a, (f a).length = n) {l : List α} {i : Nat} {a : α} (h : l[i]? = some a) : ∀ j u, (f a)[j]? = some u → (l.flatMap f)[i * n + j]? = some u :=
  fun j u hj => by
    have hlt : j < n := by rw [← hf a]; exact (List.getElem?_eq_some_iff.1 hj).1
    rw [flat_get hf l i a h j hlt, hj]
theorem fdivN (n k : Nat) : (n : Int).fdiv (k : Int) = ((n / k : Nat) : Int) := by
  rw [Int.fdiv_eq_ediv_of_nonneg _ (by omega)]
  exact (Int.natCast_ediv n k).symm
theorem wrapN {k : IntKind} (hk : k.signed = false) (n : Nat) (hn : n < 2 ^ k.bits) : k.wrap (n : Int) = n := by
  unfold IntKind.wrap
  simp only [hk, Bool.false_and, Bool.false_eq_true, if_false]
  rw [Int.emod_eq_of_lt (by omega)]
  exact_mod_cast hn
theorem bitsOf_andN {k : IntKind} (hk : k.signed = false) (a b : Nat) (ha : a < 2 ^ k.bits) (hb : b < 2 ^ k.bits) : bitsOf .and k a b = ((a &&& b : Nat) : Int) := by
  have e : (BitVec.ofInt k.bits (a : Int) &&& BitVec.ofInt k.bits (b : Int)).toNat = a &&& b := by
    rw [BitVec.toNat_and, BitVec.ofInt_natCast, BitVec.ofInt_natCast, BitVec.toNat_ofNat, BitVec.toNat_ofNat, Nat.mod_eq_of_lt ha, Nat.mod_eq_of_lt hb]
  simp only [bitsOf, e]
  exact wrapN hk _ (Nat.lt_of_le_of_lt Nat.and_le_left ha)
theorem bitsOf_orN {k : IntKind} (hk : k.signed = false) (a b : Nat) (ha : a < 2 ^ k.bits) (hb : b < 2 ^ k.bits) : bitsOf .or k a b = ((a ||| b : Nat) : Int) := by
  have e : (BitVec.ofInt k.bits (a : Int) ||| BitVec.ofInt k.bits (b : Int)).toNat = a ||| b := by
    rw [BitVec.toNat_or, BitVec.ofInt_natCast, BitVec.ofInt_natCast, BitVec.toNat_ofNat, BitVec.toNat_ofNat, Nat.mod_eq_of_lt ha, Nat.mod_eq_of_lt hb]
  simp only [bitsOf, e]
  exact wrapN hk _ (Nat.or_lt_two_pow ha hb)
end Go.Hl
