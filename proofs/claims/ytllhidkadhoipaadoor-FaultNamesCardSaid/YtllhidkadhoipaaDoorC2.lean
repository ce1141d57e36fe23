/- Abstract values and states, and what they mean of a frame and a world. For every program, under no condition. -/
import Derived.Test.YtllhidkadhoipaaDoorB0
import Derived.Maps.AppendAt
namespace Go.Proofs.YtllhidkadhoipaaDoor.Ab
open Go Go.RowKit

inductive D where
  | undef
  | val (τ : Ty) (x : τ.I)
  | raw (v : Value)
  | ptr (id g off : Nat)
  | vec (id g : Nat)
  | eptr (id g i off : Nat)
  | sptr (τ : Ty) (x : τ.I) (off : Nat)
  | mp (id g : Nat)
  | itr (id g : Nat)
  | clo (f : FuncId) (ds : List D)
  | ifc (t : TypeId) (d : D)
  | agg (ds : List D)
  | tup (ds : List D)

inductive Cell where
  | d (x : D)
  | box (g n : Nat)
  | vec (g : Nat) (e : TypeId) (τ : Ty) (xs : List τ.I)
  | sl (g : Nat) (τ : Ty) (xs : List τ.I)
  | sb (g : Nat) (τ : Ty) (x : τ.I)
  | map (g : Nat) (κ τ : Ty) (xs : List (κ.I × τ.I))
  | sm (g : Nat) (κ τ : Ty) (xs : List (κ.I × τ.I))
  | it (g : Nat) (s : List UInt8) (pos : Nat)
  | dead (g : Nat)

inductive Loc where
  | tmp (n : Nat) | cell (id g off : Nat) | obj (id : Nat) | sv (n : Nat)
  deriving DecidableEq

def Loc.beq : Loc → Loc → Bool
  | .tmp a, .tmp b => Nat.beq a b
  | .cell a g b, .cell c k d => Nat.beq a c && Nat.beq g k && Nat.beq b d
  | .obj a, .obj b => Nat.beq a b
  | .sv a, .sv b => Nat.beq a b
  | _, _ => false

theorem Loc.beq_iff {a b : Loc} : a.beq b = true ↔ a = b := by
  cases a <;> cases b <;> simp [Loc.beq, Nat.beq_eq, and_assoc]

theorem Loc.beq_self (a : Loc) : a.beq a = true := Loc.beq_iff.2 rfl
theorem Loc.beq_ne {a b : Loc} (h : a ≠ b) : a.beq b = false := by
  cases hb : a.beq b
  · rfl
  · exact absurd (Loc.beq_iff.1 hb) h

/-- A memory of an abstract run. -/
abbrev Mem := Loc → Option Cell

def Cell.gen : Cell → Nat
  | .d _ => 0
  | .box g _ => g
  | .vec g _ _ _ => g
  | .sl g _ _ => g
  | .sb g _ _ => g
  | .map g _ _ _ => g
  | .sm g _ _ _ => g
  | .it g _ _ => g
  | .dead g => g

def Cell.alike : Cell → Cell → Prop
  | .d _, .d _ => True
  | .box _ n, .box _ m => n = m
  | .box _ _, .sb _ _ _ => True
  | .sb _ _ _, .sb _ _ _ => True
  | .vec _ _ τ xs, .vec _ _ τ' xs' => τ.sz = τ'.sz ∧ xs.length = xs'.length
  | .vec _ _ τ xs, .sl _ τ' xs' => τ.sz = τ'.sz ∧ xs.length = xs'.length
  | .sl _ τ xs, .sl _ τ' xs' => τ.sz = τ'.sz ∧ xs.length = xs'.length
  | .map _ _ _ _, .map _ _ _ _ => True
  | .map _ _ _ _, .sm _ _ _ _ => True
  | .sm _ _ _ _, .sm _ _ _ _ => True
  | .it _ _ _, .it _ _ _ => True
  | _, .dead _ => True
  | _, _ => False

theorem Cell.alike_refl (c : Cell) : c.alike c := by cases c <;> simp [Cell.alike]
theorem Cell.alike_trans {a b c : Cell} (h : a.alike b) (k : b.alike c) : a.alike c := by
  cases a <;> cases b <;> cases c <;> simp_all [Cell.alike]

/-- What the ghosts are: where the boxes lie, which values the own slices are, which blocks are sealed. -/
structure Gh where
  blk : Nat → Nat
  vv : Nat → Value
  S : Nat → Prop

/-- A reference to an object: it is there; and if it is no elder one's, this holds of it. -/
def refOK (L : Mem) (id g : Nat) (φ : Cell → Prop) : Prop := ∃ c, L (.obj id) = some c ∧ g ≤ c.gen ∧ (g = c.gen → φ c)

def isBoxAt (G : Gh) (id off : Nat) (v : Value) : Cell → Prop
  | .box _ _ => v = .pointer (some ⟨G.blk id, off, none⟩)
  | .sb _ _ _ => v = .pointer (some ⟨G.blk id, off, none⟩)
  | _ => True
def isMapAt (G : Gh) (id : Nat) (v : Value) : Cell → Prop
  | .map _ _ _ _ => v = .map (some (G.blk id))
  | .sm _ _ _ _ => v = .map (some (G.blk id))
  | _ => True
def isItAt (G : Gh) (id : Nat) (v : Value) : Cell → Prop
  | .it _ _ _ => v = .pointer (some ⟨G.blk id, 0, none⟩)
  | _ => True
def isVecAt (G : Gh) (id : Nat) (v : Value) : Cell → Prop
  | .vec _ _ _ _ => v = G.vv id
  | .sl _ _ _ => v = G.vv id
  | _ => True
def isElemAt (G : Gh) (id i off : Nat) (v : Value) : Cell → Prop
  | .vec _ _ τ xs => i < xs.length ∧ ∃ b cap, G.vv id = .slice (some ⟨b, 0, none⟩) xs.length cap ∧ v = .pointer (some ⟨b, i * τ.sz + off, none⟩)
  | .sl _ τ xs => i < xs.length ∧ ∃ b cap, G.vv id = .slice (some ⟨b, 0, none⟩) xs.length cap ∧ v = .pointer (some ⟨b, i * τ.sz + off, none⟩)
  | _ => True

inductive All2 {α β : Type} (R : α → β → Prop) : List α → List β → Prop
  | nil : All2 R [] []
  | cons {a b l m} (h : R a b) (k : All2 R l m) : All2 R (a :: l) (b :: m)

theorem All2.mono {α β : Type} {R R' : α → β → Prop} (h : ∀ a b, R a b → R' a b) {l m} (k : All2 R l m) : All2 R' l m := by
  induction k with
  | nil => exact .nil
  | cons r _ ih => exact .cons (h _ _ r) ih

/-- One cell that holds no other ones. -/
def DA (G : Gh) (L : Mem) (w : World) : D → Value → Prop
  | .undef, _ => True
  | .val τ x, v => RepC G.S w τ x [v]
  | .raw u, v => v = u ∧ u.oneCell' = true
  | .ptr id g off, v => v.oneCell' = true ∧ refOK L id g (isBoxAt G id off v)
  | .vec id g, v => v.oneCell' = true ∧ refOK L id g (isVecAt G id v)
  | .eptr id g i off, v => v.oneCell' = true ∧ refOK L id g (isElemAt G id i off v)
  | .sptr τ x off, v => ∃ (a : Addr) (ds : List Value), v = .pointer (some (a.add off)) ∧ RepC G.S w τ x ds ∧ ∀ j u, ds[j]? = some u → G.S a.block ∧ w.cell? (a.add j) = some u
  | .mp id g, v => v.oneCell' = true ∧ refOK L id g (isMapAt G id v)
  | .itr id g, v => v.oneCell' = true ∧ refOK L id g (isItAt G id v)
  | .clo _ _, _ => False
  | .ifc _ _, _ => False
  | .agg _, _ => False
  | .tup _, _ => False

/-- One cell. -/
def DC1 (G : Gh) (L : Mem) (w : World) : D → Value → Prop
  | .clo f ds, v => ∃ vs : List Value, v = .func (.func f) #[] vs.toArray ∧ All2 (DA G L w) ds vs
  | .ifc t d, v => ∃ u, v = .iface t u ∧ DA G L w d u
  | .undef, _ => True
  | .val τ x, v => RepC G.S w τ x [v]
  | .raw u, v => v = u ∧ u.oneCell' = true
  | .ptr id g off, v => v.oneCell' = true ∧ refOK L id g (isBoxAt G id off v)
  | .vec id g, v => v.oneCell' = true ∧ refOK L id g (isVecAt G id v)
  | .eptr id g i off, v => v.oneCell' = true ∧ refOK L id g (isElemAt G id i off v)
  | .sptr τ x off, v => ∃ (a : Addr) (ds : List Value), v = .pointer (some (a.add off)) ∧ RepC G.S w τ x ds ∧ ∀ j u, ds[j]? = some u → G.S a.block ∧ w.cell? (a.add j) = some u
  | .mp id g, v => v.oneCell' = true ∧ refOK L id g (isMapAt G id v)
  | .itr id g, v => v.oneCell' = true ∧ refOK L id g (isItAt G id v)
  | .agg _, _ => False
  | .tup _, _ => False

def DCs (G : Gh) (L : Mem) (w : World) : List D → List Value → Prop
  | [], [] => True
  | d :: ds, v :: vs => DC1 G L w d v ∧ DCs G L w ds vs
  | _, _ => False

def D.isAgg : D → Bool
  | .val τ _ => τ.isAgg
  | .agg _ => true
  | _ => false

/-- The cells of a value. -/
def DC (G : Gh) (L : Mem) (w : World) : D → List Value → Prop
  | .val τ x, cs => RepC G.S w τ x cs
  | .agg ds, cs => DCs G L w ds cs
  | d, cs => ∃ v, cs = [v] ∧ DC1 G L w d v

/-- A value, but for several results. -/
def DW (G : Gh) (L : Mem) (w : World) (d : D) (v : Value) : Prop :=
  match d with
  | .undef => True
  | .tup _ => False
  | d => ∃ cs, DC G L w d cs ∧ wrapV d.isAgg cs v

def DV (G : Gh) (L : Mem) (w : World) (d : D) (v : Value) : Prop :=
  match d with
  | .tup ds => ∃ vs : List Value, v = .tuple vs.toArray ∧ All2 (DW G L w) ds vs
  | d => DW G L w d v

/-- The objects live on, or are elder ones now. -/
def Step (G : Gh) (L : Mem) (G' : Gh) (L' : Mem) : Prop :=
  ∀ id c, L (.obj id) = some c → ∃ c', L' (.obj id) = some c' ∧ c.gen ≤ c'.gen ∧ (c.gen = c'.gen → c.alike c' ∧ G'.blk id = G.blk id ∧ G'.vv id = G.vv id)

theorem Step.refl (G : Gh) (L : Mem) : Step G L G L := fun _ c h => ⟨c, h, Nat.le_refl _, fun _ => ⟨c.alike_refl, rfl, rfl⟩⟩

theorem Step.of_obj {G : Gh} {L L' : Mem} (h : ∀ id, L' (.obj id) = L (.obj id)) : Step G L G L' := fun _ c hc => ⟨c, (h _).trans hc, Nat.le_refl _, fun _ => ⟨c.alike_refl, rfl, rfl⟩⟩

theorem refOK.step {G G' : Gh} {L L' : Mem} (hs : Step G L G' L') {id g : Nat} {φ φ' : Cell → Prop} (h : refOK L id g φ)
    (hφ : ∀ c c', c.alike c' → G'.blk id = G.blk id → G'.vv id = G.vv id → φ c → φ' c') : refOK L' id g φ' := by
  obtain ⟨c, hc, hg, hp⟩ := h
  obtain ⟨c', hc', hgg, hk⟩ := hs id c hc
  refine ⟨c', hc', by omega, fun e => ?_⟩
  have e1 : g = c.gen := by omega
  have e2 : c.gen = c'.gen := by omega
  obtain ⟨ha, hb, hv⟩ := hk e2
  exact hφ c c' ha hb hv (hp e1)

theorem DA.mono {G G' : Gh} {L L' : Mem} {w w' : World} (hs : Step G L G' L') (hk : Keep G.S w G'.S w') {d : D} {v : Value} (h : DA G L w d v) : DA G' L' w' d v := by
  cases d with
  | undef => trivial
  | val τ x => exact RepC.mono hk h
  | raw u => exact h
  | ptr id g off =>
    refine ⟨h.1, refOK.step hs h.2 fun c c' ha hb _ hp => by
    cases c <;> cases c' <;> simp_all [Cell.alike, isBoxAt]⟩
  | mp id g =>
    refine ⟨h.1, refOK.step hs h.2 fun c c' ha hb _ hp => by
    cases c <;> cases c' <;> simp_all [Cell.alike, isMapAt]⟩
  | itr id g =>
    refine ⟨h.1, refOK.step hs h.2 fun c c' ha hb _ hp => by
    cases c <;> cases c' <;> simp_all [Cell.alike, isItAt]⟩
  | vec id g =>
    refine ⟨h.1, refOK.step hs h.2 fun c c' ha _ hv hp => by
    cases c <;> cases c' <;> simp_all [Cell.alike, isVecAt]⟩
  | eptr id g i off =>
    refine ⟨h.1, refOK.step hs h.2 fun c c' ha _ hv hp => by
    cases c <;> cases c' <;> simp_all [Cell.alike, isElemAt]⟩
  | sptr τ x off =>
    obtain ⟨a, ds, e, hr, hc⟩ := h
    exact ⟨a, ds, e, RepC.mono hk hr, fun j u hj => ⟨hk.sub _ (hc j u hj).1, (hk.cell (a := a.add j) (by rw [add_block]; exact (hc j u hj).1)).trans (hc j u hj).2⟩⟩
  | agg ds => exact h
  | tup ds => exact h
  | clo f ds => exact h
  | ifc t d => exact h

theorem DC1.mono {G G' : Gh} {L L' : Mem} {w w' : World} (hs : Step G L G' L') (hk : Keep G.S w G'.S w') {d : D} {v : Value} (h : DC1 G L w d v) : DC1 G' L' w' d v := by
  cases d with
  | clo f ds => obtain ⟨vs, e, h⟩ := h; exact ⟨vs, e, h.mono fun _ _ h => h.mono hs hk⟩
  | ifc t d => obtain ⟨u, e, h⟩ := h; exact ⟨u, e, h.mono hs hk⟩
  | undef => trivial
  | val τ x => exact DA.mono (d := .val τ x) hs hk h
  | raw u => exact DA.mono (d := .raw u) hs hk h
  | ptr id g off => exact DA.mono (d := .ptr id g off) hs hk h
  | mp id g => exact DA.mono (d := .mp id g) hs hk h
  | itr id g => exact DA.mono (d := .itr id g) hs hk h
  | vec id g => exact DA.mono (d := .vec id g) hs hk h
  | eptr id g i off => exact DA.mono (d := .eptr id g i off) hs hk h
  | sptr τ x off => exact DA.mono (d := .sptr τ x off) hs hk h
  | agg ds => exact h
  | tup ds => exact h

theorem DC1.plain {G : Gh} {L : Mem} {w : World} {d : D} {v : Value} (h : DC1 G L w d v) (hd : d ≠ .undef) : v.oneCell' = true := by
  cases d with
  | undef => exact absurd rfl hd
  | val τ x => exact RepC.plain h v (by simp)
  | raw u => obtain ⟨rfl, h⟩ := h; exact h
  | ptr id g off => exact h.1
  | mp id g => exact h.1
  | itr id g => exact h.1
  | vec id g => exact h.1
  | eptr id g i off => exact h.1
  | sptr τ x off => obtain ⟨a, ds, rfl, _⟩ := h; rfl
  | clo f ds => obtain ⟨vs, rfl, _⟩ := h; rfl
  | ifc t d => obtain ⟨u, rfl, _⟩ := h; rfl
  | agg ds => exact h.elim
  | tup ds => exact h.elim

theorem DCs.mono {G G' : Gh} {L L' : Mem} {w w' : World} (hs : Step G L G' L') (hk : Keep G.S w G'.S w') : ∀ {ds : List D} {vs}, DCs G L w ds vs → DCs G' L' w' ds vs
  | [], [], h => h
  | _ :: _, _ :: _, h => ⟨h.1.mono hs hk, DCs.mono hs hk h.2⟩
  | [], _ :: _, h => h.elim
  | _ :: _, [], h => h.elim

theorem DC.mono {G G' : Gh} {L L' : Mem} {w w' : World} (hs : Step G L G' L') (hk : Keep G.S w G'.S w') {d : D} {cs} (h : DC G L w d cs) : DC G' L' w' d cs := by
  cases d with
  | val τ x => exact RepC.mono hk h
  | agg ds => exact DCs.mono hs hk h
  | _ => exact ⟨_, h.choose_spec.1, DC1.mono hs hk h.choose_spec.2⟩

theorem DW.mono {G G' : Gh} {L L' : Mem} {w w' : World} (hs : Step G L G' L') (hk : Keep G.S w G'.S w') {d : D} {v} (h : DW G L w d v) : DW G' L' w' d v := by
  cases d with
  | undef => trivial
  | tup ds => exact h
  | _ => obtain ⟨cs, h1, h2⟩ := h; exact ⟨cs, h1.mono hs hk, h2⟩

theorem DV.mono {G G' : Gh} {L L' : Mem} {w w' : World} (hs : Step G L G' L') (hk : Keep G.S w G'.S w') {d : D} {v} (h : DV G L w d v) : DV G' L' w' d v := by
  cases d with
  | tup ds =>
    obtain ⟨vs, e, h⟩ := h
    exact ⟨vs, e, h.mono fun _ _ h => h.mono hs hk⟩
  | _ => simp only [DV] at h ⊢; exact DW.mono hs hk h

/-- The block that a live object owns. -/
def ownC (G : Gh) (id : Nat) : Cell → Option Nat
  | .box _ _ => some (G.blk id)
  | .map _ _ _ _ => some (G.blk id)
  | .it _ _ _ => some (G.blk id)
  | .vec _ _ _ _ => (G.vv id).ownBlock
  | _ => none
def ownB (G : Gh) (L : Mem) (id : Nat) : Option Nat :=
  match L (.obj id) with
  | some c => ownC G id c
  | none => none

theorem ownB_some {G : Gh} {L : Mem} {id : Nat} {c : Cell} (h : L (.obj id) = some c) : ownB G L id = ownC G id c := by unfold ownB; rw [h]

/-- What an object is in the world's memory. -/
def ObjOK (G : Gh) (w : World) (id : Nat) : Cell → Prop
  | .box _ n => ∃ cs e, w.heap[G.blk id]? = some (.cells cs e (0, 0)) ∧ cs.size = n
  | .vec _ e τ xs => ∃ cs, w.ownsRow 0 e τ.sz (G.vv id) xs.length cs ∧ RepL (RepC G.S w τ) xs cs
  | .sl _ τ xs => SlRep G.S w (RepC G.S w τ) xs (G.vv id)
  | .sb _ τ x => RefRep G.S w (RepC G.S w τ) (some x) (.pointer (some ⟨G.blk id, 0, none⟩))
  | .map _ κ τ xs => ∃ es clock, w.heap[G.blk id]? = some (.map es clock) ∧ EntRep κ.isAgg τ.isAgg (RepC G.S w κ) (RepC G.S w τ) xs es.toList
  | .sm _ κ τ xs => MapRep G.S w κ.isAgg τ.isAgg (RepC G.S w κ) (RepC G.S w τ) xs (.map (some (G.blk id)))
  | .it _ s pos => w.heap[G.blk id]? = some (.stringIter ⟨s.toArray⟩ pos)
  | _ => True

theorem ownsRow_same {w w' : World} {base : Nat} {e : TypeId} {size : Nat} {v : Value} {n : Nat} {xs : List Value} (h : w.ownsRow base e size v n xs) (hb : ∀ b, v.ownBlock = some b → w'.heap[b]? = w.heap[b]?) : w'.ownsRow base e size v n xs := by
  refine ⟨h.1, ?_⟩
  rcases h.2 with hn | ⟨g, cap, cur, rfl, hbs, hgg, rest⟩
  · exact .inl hn
  · exact .inr ⟨g, cap, cur, rfl, hbs, (hb g rfl).trans hgg, rest⟩

/-- An object whose block is as it was is what it was. -/
theorem ObjOK.kept {G G' : Gh} {w w' : World} {id : Nat} {c : Cell} (h : ObjOK G w id c) (hk : Keep G.S w G'.S w') (hb : G'.blk id = G.blk id) (hv : G'.vv id = G.vv id) (ho : ∀ b, ownC G id c = some b → w'.heap[b]? = w.heap[b]?) : ObjOK G' w' id c := by
  cases c with
  | d x => trivial
  | dead g => trivial
  | box g n => obtain ⟨cs, e, h, hz⟩ := h; exact ⟨cs, e, by rw [hb]; exact (ho _ rfl).trans h, hz⟩
  | vec g e τ xs => obtain ⟨cs, h1, h2⟩ := h; exact ⟨cs, by rw [hv]; exact ownsRow_same h1 ho, h2.mono fun _ _ h => RepC.mono hk h⟩
  | sl g τ xs => simp only [ObjOK]; rw [hv]; exact SlRep.mono hk (fun _ _ h => RepC.mono hk h) h
  | sb g τ x => simp only [ObjOK]; rw [hb]; exact RefRep.mono hk (fun _ _ h => RepC.mono hk h) h
  | map g κ τ xs => obtain ⟨es, cl, h1, h2⟩ := h; exact ⟨es, cl, by rw [hb]; exact (ho _ rfl).trans h1, h2.mono (fun _ _ h => RepC.mono hk h) fun _ _ h => RepC.mono hk h⟩
  | sm g κ τ xs => simp only [ObjOK]; rw [hb]; exact MapRep.mono hk (fun _ _ h => RepC.mono hk h) (fun _ _ h => RepC.mono hk h) h
  | it g s pos => simp only [ObjOK]; rw [hb]; exact (ho _ rfl).trans h

theorem ObjOK.own_lt {G : Gh} {w : World} {id : Nat} {c : Cell} (h : ObjOK G w id c) {b : Nat} (hb : ownC G id c = some b) : b < w.heap.size := by
  cases c with
  | d x => cases hb
  | dead g => cases hb
  | sl g τ xs => cases hb
  | sb g τ x => cases hb
  | sm g κ τ x => cases hb
  | box g n => obtain ⟨cs, e, h, _⟩ := h; cases hb; exact (Array.getElem?_eq_some_iff.1 h).1
  | vec g e τ xs => obtain ⟨cs, h1, _⟩ := h; exact (h1.lt b hb).2
  | map g κ τ xs => obtain ⟨es, cl, h1, _⟩ := h; cases hb; exact (Array.getElem?_eq_some_iff.1 h1).1
  | it g s pos => cases hb; exact (Array.getElem?_eq_some_iff.1 h).1

/-- What was there when the call began, but for what it may write to, is as it was. -/
structure Under (base : Nat) (X : Nat → Prop) (w w' : World) : Prop where
  os : w'.os = w.os
  tape : w'.tape = w.tape
  output : w'.output = w.output
  size : w.heap.size ≤ w'.heap.size
  block : ∀ k, k < base → ¬ X k → w'.heap[k]? = w.heap[k]?

theorem Under.refl (base : Nat) (X : Nat → Prop) (w : World) : Under base X w w := ⟨rfl, rfl, rfl, Nat.le_refl _, fun _ _ _ => rfl⟩
theorem Under.trans {base : Nat} {X : Nat → Prop} {a b c : World} (h : Under base X a b) (k : Under base X b c) : Under base X a c :=
  ⟨k.os.trans h.os, k.tape.trans h.tape, k.output.trans h.output, Nat.le_trans h.size k.size, fun i hi hx => (k.block i hi hx).trans (h.block i hi hx)⟩
theorem Under.grown {base : Nat} {X : Nat → Prop} {a w w' : World} {row : Option Nat} (h : Under base X a w) (hb : base ≤ w.heap.size) (hg : w.grownBy w' row) (hr : ∀ k, row = some k → base ≤ k ∨ X k) : Under base X a w' :=
  h.trans ⟨hg.os, hg.tape, hg.output, hg.size, fun k hk hx => hg.block k (by omega) fun e => by rcases hr k e.symm with h | h; omega; exact hx h⟩

/-- What does not change while a function runs: its slots' number, where its own blocks begin, which elder blocks it may write to, which are sealed, the world in which it was called. -/
structure Env where
  N : Nat
  base : Nat
  X : Nat → Prop
  S0 : Nat → Prop
  w0 : World
  /-- The slots of those who wait for this call. -/
  sv : Nat → Value
  bs : Base S0 w0
  x0 : ∀ b, S0 b → b < base ∧ ¬ X b

/-- The memory's part of the relation. -/
structure AbsH (E : Env) (G : Gh) (L : Mem) (w : World) : Prop where
  cell : ∀ id off d g n, L (.cell id g off) = some (.d d) → L (.obj id) = some (.box g n) → ∃ v, w.cell? ⟨G.blk id, off, none⟩ = some v ∧ DC1 G L w d v
  obj : ∀ id c, L (.obj id) = some c → ObjOK G w id c
  cgen : ∀ id g off c, L (.cell id g off) = some c → ∃ o, L (.obj id) = some o ∧ g ≤ o.gen
  own : ∀ id b, ownB G L id = some b → (E.base ≤ b ∨ E.X b) ∧ ¬ G.S b
  apart : ∀ i j b, i ≠ j → ownB G L i = some b → ownB G L j ≠ some b
  sealed : ∀ b, G.S b → b < w.heap.size
  old : ∀ b, b < E.base → (E.S0 b → G.S b) ∧ (G.S b → E.S0 b ∨ E.X b)
  under : Under E.base E.X E.w0 w
  start : E.base = E.w0.heap.size

structure Abs (E : Env) (G : Gh) (L : Mem) (a : Act) (w : World) : Prop where
  heap : AbsH E G L w
  defers : a.defers = []
  size : a.tmps.size = E.N
  tmp : ∀ n d, L (.tmp n) = some (.d d) → n < E.N ∧ DV G L w d (a.tmps.getD n undef)
  sv : ∀ n d, L (.sv n) = some (.d d) → DV G L w d (E.sv n)

theorem AbsH.base_le {E : Env} {G : Gh} {L : Mem} {w : World} (h : AbsH E G L w) : E.base ≤ w.heap.size := by have := h.under.size; rw [← h.start] at this; exact this

theorem AbsH.bs {E : Env} {G : Gh} {L : Mem} {w : World} (h : AbsH E G L w) : Base G.S w :=
  E.bs.mono ⟨fun b hb => (h.old b (E.x0 b hb).1).1 hb, fun b hb => h.under.block b (E.x0 b hb).1 (E.x0 b hb).2⟩

/-- A block that the world has. -/
theorem heap_lt {w : World} {b : Nat} {o : Obj} (h : w.heap[b]? = some o) : b < w.heap.size := (Array.getElem?_eq_some_iff.1 h).1

theorem AbsH.box {E : Env} {G : Gh} {L : Mem} {w : World} (h : AbsH E G L w) (id g n : Nat) (ho : L (.obj id) = some (.box g n)) : ∃ cs e, w.heap[G.blk id]? = some (.cells cs e (0, 0)) ∧ cs.size = n := h.obj id _ ho
theorem AbsH.vec {E : Env} {G : Gh} {L : Mem} {w : World} (h : AbsH E G L w) (id g : Nat) (e : TypeId) (τ : Ty) (xs : List τ.I) (ho : L (.obj id) = some (.vec g e τ xs)) :
    ∃ cs, w.ownsRow 0 e τ.sz (G.vv id) xs.length cs ∧ RepL (RepC G.S w τ) xs cs := h.obj id _ ho
theorem AbsH.sl {E : Env} {G : Gh} {L : Mem} {w : World} (h : AbsH E G L w) (id g : Nat) (τ : Ty) (xs : List τ.I) (ho : L (.obj id) = some (.sl g τ xs)) : SlRep G.S w (RepC G.S w τ) xs (G.vv id) := h.obj id _ ho

theorem AbsH.own_lt {E : Env} {G : Gh} {L : Mem} {w : World} (h : AbsH E G L w) {id b : Nat} (hb : ownB G L id = some b) : b < w.heap.size := by
  unfold ownB at hb
  split at hb
  · rename_i c hc; exact (h.obj id c hc).own_lt hb
  · cases hb

theorem ownB_congr {G G' : Gh} {L L' : Mem} {id : Nat} (h : L' (.obj id) = L (.obj id)) (hb : G'.blk id = G.blk id) (hv : G'.vv id = G.vv id) : ownB G' L' id = ownB G L id := by
  unfold ownB; rw [h]
  cases L (.obj id) with
  | none => rfl
  | some c => cases c <;> simp [ownC, hb, hv]

/-- An operation that changes no object, and writes to no block that is owned or sealed. -/
theorem AbsH.grown {E : Env} {G : Gh} {L : Mem} {w w' : World} (h : AbsH E G L w) {row : Option Nat} (hg : w.grownBy w' row)
    (hr : ∀ k, row = some k → (E.base ≤ k ∨ E.X k) ∧ ¬ G.S k ∧ ∀ id, ownB G L id ≠ some k) : AbsH E G L w' ∧ Keep G.S w G.S w' := by
  have hk : Keep G.S w G.S w' := ⟨fun _ h => h, fun b hb => hg.block b (h.sealed b hb) fun e => (hr b e.symm).2.1 hb⟩
  have hob : ∀ id b, ownB G L id = some b → w'.heap[b]? = w.heap[b]? := fun id b hb => hg.block b (h.own_lt hb) fun e => (hr b e.symm).2.2 id hb
  refine ⟨⟨?_, ?_, h.cgen, h.own, h.apart, fun b hb => Nat.lt_of_lt_of_le (h.sealed b hb) hg.size, h.old, h.under.grown h.base_le hg fun k hk => (hr k hk).1, h.start⟩, hk⟩
  · intro id off d g n hc ho
    obtain ⟨v, hv, hd⟩ := h.cell id off d g n hc ho
    exact ⟨v, (World.cell?_of_block (w := w) (hob id _ (by simp [ownB, ho, ownC]))).trans hv, hd.mono (Step.refl _ _) hk⟩
  · intro id c ho
    exact (h.obj id c ho).kept hk rfl rfl fun b hb => hob id b (by rw [ownB_some ho]; exact hb)

theorem Abs.grown {E : Env} {G : Gh} {L : Mem} {a : Act} {w w' : World} (h : Abs E G L a w) {row : Option Nat} (hg : w.grownBy w' row)
    (hr : ∀ k, row = some k → (E.base ≤ k ∨ E.X k) ∧ ¬ G.S k ∧ ∀ id, ownB G L id ≠ some k) : Abs E G L a w' := by
  obtain ⟨h1, hk⟩ := h.heap.grown hg hr
  exact ⟨h1, h.defers, h.size, fun n d hn => ⟨(h.tmp n d hn).1, (h.tmp n d hn).2.mono (Step.refl _ _) hk⟩, fun n d hn => (h.sv n d hn).mono (Step.refl _ _) hk⟩

theorem grownBy_drew (w : World) : w.grownBy w.drew none := ⟨rfl, rfl, rfl, Nat.le_refl _, fun _ _ _ => rfl⟩

theorem Abs.drew {E : Env} {G : Gh} {L : Mem} {a : Act} {w : World} (h : Abs E G L a w) : Abs E G L a w.drew := h.grown (grownBy_drew w) (by simp)

/-- A memory that tells less. -/
theorem Abs.weaken {E : Env} {G : Gh} {L L' : Mem} {a : Act} {w : World} (h : Abs E G L a w) (ho : ∀ id, L' (.obj id) = L (.obj id))
    (ht : ∀ n d, L' (.tmp n) = some (.d d) → L (.tmp n) = some (.d d)) (hs' : ∀ n d, L' (.sv n) = some (.d d) → L (.sv n) = some (.d d)) (hc : ∀ id g off c, L' (.cell id g off) = some c → L (.cell id g off) = some c) : Abs E G L' a w := by
  have hs : Step G L G L' := Step.of_obj ho
  have hk := Keep.refl G.S w
  have hob : ∀ id, ownB G L' id = ownB G L id := fun id => ownB_congr (ho id) rfl rfl
  refine ⟨⟨?_, fun id c h1 => h.heap.obj id c (by rw [← ho]; exact h1), fun id g off c h1 => by rw [ho]; exact h.heap.cgen id g off c (hc _ _ _ _ h1), ?_, ?_, h.heap.sealed, h.heap.old, h.heap.under, h.heap.start⟩, h.defers, h.size, ?_, fun n d hn => (h.sv n d (hs' _ _ hn)).mono hs hk⟩
  · intro id off d g n h1 h2
    obtain ⟨v, hv, hd⟩ := h.heap.cell id off d g n (hc _ _ _ _ h1) (by rw [← ho]; exact h2)
    exact ⟨v, hv, hd.mono hs hk⟩
  · intro id b hb; exact h.heap.own id b (by rw [← hob]; exact hb)
  · intro i j b hij h1; rw [hob] at h1 ⊢; exact h.heap.apart i j b hij h1
  · intro n d hn
    exact ⟨(h.tmp n d (ht _ _ hn)).1, (h.tmp n d (ht _ _ hn)).2.mono hs hk⟩

/-- What is told of cells and slots may be another thing that is true. -/
theorem Abs.put {E : Env} {G : Gh} {L : Mem} {a : Act} {w : World} (h : Abs E G L a w) {n : Nat} (hn : n < E.N) {d : D} {v : Value} (hd : DV G L w d v) :
    Abs E G (fun l => if l = .tmp n then some (.d d) else L l) (a.put (some n) v) w := by
  have ho : ∀ id, (fun l => if l = Loc.tmp n then some (.d d) else L l) (.obj id) = L (.obj id) := fun id => by simp
  have hs : Step G L G (fun l => if l = .tmp n then some (.d d) else L l) := Step.of_obj ho
  have hk := Keep.refl G.S w
  have hob : ∀ id, ownB G (fun l => if l = .tmp n then some (.d d) else L l) id = ownB G L id := fun id => ownB_congr (ho id) rfl rfl
  refine ⟨⟨?_, fun id c h1 => h.heap.obj id c (by simpa using h1), fun id g off c h1 => by simpa using h.heap.cgen id g off c (by simpa using h1), ?_, ?_, h.heap.sealed, h.heap.old, h.heap.under, h.heap.start⟩, h.defers, by simp [Act.put, h.size], ?_, fun m d' hm => (h.sv m d' (by simpa using hm)).mono hs hk⟩
  · intro id off d' g n h1 h2
    obtain ⟨v, hv, hd⟩ := h.heap.cell id off d' g n (by simpa using h1) (by simpa using h2)
    exact ⟨v, hv, hd.mono hs hk⟩
  · intro id b hb; exact h.heap.own id b (by rw [← hob]; exact hb)
  · intro i j b hij h1; rw [hob] at h1 ⊢; exact h.heap.apart i j b hij h1
  · intro m d' hm
    by_cases e : m = n
    · subst e
      simp at hm
      subst hm
      refine ⟨hn, ?_⟩
      have : (a.put (some m) v).tmps.getD m undef = v := by simp [Act.put, h.size, hn]
      rw [this]
      exact hd.mono hs hk
    · simp [e] at hm
      refine ⟨(h.tmp m d' hm).1, ?_⟩
      have : (a.put (some n) v).tmps.getD m undef = a.tmps.getD m undef := by simp [Act.put, Array.getElem?_setIfInBounds_ne (Ne.symm e)]
      rw [this]
      exact (h.tmp m d' hm).2.mono hs hk

end Go.Proofs.YtllhidkadhoipaaDoor.Ab
