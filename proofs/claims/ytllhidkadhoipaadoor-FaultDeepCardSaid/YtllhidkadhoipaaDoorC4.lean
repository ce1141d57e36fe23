/- Each operation of the model does what its abstract one does: the parts. For every program whose types are as told. -/
import Derived.Test.YtllhidkadhoipaaDoorC3
namespace Go.Proofs.YtllhidkadhoipaaDoor.Ab
open Go Go.RowKit

/-- A call that enters the function's body. -/
def Enters (P : Program) (f : FuncId) : Prop := ∀ (args : Array Value) (w : World), (callFunc f args).run P w = .ok (.enter f args) w

/-- A function that copies a slice. -/
def CloneOK (P : Program) (f : FuncId) (e : TypeId) (τ : Ty) (c : Nat) : Prop := Enters P f ∧
  ∀ (S : Nat → Prop) (w : World) (v : Value) (xs : List τ.I), Base S w → (∀ b, S b → b < w.heap.size) → SlRep S w (RepC S w τ) xs v → xs.length * c ≤ maxRoom → xs.length ≤ maxRoom →
    Calls P f #[v] w fun out w' => ∃ v' cs S', out = .returned v' ∧ w'.ownsRow 0 e τ.sz v' xs.length cs ∧ RepL (RepC S' w' τ) xs cs ∧ (∀ b, v'.ownBlock = some b → w.heap.size ≤ b ∧ ¬ S' b) ∧
      Under w.heap.size (fun _ => False) w w' ∧ (∀ b, S b → S' b) ∧ (∀ b, S' b → b < w'.heap.size ∧ (b < w.heap.size → S b))

/-- A function that cuts a piece out of a slice, where it lies. -/
def DeleteOK (P : Program) (f : FuncId) (e : TypeId) (τ : Ty) : Prop := Enters P f ∧
  ∀ (S : Nat → Prop) (w : World) (v : Value) (xs : List τ.I) (cs : List Value) (i j : Int), (∀ b, S b → b < w.heap.size) → w.ownsRow 0 e τ.sz v xs.length cs → RepL (RepC S w τ) xs cs → (∀ b, v.ownBlock = some b → ¬ S b) →
    0 ≤ i → i ≤ j → j ≤ (xs.length : Int) →
    Calls P f #[v, .int .i64 i, .int .i64 j] w fun out w' => ∃ v' cs', out = .returned v' ∧ w'.ownsRow 0 e τ.sz v' (xs.take i.toNat ++ xs.drop j.toNat).length cs' ∧ RepL (RepC S w' τ) (xs.take i.toNat ++ xs.drop j.toNat) cs' ∧
      w.grownBy w' v.ownBlock ∧ v'.ownBlock = v.ownBlock

/-- Values of this type may be a map's keys. -/
def KeyOK (P : Program) (t : TypeId) (κ : Ty) : Prop :=
  ∀ (S : Nat → Prop) (w : World) (x : κ.I) (cs : List Value) (k : Value), RepC S w κ x cs → wrapV κ.isAgg cs k →
    (∀ em, (Instr.checkKey em 10000 t k).run P w = .ok () w) ∧
    ∀ (y : κ.I) (ds : List Value) (k' : Value), RepC S w κ y ds → wrapV κ.isAgg ds k' →
      (Op.equal t k k').run P w = .ok (κ.beq x y) w ∧ (κ.beq x y = true → Instr.sameBits 10000 k' k = true) ∧
      ∀ d b, P.underlying t = some d → Instr.sameNow d k k' = some b → b = κ.beq x y

/-- The layout tells of the program's types what is so. -/
structure LayOK (P : Program) (lay : Lay) : Prop where
  und : ∀ t i, lay t = some i → P.underlying t = some i.desc
  inf : ∀ t i, lay t = some i → (P.info? t).map (fun x => (x.zero, x.size, x.bytes)) = some (some i.zero, i.sz, i.bytes)
  zsz : ∀ t i, lay t = some i → i.zero.cells.size = i.sz
  zok : ∀ t i, lay t = some i → wrapV (isAggD i.desc) i.zero.cells.toList i.zero
  z1 : ∀ t i, lay t = some i → ∀ u ∈ i.zero.cells.toList, u.oneCell' = true
  tys : ∀ t i τ, lay t = some i → i.ty = some τ → τ.sz = i.sz ∧ τ.isAgg = isAggD i.desc
  cln : ∀ f e τ c, lay.sp f = .clone e τ c → CloneOK P f e τ c
  del : ∀ f e τ, lay.sp f = .delete e τ → DeleteOK P f e τ
  eqs : ∀ t i τ, lay t = some i → i.ty = some τ → i.cmp = true → ∀ (S : Nat → Prop) (w : World) (x y : τ.I) (cs ds : List Value), RepC S w τ x cs → RepC S w τ y ds →
    (Op.equal t (.agg cs.toArray) (.agg ds.toArray)).run P w = .ok (τ.beq x y) w ∧ P.eqGuardType P.depth t = false
  keys : ∀ t i τ, lay t = some i → i.ty = some τ → i.key = true → KeyOK P t τ

theorem wrapV.cells {b : Bool} {cs : List Value} {v : Value} (h : wrapV b cs v) : v.cells.toList = cs := by
  unfold wrapV at h
  cases b
  · simp only [Bool.false_eq_true, if_false] at h
    obtain ⟨rfl, h⟩ := h
    cases v <;> simp_all [Value.cells, Value.oneCell']
  · simp only [if_true] at h
    subst h
    simp [Value.cells]

theorem DCs.length {G : Gh} {L : Mem} {w : World} : ∀ {ds : List D} {vs}, DCs G L w ds vs → vs.length = ds.length
  | [], [], _ => rfl
  | _ :: _, _ :: _, h => by simp [DCs.length h.2]
  | [], _ :: _, h => h.elim
  | _ :: _, [], h => h.elim

theorem DCs.append {G : Gh} {L : Mem} {w : World} : ∀ {ds es : List D} {vs us}, DCs G L w ds vs → DCs G L w es us → DCs G L w (ds ++ es) (vs ++ us)
  | [], _, [], _, _, k => k
  | _ :: _, _, _ :: _, _, h, k => ⟨h.1, DCs.append h.2 k⟩
  | [], _, _ :: _, _, h, _ => h.elim
  | _ :: _, _, [], _, h, _ => h.elim

theorem DCs.take {G : Gh} {L : Mem} {w : World} : ∀ (n : Nat) {ds : List D} {vs}, DCs G L w ds vs → DCs G L w (ds.take n) (vs.take n)
  | 0, _, _, _ => by simp [DCs]
  | n + 1, [], [], _ => by simp [DCs]
  | n + 1, _ :: _, _ :: _, h => ⟨h.1, DCs.take n h.2⟩
  | _ + 1, [], _ :: _, h => h.elim
  | _ + 1, _ :: _, [], h => h.elim

theorem DCs.drop {G : Gh} {L : Mem} {w : World} : ∀ (n : Nat) {ds : List D} {vs}, DCs G L w ds vs → DCs G L w (ds.drop n) (vs.drop n)
  | 0, _, _, h => h
  | n + 1, [], [], _ => by simp [DCs]
  | n + 1, _ :: _, _ :: _, h => DCs.drop n h.2
  | _ + 1, [], _ :: _, h => h.elim
  | _ + 1, _ :: _, [], h => h.elim

theorem DCs.get {G : Gh} {L : Mem} {w : World} : ∀ {ds : List D} {vs} (i : Nat) {d : D}, DCs G L w ds vs → ds[i]? = some d → ∃ v, vs[i]? = some v ∧ DC1 G L w d v
  | [], [], _, _, _, hi => by simp at hi
  | _ :: _, v :: _, 0, _, h, hi => by simp at hi; subst hi; exact ⟨v, rfl, h.1⟩
  | _ :: _, _ :: _, i + 1, _, h, hi => by simp at hi; exact DCs.get i h.2 hi
  | [], _ :: _, _, _, h, _ => h.elim
  | _ :: _, [], _, _, h, _ => h.elim

theorem DC1_val1 {G : Gh} {L : Mem} {w : World} {τ : Ty} {x : τ.I} {v : Value} (h : RepC G.S w τ x [v]) : DC1 G L w (.val τ x) v := h

/-- Data, cell by cell. -/
theorem expand_ok {G : Gh} {L : Mem} {w : World} : ∀ {τ : Ty} {x : τ.I} {cs}, RepC G.S w τ x cs → DCs G L w (expand τ x) cs
  | .bool, x, _, h => by cases h; exact ⟨rfl, trivial⟩
  | .int k, x, _, h => by cases h; exact ⟨rfl, trivial⟩
  | .str, x, _, h => by cases h; exact ⟨rfl, trivial⟩
  | .slice e, x, _, h => by obtain ⟨v, rfl, h⟩ := h; exact ⟨⟨v, rfl, h⟩, trivial⟩
  | .ref e, x, _, h => by obtain ⟨v, rfl, h⟩ := h; exact ⟨⟨v, rfl, h⟩, trivial⟩
  | .map k e, x, _, h => by obtain ⟨v, rfl, h⟩ := h; exact ⟨⟨v, rfl, h⟩, trivial⟩
  | .err, x, _, h => by obtain ⟨v, rfl, h⟩ := h; exact ⟨⟨v, rfl, h⟩, trivial⟩
  | .unit, _, _, h => by cases h; trivial
  | .pair a b, x, _, h => by obtain ⟨c, d, rfl, h1, h2⟩ := h; exact DCs.append (expand_ok h1) (expand_ok h2)
  | .arr n e, xs, cs, h => by
    obtain ⟨hl, h⟩ := h
    have hx : expand (.arr n e) xs = xs.flatMap (expand e) := by
      have hm : (List.range n).map (fun i => xs.getD i e.dflt) = xs := by
        apply List.ext_getElem?
        intro i
        rw [List.getElem?_map]
        by_cases hi : i < n
        · rw [List.getElem?_range hi]
          have : i < xs.length := by omega
          simp [List.getD, List.getElem?_eq_getElem this]
        · rw [List.getElem?_eq_none (by simpa using hi), List.getElem?_eq_none (by omega)]
          rfl
      show (List.range n).flatMap (fun i => expand e (xs.getD i e.dflt)) = _
      conv => rhs; rw [← hm]
      rw [List.flatMap_map]
    rw [hx]
    have : ∀ (xs : List e.I) cs, RepL (RepC G.S w e) xs cs → DCs G L w (xs.flatMap (expand e)) cs := by
      intro xs
      induction xs with
      | nil => intro cs h; cases h; trivial
      | cons x xs ih => intro cs h; obtain ⟨c, d, rfl, h1, h2⟩ := h; rw [List.flatMap_cons]; exact DCs.append (expand_ok h1) (ih _ h2)
    exact this xs cs h
  | .value, v, _, h => by
    obtain ⟨v1, v2, rfl, h1, h2⟩ := RepV.open h
    exact ⟨rfl, rfl, rfl, rfl, ⟨v1, rfl, h1⟩, ⟨v2, rfl, h2⟩, trivial⟩

theorem D.cells_ok {G : Gh} {L : Mem} {w : World} {d : D} {cs} (h : DC G L w d cs) : DCs G L w d.cells cs := by
  cases d with
  | val τ x => exact expand_ok h
  | agg ds => exact h
  | _ => obtain ⟨v, rfl, h⟩ := h; exact ⟨h, trivial⟩

theorem castTy_ok {S : Nat → Prop} {w : World} {a b : Ty} (h : a = b) {x : a.I} {cs} (hr : RepC S w a x cs) : RepC S w b (castTy h x) cs := by subst h; exact hr

theorem isNilSlice_iff {v : Value} (h : isNilSlice v = true) : v = .slice none 0 0 := by
  unfold isNilSlice at h
  split at h
  · rfl
  · cases h

theorem isNilPtr_iff {v : Value} (h : isNilPtr v = true) : v = .pointer none := by
  unfold isNilPtr at h
  split at h
  · rfl
  · cases h
theorem isNilMap_iff {v : Value} (h : isNilMap v = true) : v = .map none := by
  unfold isNilMap at h
  split at h
  · rfl
  · cases h

theorem isNilIfc_iff {v : Value} (h : isNilIfc v = true) : v = .nilIface := by
  unfold isNilIfc at h
  split at h
  · rfl
  · cases h

theorem add_zero (a : Addr) : a.add 0 = a := by simp [Addr.add]

theorem as1_ok {G : Gh} {L : Mem} {w : World} {τ : Ty} {d : D} {x : τ.I} {v : Value} (h : as1 τ d = some x) (hd : DC1 G L w d v) : RepC G.S w τ x [v] := by
  unfold as1 at h
  split at h
  · rename_i τ' y
    split at h
    · rename_i e
      cases h
      exact castTy_ok e hd
    · cases h
  · rename_i u
    split at h
    · rename_i e
      cases hn : isNilSlice u with
      | false => rw [hn] at h; cases h
      | true =>
        rw [hn] at h
        obtain ⟨rfl, _⟩ := hd
        cases h
        exact ⟨_, rfl, .inl ⟨isNilSlice_iff hn, rfl⟩⟩
    · rename_i e
      cases hn : isNilPtr u with
      | false => rw [hn] at h; cases h
      | true =>
        rw [hn] at h
        obtain ⟨rfl, _⟩ := hd
        cases h
        exact ⟨_, rfl, .inl ⟨isNilPtr_iff hn, rfl⟩⟩
    · rename_i k e
      cases hn : isNilMap u with
      | false => rw [hn] at h; cases h
      | true =>
        rw [hn] at h
        obtain ⟨rfl, _⟩ := hd
        cases h
        exact ⟨_, rfl, .inl ⟨isNilMap_iff hn, rfl⟩⟩
    · rename_i e
      cases hn : isNilIfc u with
      | false => rw [hn] at h; cases h
      | true =>
        rw [hn] at h
        obtain ⟨rfl, _⟩ := hd
        cases h
        exact ⟨_, rfl, isNilIfc_iff hn⟩
    · cases h
  · rename_i τ' y off
    split at h
    · rename_i e
      split at h
      · rename_i he
        subst he
        cases hn : Nat.beq off 0 with
        | false => rw [hn] at h; cases h
        | true =>
          rw [hn] at h
          cases h
          have := Nat.eq_of_beq_eq_true hn
          subst this
          obtain ⟨a, ds, rfl, h1, h2⟩ := hd
          rw [add_zero]
          exact ⟨_, rfl, .inr ⟨a, ds, y, rfl, rfl, h1, h2⟩⟩
      · cases h
    · cases h
  · cases h

theorem asm1_ok {G : Gh} {L : Mem} {w : World} {τ : Ty} {ds r : List D} {x : τ.I} {cs} (h : asm1 τ ds = some (x, r)) (hd : DCs G L w ds cs) :
    ∃ c1 c2, cs = c1 ++ c2 ∧ RepC G.S w τ x c1 ∧ DCs G L w r c2 := by
  cases ds with
  | nil => cases h
  | cons d ds =>
    cases cs with
    | nil => exact hd.elim
    | cons v vs =>
      cases hy : as1 τ d with
      | none => simp [asm1, hy] at h
      | some y =>
        simp only [asm1, hy, Option.some.injEq, Prod.mk.injEq] at h
        obtain ⟨rfl, rfl⟩ := h
        exact ⟨[v], vs, rfl, as1_ok hy hd.1, hd.2⟩

theorem asm_ok {G : Gh} {L : Mem} {w : World} : ∀ {τ : Ty} {ds r : List D} {x : τ.I} {cs}, asm τ ds = some (x, r) → DCs G L w ds cs → ∃ c1 c2, cs = c1 ++ c2 ∧ RepC G.S w τ x c1 ∧ DCs G L w r c2
  | .bool, _, _, _, _, h, hd => asm1_ok h hd
  | .int _, _, _, _, _, h, hd => asm1_ok h hd
  | .str, _, _, _, _, h, hd => asm1_ok h hd
  | .slice _, _, _, _, _, h, hd => asm1_ok h hd
  | .ref _, _, _, _, _, h, hd => asm1_ok h hd
  | .map _ _, _, _, _, _, h, hd => asm1_ok h hd
  | .err, _, _, _, _, h, hd => asm1_ok h hd
  | .unit, _, _, _, _, h, hd => by cases h; exact ⟨[], _, rfl, rfl, hd⟩
  | .pair a b, ds, r, x, cs, h, hd => by
    simp only [asm] at h
    split at h
    · rename_i y r1 h1
      split at h
      · rename_i z r2 h2
        cases h
        obtain ⟨c1, c2, rfl, k1, k2⟩ := asm_ok h1 hd
        obtain ⟨c3, c4, rfl, k3, k4⟩ := asm_ok h2 k2
        exact ⟨c1 ++ c3, c4, by simp, ⟨c1, c3, rfl, k1, k3⟩, k4⟩
      · cases h
    · cases h
  | .arr n e, ds, r, x, cs, h, hd => by
    have key : ∀ (n : Nat) (ds r : List D) (xs : List e.I) cs, asmN (asm e) n ds = some (xs, r) → DCs G L w ds cs →
        ∃ c1 c2, cs = c1 ++ c2 ∧ (xs.length = n ∧ RepL (RepC G.S w e) xs c1) ∧ DCs G L w r c2 := by
      intro n
      induction n with
      | zero => intro ds r xs cs h hd; cases h; exact ⟨[], cs, rfl, ⟨rfl, rfl⟩, hd⟩
      | succ n ih =>
        intro ds r xs cs h hd
        simp only [asmN] at h
        split at h
        · rename_i y r1 h1
          split at h
          · rename_i ys r2 h2
            cases h
            obtain ⟨c1, c2, rfl, k1, k2⟩ := asm_ok h1 hd
            obtain ⟨c3, c4, rfl, ⟨k3, k4⟩, k5⟩ := ih _ _ _ _ h2 k2
            exact ⟨c1 ++ c3, c4, by simp, ⟨by simp [k3], c1, c3, rfl, k1, k4⟩, k5⟩
          · cases h
        · cases h
    exact key n ds r x cs h hd
  | .value, ds, r, x, cs, h, hd => by
    match ds, cs, h, hd with
    | d0 :: d1 :: d2 :: d3 :: d4 :: d5 :: ds, v0 :: v1 :: v2 :: v3 :: v4 :: v5 :: vs, h, hd =>
      simp only [asm] at h
      split at h
      · rename_i k b n s ns ks h0 h1 h2 h3 h4 h5
        cases h
        obtain ⟨k0, k1, k2, k3, k4, k5, k6⟩ := hd
        have e0 := as1_ok h0 k0
        have e1 := as1_ok h1 k1
        have e2 := as1_ok h2 k2
        have e3 := as1_ok h3 k3
        obtain ⟨u4, e4, m4⟩ := as1_ok h4 k4
        obtain ⟨u5, e5, m5⟩ := as1_ok h5 k5
        simp only [RepC, List.cons.injEq, and_true] at e0 e1 e2 e3 e4 e5
        subst e0 e1 e2 e3 e4 e5
        exact ⟨[_, _, _, _, _, _], vs, rfl, RepV.shut k b n s m4 m5, k6⟩
      · cases h
    | [], _, h, _ => simp [asm] at h
    | [_], _, h, _ => simp [asm] at h
    | [_, _], _, h, _ => simp [asm] at h
    | [_, _, _], _, h, _ => simp [asm] at h
    | [_, _, _, _], _, h, _ => simp [asm] at h
    | [_, _, _, _, _], _, h, _ => simp [asm] at h
    | _ :: _ :: _ :: _ :: _ :: _ :: _, [], _, hd => exact hd.elim
    | _ :: _ :: _ :: _ :: _ :: _ :: _, [_], _, hd => exact hd.2.elim
    | _ :: _ :: _ :: _ :: _ :: _ :: _, [_, _], _, hd => exact hd.2.2.elim
    | _ :: _ :: _ :: _ :: _ :: _ :: _, [_, _, _], _, hd => exact hd.2.2.2.elim
    | _ :: _ :: _ :: _ :: _ :: _ :: _, [_, _, _, _], _, hd => exact hd.2.2.2.2.elim
    | _ :: _ :: _ :: _ :: _ :: _ :: _, [_, _, _, _, _], _, hd => exact hd.2.2.2.2.2.elim

/-- A value as data of a type: its cells. -/
theorem asTy_ok {G : Gh} {L : Mem} {w : World} {τ : Ty} {d : D} {x : τ.I} {v : Value} (h : d.asTy τ = some x) (hd : DW G L w d v) : RepC G.S w τ x v.cells.toList := by
  cases d with
  | val τ' y =>
    simp only [D.asTy] at h
    split at h
    · rename_i e
      cases h
      obtain ⟨cs, h1, h2⟩ := hd
      rw [h2.cells]
      exact castTy_ok e h1
    · cases h
  | raw u =>
    obtain ⟨cs, ⟨v', rfl, h1⟩, h2⟩ := hd
    rw [h2.cells]
    exact as1_ok (show as1 τ (.raw u) = some x from h) h1
  | sptr τ' y off =>
    obtain ⟨cs, ⟨v', rfl, h1⟩, h2⟩ := hd
    rw [h2.cells]
    exact as1_ok (show as1 τ (.sptr τ' y off) = some x from h) h1
  | agg ds =>
    simp only [D.asTy] at h
    cases hA : τ.isAgg with
    | false => rw [hA] at h; cases h
    | true =>
      rw [hA] at h
      simp only [cond_true] at h
      split at h
      · rename_i y hy
        cases h
        obtain ⟨cs, h1, h2⟩ := hd
        rw [h2.cells]
        obtain ⟨c1, c2, rfl, k1, k2⟩ := asm_ok hy h1
        cases c2 with
        | nil => simpa using k1
        | cons _ _ => exact k2.elim
      · cases h
  | _ => simp [D.asTy] at h

theorem ofV_ok {G : Gh} {L : Mem} {w : World} (v : Value) : DV G L w (ofV v) v := by
  cases v with
  | bool b => exact ⟨[_], rfl, rfl, rfl⟩
  | int k n => exact ⟨[_], rfl, rfl, rfl⟩
  | string s =>
    refine ⟨[.string s], ?_, rfl, rfl⟩
    show [Value.string s] = [strV s.data.toList]
    simp [strV]
  | nilIface => exact ⟨[_], ⟨_, rfl, rfl⟩, rfl, rfl⟩
  | agg _ => trivial
  | tuple _ => trivial
  | _ => exact ⟨[_], ⟨_, rfl, rfl, rfl⟩, rfl, rfl⟩

theorem ofV_ok1 {G : Gh} {L : Mem} {w : World} (v : Value) : DC1 G L w (ofV v) v := by
  cases v with
  | bool b => rfl
  | int k n => rfl
  | string s => simp [ofV, DC1, RepC, strV]
  | nilIface => exact ⟨_, rfl, rfl⟩
  | agg _ => trivial
  | tuple _ => trivial
  | _ => exact ⟨rfl, rfl⟩

theorem ofVs_ok {G : Gh} {L : Mem} {w : World} : ∀ (l : List Value), DCs G L w (l.map ofV) l
  | [] => trivial
  | v :: l => ⟨ofV_ok1 v, ofVs_ok l⟩

theorem DCs.set {G : Gh} {L : Mem} {w : World} : ∀ {ds : List D} {vs} (i : Nat) {d : D} {v : Value}, DCs G L w ds vs → DC1 G L w d v → DCs G L w (ds.set i d) (vs.set i v)
  | [], [], _, _, _, h, _ => by simpa using h
  | _ :: _, _ :: _, 0, _, _, h, k => ⟨k, h.2⟩
  | _ :: _, _ :: _, i + 1, _, _, h, k => ⟨h.1, DCs.set i h.2 k⟩
  | [], _ :: _, _, _, _, h, _ => h.elim
  | _ :: _, [], _, _, _, h, _ => h.elim

/-! ### Running -/

section
variable {P : Program} {Γ : FuncId → List D → D → Prop} {E : Env} {G : Gh} {L L' : Mem} {a : Act} {w : World} {rs ws : List Loc}

theorem evO_ok {x : Operand} {k : D → Pr} (h : Run Γ (evO x k) L L' rs ws) (ha : Abs E G L a w) : ∃ d rs', Run Γ (k d) L L' rs' ws ∧ DV G L w d (a.eval x) := by
  cases x with
  | tmp t =>
    cases h with
    | rd h =>
      revert h
      cases hl : L (.tmp t) with
      | none => intro h; cases h
      | some c =>
        cases c with
        | d d => intro h; exact ⟨d, _, h, (ha.tmp t d hl).2⟩
        | _ => intro h; cases h
  | const v => exact ⟨_, _, h, ofV_ok v⟩
  | func f => exact ⟨_, _, h, [_], ⟨_, rfl, rfl, rfl⟩, rfl, rfl⟩
  | global g => cases h

theorem evOs_ok : ∀ {xs : List Operand} {k : List D → Pr} {rs : List Loc}, Run Γ (evOs xs k) L L' rs ws → Abs E G L a w → ∃ ds rs', Run Γ (k ds) L L' rs' ws ∧ All2 (DV G L w) ds (xs.map a.eval)
  | [], _, _, h, _ => ⟨[], _, h, .nil⟩
  | x :: xs, k, rs, h, ha => by
    obtain ⟨d, rs1, h1, hd⟩ := evO_ok h ha
    obtain ⟨ds, rs2, h2, hds⟩ := evOs_ok h1 ha
    exact ⟨d :: ds, rs2, h2, .cons hd hds⟩

theorem evParts_ok : ∀ {xs : List (Nat × Operand)} {k : List (Nat × D) → Pr} {rs : List Loc}, Run Γ (evParts xs k) L L' rs ws → Abs E G L a w →
    ∃ ds rs', Run Γ (k ds) L L' rs' ws ∧ All2 (fun (p : Nat × D) (q : Nat × Operand) => p.1 = q.1 ∧ DV G L w p.2 (a.eval q.2)) ds xs
  | [], _, _, h, _ => ⟨[], _, h, .nil⟩
  | (i, x) :: xs, k, rs, h, ha => by
    obtain ⟨d, rs1, h1, hd⟩ := evO_ok h ha
    obtain ⟨ds, rs2, h2, hds⟩ := evParts_ok h1 ha
    exact ⟨(i, d) :: ds, rs2, h2, .cons ⟨rfl, hd⟩ hds⟩

/-- The abstract frame is another one, that means as much and more. -/
structure After (E : Env) (G : Gh) (L : Mem) (a : Act) (w : World) (G1 : Gh) (L1 : Mem) : Prop where
  abs : Abs E G1 L1 a w
  step : Step G L G1 L1
  keep : Keep G.S w G1.S w

theorem Step.trans {G G1 G2 : Gh} {L L1 L2 : Mem} (h : Step G L G1 L1) (k : Step G1 L1 G2 L2) : Step G L G2 L2 := by
  intro id c hc
  obtain ⟨c1, h1, hg, hk⟩ := h id c hc
  obtain ⟨c2, h2, hg2, hk2⟩ := k id c1 h1
  refine ⟨c2, h2, by omega, fun e => ?_⟩
  obtain ⟨x1, x2, x3⟩ := hk (by omega)
  obtain ⟨y1, y2, y3⟩ := hk2 (by omega)
  exact ⟨Cell.alike_trans x1 y1, y2.trans x2, y3.trans x3⟩

theorem After.refl (h : Abs E G L a w) : After E G L a w G L := ⟨h, Step.refl _ _, Keep.refl _ _⟩
theorem After.trans {G1 G2 : Gh} {L1 L2 : Mem} (h : After E G L a w G1 L1) (k : After E G1 L1 a w G2 L2) : After E G L a w G2 L2 :=
  ⟨k.abs, h.step.trans k.step, h.keep.trans k.keep⟩

/-- What an own slice holds, in sealed blocks. -/
theorem slRep_of_own {e : TypeId} {τ : Ty} {xs : List τ.I} {v : Value} {cs : List Value} (ho : w.ownsRow 0 e τ.sz v xs.length cs) {S : Nat → Prop}
    (hr : RepL (RepC S w τ) xs cs) (hS : ∀ b, v.ownBlock = some b → S b) : SlRep S w (RepC S w τ) xs v := by
  rcases ho.2 with ⟨rfl, h0⟩ | ⟨g, cap, cur, rfl, _, hg, hc, _⟩
  · exact .inl ⟨rfl, List.eq_nil_of_length_eq_zero h0⟩
  · exact .inr ⟨⟨g, 0, none⟩, cap, cs, rfl, hc, hr, fun j u hj => ⟨hS g rfl, ho.cells (g := g) rfl j u hj⟩⟩

theorem Abs.shut (h : Abs E G L a w) {id : Nat} {c c' : Cell} (ho : L (.obj id) = some c) (hg : c'.gen = c.gen) (hal : c.alike c') (hn : ∀ G, ownC G id c' = none) (hbox : ∀ g n, c' ≠ .box g n)
    (hob : ∀ G1 : Gh, G1.blk = G.blk → G1.vv = G.vv → Keep G.S w G1.S w → (∀ b, ownC G id c = some b → G1.S b) → ObjOK G1 w id c') :
    ∃ G1, After E G L a w G1 (upd L (.obj id) c') ∧ ObjOK G1 w id c' ∧ G1.vv = G.vv ∧ G1.blk = G.blk := by
  let G1 : Gh := { G with S := fun b => G.S b ∨ ownC G id c = some b }
  have hk : Keep G.S w G1.S w := ⟨fun _ h => .inl h, fun _ _ => rfl⟩
  have hs : Step G L G1 (upd L (.obj id) c') := by
    intro j d hc
    by_cases e : j = id
    · subst e
      rw [ho] at hc
      cases hc
      exact ⟨c', by simp [upd], by omega, fun _ => ⟨hal, rfl, rfl⟩⟩
    · exact ⟨d, by simp [upd, e, hc], Nat.le_refl _, fun _ => ⟨d.alike_refl, rfl, rfl⟩⟩
  have hok : ObjOK G1 w id c' := hob G1 rfl rfl hk fun b hb => .inr hb
  have hown : ∀ j, j ≠ id → ownB G1 (upd L (.obj id) c') j = ownB G L j := fun j hj => ownB_congr (by simp [upd, hj]) rfl rfl
  have hid : ownB G1 (upd L (.obj id) c') id = none := by simp [ownB, upd, hn]
  have hid0 : ownB G L id = ownC G id c := ownB_some ho
  refine ⟨G1, ⟨⟨⟨?_, ?_, ?_, ?_, ?_, ?_, ?_, h.heap.under, h.heap.start⟩, h.defers, h.size, ?_, fun n d h1 => (h.sv n d (by simpa [upd] using h1)).mono hs hk⟩, hs, hk⟩, hok, rfl, rfl⟩
  · intro j off d g' n' h1 h2
    have h1' : L (.cell j g' off) = some (.d d) := by simpa [upd] using h1
    by_cases e : j = id
    · subst e; simp [upd] at h2; exact absurd h2 (hbox g' n')
    · obtain ⟨v, hv, hd⟩ := h.heap.cell j off d g' n' h1' (by simpa [upd, e] using h2)
      exact ⟨v, hv, hd.mono hs hk⟩
  · intro j d h1
    by_cases e : j = id
    · subst e; simp [upd] at h1; subst h1; exact hok
    · exact (h.heap.obj j d (by simpa [upd, e] using h1)).kept hk rfl rfl fun _ _ => rfl
  · intro j g' off d h1
    obtain ⟨o, h2, h3⟩ := h.heap.cgen j g' off d (by simpa [upd] using h1)
    by_cases e : j = id
    · subst e
      rw [ho] at h2
      cases h2
      exact ⟨c', by simp [upd], by omega⟩
    · exact ⟨o, by simp [upd, e, h2], h3⟩
  · intro j b hb
    by_cases e : j = id
    · subst e; rw [hid] at hb; cases hb
    · rw [hown j e] at hb
      obtain ⟨k1, k2⟩ := h.heap.own j b hb
      refine ⟨k1, fun hS => ?_⟩
      rcases hS with hS | hS
      · exact k2 hS
      · exact h.heap.apart j id b e hb (hid0.trans hS)
  · intro i j b hij hb
    by_cases e : i = id
    · subst e; rw [hid] at hb; cases hb
    · by_cases e' : j = id
      · subst e'; rw [hid]; simp
      · rw [hown i e] at hb; rw [hown j e']; exact h.heap.apart i j b hij hb
  · intro b hb
    rcases hb with hb | hb
    · exact h.heap.sealed b hb
    · exact h.heap.own_lt (hid0.trans hb)
  · intro b hb
    refine ⟨fun h0 => .inl ((h.heap.old b hb).1 h0), fun hS => ?_⟩
    rcases hS with hS | hS
    · exact (h.heap.old b hb).2 hS
    · rcases (h.heap.own id b (hid0.trans hS)).1 with k | k
      · omega
      · exact .inr k
  · intro n d h1
    exact ⟨(h.tmp n d (by simpa [upd] using h1)).1, (h.tmp n d (by simpa [upd] using h1)).2.mono hs hk⟩

theorem Abs.shutVec (h : Abs E G L a w) {id g : Nat} {e : TypeId} {τ : Ty} {xs : List τ.I} (ho : L (.obj id) = some (.vec g e τ xs)) :
    ∃ G1, After E G L a w G1 (upd L (.obj id) (.sl g τ xs)) ∧ SlRep G1.S w (RepC G1.S w τ) xs (G.vv id) ∧ G1.vv = G.vv := by
  obtain ⟨G1, h1, h2, h3, h4⟩ := h.shut (c' := .sl g τ xs) ho rfl ⟨rfl, rfl⟩ (fun _ => rfl) (fun _ _ h => by cases h) fun G1 e1 e2 hk hS => by
    obtain ⟨cs, hw, hl⟩ := h.heap.vec id g e τ xs ho
    show SlRep G1.S w (RepC G1.S w τ) xs (G1.vv id)
    rw [e2]
    exact slRep_of_own hw (hl.mono fun _ _ h => RepC.mono hk h) fun b hb => hS b hb
  exact ⟨G1, h1, by rw [← h3]; exact h2, h3⟩

theorem Abs.shutMap (h : Abs E G L a w) {id g : Nat} {κ τ : Ty} {xs : List (κ.I × τ.I)} (ho : L (.obj id) = some (.map g κ τ xs)) :
    ∃ G1, After E G L a w G1 (upd L (.obj id) (.sm g κ τ xs)) ∧ MapRep G1.S w κ.isAgg τ.isAgg (RepC G1.S w κ) (RepC G1.S w τ) xs (.map (some (G.blk id))) ∧ G1.blk = G.blk := by
  obtain ⟨G1, h1, h2, h3, h4⟩ := h.shut (c' := .sm g κ τ xs) ho rfl trivial (fun _ => rfl) (fun _ _ h => by cases h) fun G1 e1 e2 hk hS => by
    obtain ⟨es, cl, hw, hl⟩ := h.heap.obj id _ ho
    show MapRep G1.S w κ.isAgg τ.isAgg (RepC G1.S w κ) (RepC G1.S w τ) xs (.map (some (G1.blk id)))
    rw [e1]
    exact .inr ⟨_, es, cl, rfl, hS _ rfl, hw, hl.mono (fun _ _ h => RepC.mono hk h) fun _ _ h => RepC.mono hk h⟩
  exact ⟨G1, h1, by rw [← h4]; exact h2, h4⟩

theorem sealCell_ok2 {d : D} {k : D → Pr} {v : Value} (h : Run Γ (sealCell d k) L L' rs ws) (ha : Abs E G L a w) (hd : DC1 G L w d v) :
    ∃ d' G1 L1 rs' ws', Run Γ (k d') L1 L' rs' ws' ∧ After E G L a w G1 L1 ∧ DC1 G1 L1 w d' v ∧ d'.isAgg = d.isAgg ∧
      (∀ l, (∀ j, l ≠ .obj j) → L1 l = L l) ∧ ∀ j g n, L (.obj j) = some (.box g n) → L1 (.obj j) = some (.box g n) := by
  cases d with
  | vec id g =>
    cases h with
    | rd h =>
      revert h
      cases hl : L (.obj id) with
      | none => intro h; cases h
      | some c =>
        cases c with
        | vec g' e τ xs =>
          intro h
          cases h with
          | gd hb h =>
            cases h with
            | wr h =>
              obtain ⟨G1, haf, hsl, hvv⟩ := ha.shutVec hl
              refine ⟨_, G1, _, _, _, h, haf, ?_, rfl, fun l hl' => by simp [upd, hl' id], fun j g2 n2 hj => by simp only [upd]; rw [if_neg]; exact hj; intro e; cases e; rw [hl] at hj; cases hj⟩
              obtain ⟨_, c, hc, _, hp⟩ := hd
              rw [hl] at hc
              cases hc
              have : v = G.vv id := hp (Nat.eq_of_beq_eq_true hb)
              subst this
              exact ⟨_, rfl, hsl⟩
        | sl g' τ xs =>
          intro h
          cases h with
          | gd hb h =>
            refine ⟨_, G, L, _, _, h, After.refl ha, ?_, rfl, fun _ _ => rfl, fun _ _ _ h => h⟩
            obtain ⟨_, c, hc, _, hp⟩ := hd
            rw [hl] at hc
            cases hc
            have : v = G.vv id := hp (Nat.eq_of_beq_eq_true hb)
            subst this
            exact ⟨_, rfl, ha.heap.sl id g' τ xs hl⟩
        | _ => intro h; cases h
  | mp id g =>
    cases h with
    | rd h =>
      revert h
      cases hl : L (.obj id) with
      | none => intro h; cases h
      | some c =>
        cases c with
        | map g' κ τ xs =>
          intro h
          cases h with
          | gd hb h =>
            cases h with
            | wr h =>
              obtain ⟨G1, haf, hsl, hvv⟩ := ha.shutMap hl
              refine ⟨_, G1, _, _, _, h, haf, ?_, rfl, fun l hl' => by simp [upd, hl' id], fun j g2 n2 hj => by simp only [upd]; rw [if_neg]; exact hj; intro e; cases e; rw [hl] at hj; cases hj⟩
              obtain ⟨_, c, hc, _, hp⟩ := hd
              rw [hl] at hc
              cases hc
              have : v = .map (some (G.blk id)) := hp (Nat.eq_of_beq_eq_true hb)
              subst this
              exact ⟨_, rfl, hsl⟩
        | sm g' κ τ xs =>
          intro h
          cases h with
          | gd hb h =>
            refine ⟨_, G, L, _, _, h, After.refl ha, ?_, rfl, fun _ _ => rfl, fun _ _ _ h => h⟩
            obtain ⟨_, c, hc, _, hp⟩ := hd
            rw [hl] at hc
            cases hc
            have : v = .map (some (G.blk id)) := hp (Nat.eq_of_beq_eq_true hb)
            subst this
            exact ⟨_, rfl, ha.heap.obj id _ hl⟩
        | _ => intro h; cases h
  | _ => exact ⟨_, G, L, _, _, h, After.refl ha, hd, rfl, fun _ _ => rfl, fun _ _ _ h => h⟩

theorem sealCell_ok {d : D} {k : D → Pr} {v : Value} (h : Run Γ (sealCell d k) L L' rs ws) (ha : Abs E G L a w) (hd : DC1 G L w d v) :
    ∃ d' G1 L1 rs' ws', Run Γ (k d') L1 L' rs' ws' ∧ After E G L a w G1 L1 ∧ DC1 G1 L1 w d' v ∧ d'.isAgg = d.isAgg := by
  obtain ⟨d', G1, L1, rs', ws', h1, h2, h3, h4, _⟩ := sealCell_ok2 h ha hd
  exact ⟨d', G1, L1, rs', ws', h1, h2, h3, h4⟩

theorem DC1.dw {d : D} {v : Value} (h : DC1 G L w d v) (hA : d.isAgg = false) : DV G L w d v := by
  cases d with
  | undef => trivial
  | agg ds => exact h.elim
  | tup ds => exact h.elim
  | val τ x => exact ⟨[v], h, by unfold wrapV; rw [hA]; exact ⟨rfl, h.plain (by simp)⟩⟩
  | _ => exact ⟨[v], ⟨v, rfl, h⟩, rfl, h.plain (by simp)⟩
end

end Go.Proofs.YtllhidkadhoipaaDoor.Ab
