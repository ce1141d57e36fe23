/- Each operation of the model does what its abstract one does: operation by operation. For every program whose types are as told. -/
import Derived.Test.YtllhidkadhoipaaDoorC6
import Derived.Laws.Tables
import Derived.Great.BuildSlice
namespace Go.Proofs.YtllhidkadhoipaaDoor.Ab
open Go Go.RowKit

section
variable {P : Program} {Γ : FuncId → List D → D → Prop} {E : Env} {G : Gh} {L L' : Mem} {a : Act} {w : World} {rs ws : List Loc}

theorem DV_bool {b : Bool} {v : Value} (h : DV G L w (.val .bool b) v) : v = .bool b := by
  obtain ⟨cs, h1, h2⟩ := h; cases h1; obtain ⟨h2, _⟩ := h2; simpa using h2.symm
theorem DV_int {k : IntKind} {n : Int} {v : Value} (h : DV G L w (.val (.int k) n) v) : v = .int k n := by
  obtain ⟨cs, h1, h2⟩ := h; cases h1; obtain ⟨h2, _⟩ := h2; simpa using h2.symm
theorem DV_str {s : List UInt8} {v : Value} (h : DV G L w (.val .str s) v) : v = strV s := by
  obtain ⟨cs, h1, h2⟩ := h; cases h1; obtain ⟨h2, _⟩ := h2; simpa using h2.symm
theorem DV_slice {τ : Ty} {xs : List τ.I} {v : Value} (h : DV G L w (.val (.slice τ) xs) v) : SlRep G.S w (RepC G.S w τ) xs v := by
  obtain ⟨cs, ⟨u, rfl, h1⟩, h2⟩ := h; obtain ⟨h2, _⟩ := h2; cases h2; exact h1
theorem DV_raw {u v : Value} (h : DV G L w (.raw u) v) : v = u ∧ u.oneCell' = true := by
  obtain ⟨cs, ⟨x, rfl, h1⟩, h2⟩ := h; obtain ⟨h2, _⟩ := h2; cases h2; exact h1
theorem DV_one {d : D} {v : Value} (hA : d.isAgg = false) (h : DV G L w d v) (h1 : ∀ τ x, d ≠ .val τ x) (h2 : d ≠ .undef) (h3 : ∀ l, d ≠ .tup l) : DC1 G L w d v := by
  cases d with
  | undef => exact absurd rfl h2
  | val τ x => exact absurd rfl (h1 _ _)
  | agg ds => cases hA
  | tup ds => exact absurd rfl (h3 _)
  | _ => obtain ⟨cs, ⟨x, rfl, h4⟩, h5⟩ := h; obtain ⟨h5, _⟩ := h5; cases h5; exact h4

theorem dv_bool (b : Bool) : DV G L w (.val .bool b) (.bool b) := ⟨[_], rfl, rfl, rfl⟩
theorem dv_int (k : IntKind) (n : Int) : DV G L w (.val (.int k) n) (.int k n) := ⟨[_], rfl, rfl, rfl⟩
theorem dv_str (s : List UInt8) : DV G L w (.val .str s) (strV s) := ⟨[_], rfl, rfl, rfl⟩
theorem dv_slice {τ : Ty} {xs : List τ.I} {v : Value} (h : SlRep G.S w (RepC G.S w τ) xs v) : DV G L w (.val (.slice τ) xs) v := ⟨[v], ⟨v, rfl, h⟩, rfl, h.plain⟩

/-- The cells of a solid value. -/
theorem solid_cells {d : D} {v : Value} (hs : d.solid = true) (h : DV G L w d v) : DCs G L w d.cells v.cells.toList := by
  cases d with
  | undef => cases hs
  | tup ds => cases hs
  | _ => obtain ⟨cs, h1, h2⟩ := h; rw [h2.cells]; exact D.cells_ok h1

theorem DCs.plain : ∀ {ds : List D} {vs}, DCs G L w ds vs → (∀ d ∈ ds, d ≠ .undef) → ∀ u ∈ vs, u.oneCell' = true
  | [], [], _, _ => by simp
  | d :: ds, v :: vs, h, hd => by
    intro u hu
    rcases List.mem_cons.1 hu with rfl | hu
    · exact h.1.plain (hd d (by simp))
    · exact DCs.plain h.2 (fun d' h' => hd d' (by simp [h'])) u hu
  | [], _ :: _, h, _ => h.elim
  | _ :: _, [], h, _ => h.elim

/-! ### Filling -/

theorem foldl_set (off : Nat) : ∀ (l : List Value) (k : Nat) (arr : Array Value), off + k + l.length ≤ arr.size →
    ((l.zipIdx k).foldl (fun cs (x : Value × Nat) => cs.setIfInBounds (off + x.2) x.1) arr).toList = arr.toList.take (off + k) ++ l ++ arr.toList.drop (off + k + l.length)
  | [], k, arr, _ => by simp
  | c :: l, k, arr, h => by
    simp only [List.zipIdx_cons, List.foldl_cons]
    rw [foldl_set off l (k + 1) (arr.setIfInBounds (off + k) c) (by simp at h ⊢; omega)]
    have hlt : off + k < arr.toList.length := by simp at h ⊢; omega
    rw [Array.toList_setIfInBounds]
    have e1 : List.take (off + (k + 1)) (arr.toList.set (off + k) c) = List.take (off + k) arr.toList ++ [c] := by
      rw [show off + (k + 1) = (off + k) + 1 from by omega, List.take_succ_eq_append_getElem (by simpa using hlt)]
      simp [List.take_set_of_le]
    have e2 : List.drop (off + (k + 1) + l.length) (arr.toList.set (off + k) c) = List.drop (off + k + (c :: l).length) arr.toList := by
      rw [List.drop_set_of_lt (by omega)]
      congr 1
      simp; omega
    rw [e1, e2]
    simp

theorem fill_step {place : Nat → Option (Nat × Nat)} {cells : Array Value} {i off size : Nat} {v : Value} {rest : List (Nat × Value)} (hp : place i = some (off, size)) (hs : v.cells.toList.length = size) (hc : off + size ≤ cells.toList.length) :
    ∃ cells' : Array Value, Instr.fill place cells ((i, v) :: rest) = Instr.fill place cells' rest ∧ cells'.toList = cells.toList.take off ++ v.cells.toList ++ cells.toList.drop (off + size) := by
  have hs' : v.cells.size = size := by simpa using hs
  have hc' : off + size ≤ cells.size := by simpa using hc
  refine ⟨v.cells.zipIdx.foldl (fun cs (c, j) => cs.setIfInBounds (off + j) c) cells, ?_, ?_⟩
  · simp only [Instr.fill, hp]
    rw [if_neg (by simp [hs']; omega)]
  · rw [← Array.foldl_toList, Array.toList_zipIdx]
    have := foldl_set off v.cells.toList 0 cells (by simp [hs']; omega)
    simp only [Nat.add_zero] at this
    rw [hs] at this
    exact this

theorem fill_ok {place : Nat → Option (Nat × Nat)} : ∀ {ds : List (Nat × D)} {cells out : List D} {vs : List (Nat × Value)} {cv : Array Value}, fillD place cells ds = some out → DCs G L w cells cv.toList →
    All2 (fun (p : Nat × D) (q : Nat × Value) => p.1 = q.1 ∧ DV G L w p.2 q.2) ds vs → (∀ p ∈ ds, p.2.solid = true) → ∃ ov : Array Value, Instr.fill place cv vs = some ov ∧ DCs G L w out ov.toList
  | [], cells, out, _, cv, h, hc, .nil, _ => by cases h; exact ⟨cv, rfl, hc⟩
  | (i, d) :: ds, cells, out, _, cv, h, hc, .cons (b := (i', v)) (m := vs) ⟨hi, hd⟩ hr, hs => by
    simp only at hi hd
    subst hi
    simp only [fillD] at h
    cases hp : place i with
    | none => rw [hp] at h; cases h
    | some pl =>
      obtain ⟨off, size⟩ := pl
      rw [hp] at h
      cases hb : (Nat.beq d.cells.length size && Nat.ble (off + size) cells.length) with
      | false => simp only [hb, cond_false] at h; cases h
      | true =>
        simp only [hb, cond_true] at h
        simp only [Bool.and_eq_true, Nat.beq_eq, Nat.ble_eq] at hb
        have hdc : DCs G L w d.cells v.cells.toList := solid_cells (show d.solid = true from hs (i, d) (by simp)) hd
        have hl1 := hdc.length
        have hl2 := hc.length
        obtain ⟨cv', e1, e2⟩ := fill_step (cells := cv) (rest := vs) hp (v := v) (by omega) (by omega)
        obtain ⟨ov, h1, h2⟩ := fill_ok (cv := cv') h (by rw [e2]; exact ((hc.take off).append hdc).append (hc.drop _)) hr (fun p hp => hs p (by simp [hp]))
        exact ⟨ov, by rw [e1]; exact h1, h2⟩

/-- Parts one behind the other. -/
theorem fill_row (sz : Nat) : ∀ (vs : List Value) (k : Nat) (cv : Array Value) (done : List Value), (∀ v ∈ vs, v.cells.toList.length = sz) → done.length = k * sz → cv.toList.take (k * sz) = done → cv.toList.length = (k + vs.length) * sz →
    ∃ ov : Array Value, Instr.fill (fun i => some (i * sz, sz)) cv ((vs.zipIdx k).map fun x => (x.2, x.1)) = some ov ∧ ov.toList = done ++ vs.flatMap fun v => v.cells.toList
  | [], k, cv, done, _, hd, ht, hl => by
    refine ⟨cv, rfl, ?_⟩
    simp only [List.flatMap_nil, List.append_nil]
    rw [← ht, List.take_of_length_le]
    simp only [List.length_nil, Nat.add_zero] at hl
    omega
  | v :: vs, k, cv, done, hv, hd, ht, hl => by
    have hvl := hv v (by simp)
    have hl' : cv.toList.length = k * sz + sz + vs.length * sz := by
      rw [hl, List.length_cons, show k + (vs.length + 1) = (k + 1) + vs.length from by omega, Nat.add_mul, Nat.succ_mul]
    obtain ⟨cv', e1, e2⟩ := fill_step (place := fun i => some (i * sz, sz)) (cells := cv) (i := k) (rest := (vs.zipIdx (k + 1)).map fun x => (x.2, x.1)) rfl hvl (by omega)
    obtain ⟨ov, h1, h2⟩ := fill_row sz vs (k + 1) cv' (done ++ v.cells.toList) (fun u hu => hv u (by simp [hu])) (by rw [List.length_append, hd, hvl, Nat.succ_mul])
      (by
        rw [e2, ht]
        rw [List.take_append_of_le_length (by rw [List.length_append, hd, hvl, Nat.succ_mul]; omega), List.take_of_length_le (by rw [List.length_append, hd, hvl, Nat.succ_mul]; omega)])
      (by
        rw [e2]
        simp only [List.length_append, List.length_take, List.length_drop, hvl, hl', Nat.add_mul, Nat.succ_mul]
        omega)
    refine ⟨ov, ?_, by rw [h2]; simp⟩
    rw [← h1, ← e1]
    rfl

theorem newBox_ok {ob : Nat} {dst : Option Tmp} {ds : List D} {cs : Array Value} {t : TypeId} (h : Run Γ (newBox ob dst ds) L L' rs ws) (ha : Abs E G L a w) (hn : ∀ n, dst = some n → n < E.N) (hd : DCs G L w ds cs.toList) :
    ∃ G1, Abs E G1 L' (a.put dst (.pointer (some ⟨w.heap.size, 0, none⟩))) (w.alloc (.cells cs t)) := by
  cases dst with
  | none => cases h
  | some n =>
    cases h with
    | rd h =>
      cases h with
      | wr h =>
        obtain ⟨ws', h⟩ := wrCells_ok h
        cases h with
        | wr h =>
          cases h
          obtain ⟨G1, h1, h2⟩ := ha.newBox (n := n + ob) (g := nextGen (L (.obj (n + ob)))) (fun c hc => by rw [hc]; exact Nat.lt_succ_self _) t hd
          refine ⟨G1, h1.put (hn n rfl) ⟨[_], ⟨_, rfl, rfl, .box (nextGen (L (.obj (n + ob)))) ds.length, ?_, Nat.le_refl _, fun _ => ?_⟩, rfl, rfl⟩⟩
          · rw [updCells_obj]; simp [upd]
          · simp [isBoxAt, h2]

theorem newVec_ok {ob : Nat} {dst : Option Tmp} {e : TypeId} {τ : Ty} {xs : List τ.I} (h : Run Γ (newVec ob dst e τ xs) L L' rs ws) (ha : Abs E G L a w) (hn : ∀ n, dst = some n → n < E.N) {v : Value} {cs : List Value}
    (hv : w.ownsRow 0 e τ.sz v xs.length cs) (hl : RepL (RepC G.S w τ) xs cs) (hb : ∀ b, v.ownBlock = some b → (E.base ≤ b ∨ E.X b) ∧ ¬ G.S b ∧ ∀ j, ownB G L j ≠ some b) :
    ∃ G1, Abs E G1 L' (a.put dst v) w := by
  cases dst with
  | none => cases h
  | some n =>
    cases h with
    | rd h =>
      cases h with
      | wr h =>
        cases h with
        | wr h =>
          cases h
          obtain ⟨G1, h1, h2, _, _⟩ := ha.newVec (n := n + ob) (g := nextGen (L (.obj (n + ob)))) (fun c hc => by rw [hc]; exact Nat.lt_succ_self _) hv hl (fun b h => ⟨(hb b h).1, (hb b h).2.1, fun j _ => (hb b h).2.2 j⟩)
          have h1cell : v.oneCell' = true := by rcases hv.2 with ⟨rfl, _⟩ | ⟨_, _, _, rfl, _⟩ <;> rfl
          exact ⟨G1, h1.put (hn n rfl) ⟨[_], ⟨_, rfl, h1cell, .vec (nextGen (L (.obj (n + ob)))) e τ xs, by simp [upd], Nat.le_refl _, fun _ => h2.symm⟩, rfl, h1cell⟩⟩

end
end Go.Proofs.YtllhidkadhoipaaDoor.Ab
