/- Each operation of the model does what its abstract one does: all of them. For every program whose types are as told. -/
import Derived.Test.YtllhidkadhoipaaDoorC7
import Derived.WideLaws
namespace Go.Proofs.YtllhidkadhoipaaDoor.Ab
open Go Go.RowKit

section
variable {P : Program} {Γ : FuncId → List D → D → Prop} {E : Env} {G : Gh} {L L' : Mem} {a : Act} {w : World} {rs ws : List Loc} {lay : Lay} {o : Oper} {K : Act → World → Prop} {Q : Exit → Act → World → Prop}

/-- What is asked of an operation. -/
def OpOK (P : Program) (E : Env) (L' : Mem) (o : Oper) (a : Act) (w : World) : Prop :=
  ∀ (K : Act → World → Prop) (Q : Exit → Act → World → Prop), (∀ G' a' w', Abs E G' L' a' w' → K a' w') → o.wp P a w K Q

theorem op_move {x : Operand} (ho : o.op = .move x ∨ o.op = .assign x) (h : Run Γ (evO x (putD o.dst)) L L' rs ws) (ha : Abs E G L a w) (hn : ∀ n, o.dst = some n → n < E.N) : OpOK P E L' o a w := by
  intro K Q hK
  obtain ⟨d, rs', h1, hd⟩ := evO_ok h ha
  refine wp_value (w' := w) (v := a.eval x) ?_ (hK _ _ _ (putD_ok h1 ha hn hd))
  rcases ho with ho | ho <;> simp [execOp, ho]

theorem op_pick {c x y : Operand} (ho : o.op = .pick c x y) (h : Run Γ (opPr lay o) L L' rs ws) (ha : Abs E G L a w) (hn : ∀ n, o.dst = some n → n < E.N) : OpOK P E L' o a w := by
  intro K Q hK
  simp only [opPr, ho] at h
  obtain ⟨d, rs', h1, hd⟩ := evO_ok h ha
  split at h1
  · rename_i t
    have hc := DV_bool hd
    cases h1 with
    | brT hb h1 =>
      subst hb
      obtain ⟨d', rs2, h2, hd2⟩ := evO_ok h1 ha
      refine wp_value (w' := w) (v := a.eval x) ?_ (hK _ _ _ (putD_ok h2 ha hn hd2))
      simp [execOp, ho, hc, asBool]
    | brF hb h1 =>
      subst hb
      obtain ⟨d', rs2, h2, hd2⟩ := evO_ok h1 ha
      refine wp_value (w' := w) (v := a.eval y) ?_ (hK _ _ _ (putD_ok h2 ha hn hd2))
      simp [execOp, ho, hc, asBool]
  · cases h1

theorem op_alloc (hlay : LayOK P lay) {t : TypeId} (ho : o.op = .alloc t) (h : Run Γ (opPr lay o) L L' rs ws) (ha : Abs E G L a w) (hn : ∀ n, o.dst = some n → n < E.N) : OpOK P E L' o a w := by
  intro K Q hK
  simp only [opPr, ho] at h
  cases hi : lay t with
  | none => rw [hi] at h; cases h
  | some i =>
    rw [hi] at h
    obtain ⟨G1, h1⟩ := newBox_ok (t := t) (cs := i.zero.cells) h ha hn (ofVs_ok _)
    refine wp_value ?_ (hK _ _ _ h1)
    simp [execOp, ho, Instr.alloc, run_zero_lay hlay hi, newVar, newRow]

theorem op_box {t : TypeId} {x : Operand} (ho : o.op = .box t x) (h : Run Γ (opPr lay o) L L' rs ws) (ha : Abs E G L a w) (hn : ∀ n, o.dst = some n → n < E.N) : OpOK P E L' o a w := by
  intro K Q hK
  simp only [opPr, ho] at h
  obtain ⟨d, rs', h1, hd⟩ := evO_ok h ha
  cases hi : lay t with
  | none => rw [hi] at h1; cases h1
  | some i =>
    rw [hi] at h1
    cases h1 with
    | gd hb h1 =>
      simp only [Bool.and_eq_true] at hb
      obtain ⟨G1, h2⟩ := newBox_ok (t := t) (cs := (a.eval x).cells) h1 ha hn (solid_cells hb.1 hd)
      refine wp_value ?_ (hK _ _ _ h2)
      simp [execOp, ho, Instr.box, newVar, newRow]

theorem places_ok (hlay : LayOK P lay) : ∀ {fs : List Field} {l}, placesOf lay fs = some l → fs.mapM (fun f => (P.info? f.type).map fun i => (f.offset, i.size)) = some l
  | [], _, h => by cases h; rfl
  | f :: fs, l, h => by
    simp only [placesOf] at h
    split at h
    · rename_i j l' h1 h2
      cases h
      obtain ⟨x, e1, _, e2, _⟩ := lay_info hlay h1
      simp [List.mapM_cons, e1, e2, places_ok hlay h2]
    · cases h

theorem op_build (hlay : LayOK P lay) {t : TypeId} {parts : Array (Nat × Operand)} (ho : o.op = .build t parts) (h : Run Γ (opPr lay o) L L' rs ws) (ha : Abs E G L a w) (hn : ∀ n, o.dst = some n → n < E.N) : OpOK P E L' o a w := by
  intro K Q hK
  simp only [opPr, ho] at h
  obtain ⟨ds, rs', h1, hd⟩ := evParts_ok h ha
  cases h1 with
  | gd hb h1 =>
    cases hi : lay t with
    | none => rw [hi] at h1; cases h1
    | some i =>
      rw [hi] at h1
      simp only at h1
      have hall : ∀ p ∈ ds, p.2.solid = true := by simpa [List.all_eq_true] using hb
      have hd' : All2 (fun (p : Nat × D) (q : Nat × Value) => p.1 = q.1 ∧ DV G L w p.2 q.2) ds (parts.toList.map fun p => (p.1, a.eval p.2)) := by
        generalize parts.toList = l at hd
        clear h1 hall hb h
        induction hd with
        | nil => exact .nil
        | cons r _ ih => exact .cons r ih
      obtain ⟨info, e1, e2, e3, _⟩ := lay_info hlay hi
      have hu := hlay.und t i hi
      have fin : ∀ {place} {cells : List D}, fillD place i.zeroD ds = some cells → (∀ ov, Instr.fill place i.zero.cells (parts.toList.map fun p => (p.1, a.eval p.2)) = some ov → P.built t (parts.map fun (n, x) => (n, a.eval x)).toList = some ov) →
          ∀ {rs ws}, Run Γ (putD o.dst (.agg cells)) L L' rs ws → o.wp P a w K Q := by
        intro place cells hf hbuilt rs ws hr
        obtain ⟨ov, k1, k2⟩ := fill_ok hf (ofVs_ok i.zero.cells.toList) hd' hall
        refine wp_value (w' := w) (v := .agg ov) ?_ (hK _ _ _ (putD_ok hr ha hn ⟨ov.toList, k2, by simp [wrapV, D.isAgg]⟩))
        simp only [execOp, ho, Sem.run_bind, run_build w t _ ov (hbuilt ov k1), Result.andThen_ok]
        rfl
      split at h1
      · rename_i fs hdesc
        cases hp : placesOf lay fs.toList with
        | none => rw [hp] at h1; cases h1
        | some places =>
          rw [hp] at h1
          simp only at h1
          cases hf : fillD (fun n => places[n]?) i.zeroD ds with
          | none => rw [hf] at h1; cases h1
          | some cells =>
            rw [hf] at h1
            refine fin hf (fun ov k => ?_) h1
            rw [hdesc] at hu
            unfold Program.built
            simp only [e1, hu, e2, places_ok hlay hp]
            rw [← k]
            simp
      · rename_i m e hdesc
        cases hj : lay e with
        | none => rw [hj] at h1; cases h1
        | some j =>
          rw [hj] at h1
          simp only at h1
          cases hf : fillD (fun n => some (n * j.sz, j.sz)) i.zeroD ds with
          | none => rw [hf] at h1; cases h1
          | some cells =>
            rw [hf] at h1
            obtain ⟨ie, f1, _, f2, _⟩ := lay_info hlay hj
            refine fin hf (fun ov k => ?_) h1
            rw [hdesc] at hu
            unfold Program.built
            simp only [e1, hu, e2, f1, f2]
            rw [← k]
            simp
      · cases h1

theorem op_buildSlice (hlay : LayOK P lay) {t : TypeId} {len : Nat} {parts : Array (Nat × Operand)} (ho : o.op = .buildSlice t len parts) (h : Run Γ (opPr lay o) L L' rs ws) (ha : Abs E G L a w) (hn : ∀ n, o.dst = some n → n < E.N) : OpOK P E L' o a w := by
  intro K Q hK
  simp only [opPr, ho] at h
  obtain ⟨ds, rs', h1, hd⟩ := evParts_ok h ha
  cases hse : sliceElem lay t with
  | none => rw [hse] at h1; cases h1
  | some ej =>
    obtain ⟨e, j⟩ := ej
    rw [hse] at h1
    simp only at h1
    cases hty : j.ty with
    | none => rw [hty] at h1; cases h1
    | some τ =>
      rw [hty] at h1
      simp only at h1
      cases h1 with
      | gd hb h1 =>
        simp only [Bool.and_eq_true, Nat.ble_eq, beq_iff_eq, Bool.not_eq_true', List.all_eq_true] at hb
        obtain ⟨⟨⟨⟨hidx, hlen⟩, hjs⟩, hj0⟩, hsol⟩ := hb
        have hdv : All2 (DV G L w) (ds.map (·.2)) (parts.toList.map fun p => a.eval p.2) := by
          generalize parts.toList = l at hd
          clear h1 hidx hsol h
          induction hd with
          | nil => exact .nil
          | cons r _ ih => exact .cons r.2 ih
        obtain ⟨xs, G1, L1, rs1, ws1, h2, a1, k1, k2⟩ := sealTys_ok h1 ha hdv
        -- the types
        have hlt : lay e = some j ∧ P.underlying t = some (.slice e) := by
          unfold sliceElem at hse
          split at hse
          · rename_i i hi
            split at hse
            · rename_i e' hde
              split at hse
              · rename_i j' hj'
                cases hse
                exact ⟨hj', by rw [← hde]; exact hlay.und t i hi⟩
              · cases hse
            · cases hse
          · cases hse
        obtain ⟨hje, hut⟩ := hlt
        obtain ⟨ie, f1, f2, f3, _⟩ := lay_info hlay hje
        obtain ⟨hsz, _⟩ := hlay.tys e j τ hje hty
        have hpl : parts.toList.length = len ∧ (parts.map fun (n, x) => (n, a.eval x)).toList = ((parts.toList.map fun p => a.eval p.2).zipIdx 0).map fun x => (x.2, x.1) := by
          have : ∀ (l : List (Nat × Operand)) (ds : List (Nat × D)) (k : Nat), All2 (fun (p : Nat × D) (q : Nat × Operand) => p.1 = q.1 ∧ DV G L w p.2 (a.eval q.2)) ds l → ds.map (·.1) = List.range' k ds.length →
              l.length = ds.length ∧ l.map (fun p => (p.1, a.eval p.2)) = ((l.map fun p => a.eval p.2).zipIdx k).map fun x => (x.2, x.1) := by
            intro l ds k hh
            induction hh generalizing k with
            | nil => intro _; exact ⟨rfl, rfl⟩
            | cons r _ ih =>
              intro hr
              simp only [List.map_cons, List.length_cons, List.range'_succ, List.cons.injEq] at hr
              obtain ⟨i1, i2⟩ := ih (k + 1) hr.2
              refine ⟨by simp [i1], ?_⟩
              simp only [List.map_cons, List.zipIdx_cons, i2, List.cons.injEq, Prod.mk.injEq, and_true]
              exact r.1.symm.trans hr.1
          have hlen2 : ds.length = len := by have := congrArg List.length hidx; simpa using this
          obtain ⟨m1, m2⟩ := this parts.toList ds 0 hd (by rw [hidx, hlen2, List.range_eq_range'])
          exact ⟨by omega, by rw [Array.toList_map]; exact m2⟩
        have hcl : ∀ v ∈ (parts.toList.map fun p => a.eval p.2), v.cells.toList.length = τ.sz := by
          have : ∀ (vs : List Value) (ys : List τ.I), RepL (RepC G1.S w τ) ys (vs.flatMap fun v => v.cells.toList) → True := fun _ _ _ => trivial
          -- each part by itself
          have key : ∀ {ds : List D} {k : List τ.I → Pr} {vs : List Value} {G : Gh} {L : Mem} {rs ws : List Loc}, Run Γ (sealTys τ ds k) L L' rs ws → Abs E G L a w → All2 (DV G L w) ds vs → ∀ v ∈ vs, v.cells.toList.length = τ.sz := by
            intro ds
            induction ds with
            | nil => intro k vs G L rs ws _ _ h3; cases h3; simp
            | cons d ds ih =>
              intro k vs G L rs ws h1 h2 h3
              cases h3 with
              | cons hd hds =>
                obtain ⟨x, G1, L1, rs1, ws1, q1, q2, q3⟩ := sealTy_ok h1 h2 hd
                intro v hv
                rcases List.mem_cons.1 hv with rfl | hv
                · exact RepC.length q3
                · exact ih q1 q2.abs (hds.mono fun _ _ h => q2.dv h) v hv
          exact key h1 ha hdv
        have hxl : xs.length = len := by rw [k1]; simp; have := congrArg List.length hidx; simpa using this
        have hfl : ((parts.toList.map fun p => a.eval p.2).flatMap fun v => v.cells.toList).length = len * τ.sz := by rw [RepL.length (fun _ _ h => RepC.length h) k2, hxl]
        have hj0' : j.sz ≠ 0 := by intro e; rw [e] at hj0; simp at hj0
        -- the row that is made
        have hrun : ∃ ov : Array Value, (Instr.buildSlice t len (parts.map fun (n, x) => (n, a.eval x))).run P w = .ok (.slice (some ⟨w.heap.size, 0, none⟩) len len) (w.alloc (.cells ov e)) ∧
            ov.toList = (parts.toList.map fun p => a.eval p.2).flatMap fun v => v.cells.toList := by
          by_cases h0 : len = 0
          · subst h0
            have hp0 : parts = #[] := by
              have := hpl.1
              simpa using this
            subst hp0
            exact ⟨#[], by simp [Instr.buildSlice, run_underlying hut, run_sizeOf_lay hlay hje, Instr.fill, newRow]; rw [show Array.range 0 = #[] from rfl]; simp, rfl⟩
          · obtain ⟨ov, m1, m2⟩ := fill_row j.sz (parts.toList.map fun p => a.eval p.2) 0 ((Array.range (len * j.sz)).map (j.zero.cells[· % j.zero.cells.size]!)) [] (fun v hv => by rw [← hsz]; exact hcl v hv) (by simp) (by simp) (by simp [hpl.1])
            refine ⟨ov, run_buildSlice w t e len _ ov ie j.zero hut f1 f2 ?_ ?_ ?_, by simpa using m2⟩
            · rw [f3]
              have : len * j.sz ≤ 65536 * 200 := Nat.mul_le_mul hlen hjs
              omega
            · rw [f3]; exact fun h => (Nat.mul_eq_zero.1 h).elim h0 hj0'
            · rw [hpl.2, f3]; exact m1
        obtain ⟨ov, hr1, hr2⟩ := hrun
        have ag : Abs E G1 L1 a (w.alloc (.cells ov e)) := a1.abs.grown (World.grownBy_alloc w _ none) (by simp)
        have hown : (w.alloc (.cells ov e)).ownsRow 0 e τ.sz (.slice (some ⟨w.heap.size, 0, none⟩) len len) xs.length ((parts.toList.map fun p => a.eval p.2).flatMap fun v => v.cells.toList) := by
          refine ⟨by rw [hfl, hxl], .inr ⟨w.heap.size, len, ov, by rw [hxl], Nat.zero_le _, heap_alloc_new w _, by omega, by simp only [maxLen]; omega, ?_, ?_⟩⟩
          · rw [← Array.length_toList, hr2, hfl]
          · rw [hr2, List.take_of_length_le (Nat.le_of_eq (by rw [hfl, hxl]))]
        obtain ⟨G2, h3⟩ := newVec_ok h2 ag hn hown (k2.mono fun _ _ h => RepC.mono ⟨fun _ h => h, fun b hb => Below.heap_alloc w _ b (a1.abs.heap.sealed b hb)⟩ h) (fun b hb => by
          cases hb
          exact ⟨.inl a1.abs.heap.base_le, fun h => Nat.lt_irrefl _ (a1.abs.heap.sealed _ h), fun j h => Nat.lt_irrefl _ (a1.abs.heap.own_lt h)⟩)
        refine wp_value ?_ (hK _ _ _ h3)
        simp only [execOp, ho, Sem.run_bind, hr1, Result.andThen_ok]
        rfl

end
end Go.Proofs.YtllhidkadhoipaaDoor.Ab
