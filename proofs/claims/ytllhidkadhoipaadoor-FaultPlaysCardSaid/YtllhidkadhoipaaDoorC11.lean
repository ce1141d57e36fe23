/- Each operation of the model does what its abstract one does: parts of texts and slices, numbers. For every program whose types are as told. -/
import Derived.Test.YtllhidkadhoipaaDoorC10
import Derived.Laws.Concat
import Derived.Laws.Small
namespace Go.Proofs.YtllhidkadhoipaaDoor.Ab
open Go Go.RowKit

section
variable {P : Program} {Γ : FuncId → List D → D → Prop} {E : Env} {G : Gh} {L L' : Mem} {a : Act} {w : World} {rs ws : List Loc} {lay : Lay} {o : Oper}

theorem RepL.drop {α : Type} {R : α → List Value → Prop} {n : Nat} (h : ∀ x cs, R x cs → cs.length = n) : ∀ (k : Nat) {xs : List α} {cs}, RepL R xs cs → RepL R (xs.drop k) (cs.drop (k * n))
  | 0, xs, cs, hh => by simpa using hh
  | k + 1, [], cs, hh => by cases hh; simp [RepL]
  | k + 1, x :: xs, _, ⟨c, d, e, r, rest⟩ => by
    subst e
    have hl := h _ _ r
    rw [List.drop_succ_cons, show (k + 1) * n = c.length + k * n by rw [Nat.succ_mul, hl]; omega, List.drop_append]
    simp only [List.drop_eq_nil_of_le (show c.length ≤ c.length + k * n by omega), List.nil_append, Nat.add_sub_cancel_left]
    exact RepL.drop h k rest

theorem RepL.take {α : Type} {R : α → List Value → Prop} {n : Nat} (h : ∀ x cs, R x cs → cs.length = n) : ∀ (k : Nat) {xs : List α} {cs}, RepL R xs cs → RepL R (xs.take k) (cs.take (k * n))
  | 0, xs, cs, hh => by simp [RepL]
  | k + 1, [], cs, hh => by cases hh; simp [RepL]
  | k + 1, x :: xs, _, ⟨c, d, e, r, rest⟩ => by
    subst e
    have hl := h _ _ r
    rw [List.take_succ_cons, show (k + 1) * n = c.length + k * n by rw [Nat.succ_mul, hl]; omega, List.take_append]
    simp only [List.take_of_length_le (show c.length ≤ c.length + k * n by omega), Nat.add_sub_cancel_left]
    exact ⟨c, _, rfl, r, RepL.take h k rest⟩

theorem evBound_ok {x : Option Operand} {d : Int} {k : Int → Pr} (h : Run Γ (evBound x d k) L L' rs ws) (ha : Abs E G L a w) :
    ∃ n rs', Run Γ (k n) L L' rs' ws ∧ ((x.map a.eval = none ∧ n = d) ∨ ∃ kd, x.map a.eval = some (.int kd n)) := by
  cases x with
  | none => exact ⟨d, rs, h, .inl ⟨rfl, rfl⟩⟩
  | some o =>
    obtain ⟨d', rs1, h1, hd⟩ := evO_ok h ha
    split at h1
    · rename_i kd n
      exact ⟨n, rs1, h1, .inr ⟨kd, by simp [DV_int hd]⟩⟩
    · cases h1

theorem run_bounds (isS : Bool) (len cap : Nat) {lo hi : Option Value} {l h : Int} (hl : (lo = none ∧ l = 0) ∨ ∃ k, lo = some (.int k l)) (hh : (hi = none ∧ h = (len : Int)) ∨ ∃ k, hi = some (.int k h))
    (h0 : 0 ≤ l) (h1 : l ≤ h) (h2 : h ≤ (len : Int)) (hc : len ≤ cap) (w : World) : (Instr.sliceBounds isS len cap lo hi none).run P w = .ok (l.toNat, h.toNat, cap) w := by
  have eh : (h.toNat : Int) = h := Int.toNat_of_nonneg (by omega)
  have e1 : 0 ≤ h := by omega
  have e2 : h ≤ (cap : Int) := by omega
  have e3 : l ≤ (len : Int) := by omega
  have e4 : l ≤ (h.toNat : Int) := by omega
  rcases hl with ⟨rfl, rfl⟩ | ⟨k, rfl⟩ <;> rcases hh with ⟨rfl, rfl⟩ | ⟨k', rfl⟩
  · simp [Instr.sliceBounds]
  · simp [Instr.sliceBounds, run_sliceBound, e1, e2]
  · simp [Instr.sliceBounds, run_sliceBound, h0, e3]
  · have e5 := run_sliceBound (P := P) w k l h.toNat .sliceB h0 e4
    simp [Instr.sliceBounds, run_sliceBound, e1, e2, e5]

theorem cutB_ok {l h : Int} {n : Nat} (hb : cutB l h n = true) : 0 ≤ l ∧ l ≤ h ∧ h ≤ (n : Int) := by simpa [cutB, and_assoc] using hb

theorem op_slice (hlay : LayOK P lay) {t : TypeId} {x : Operand} {lo hi mx : Option Operand} (ho : o.op = .slice t x lo hi mx) (h : Run Γ (opPr lay o) L L' rs ws) (ha : Abs E G L a w) (hn : ∀ n, o.dst = some n → n < E.N) : OpOK P E L' o a w := by
  intro K Q hK
  simp only [opPr, ho] at h
  cases mx with
  | some _ => cases h
  | none =>
    obtain ⟨d, rs1, h1, hd⟩ := evO_ok h ha
    cases hi' : lay t with
    | none => rw [hi'] at h1; cases h1
    | some li =>
      rw [hi'] at h1
      simp only at h1
      have hu := hlay.und t li hi'
      split at h1
      · rename_i hdesc
        rw [hdesc] at hu
        split at h1
        case h_2 => cases h1
        rename_i s
        obtain ⟨l, rs2, h2, hl⟩ := evBound_ok h1 ha
        obtain ⟨hh, rs3, h3, hhh⟩ := evBound_ok h2 ha
        cases h3 with
        | gd hb h3 =>
          obtain ⟨c0, c1, c2⟩ := cutB_ok hb
          have hv := DV_str hd
          refine wp_value (w' := w) ?_ (hK _ _ _ (putD_ok h3 ha hn (dv_str _)))
          have hr := run_bounds (P := P) false s.length s.length hl hhh c0 c1 c2 (Nat.le_refl _) w
          simp only [execOp, ho, hv, Instr.sliceAt, Instr.slice, Sem.run_bind, run_underlying hu, Result.andThen_ok, Option.map_none, Option.isSome_none, Bool.false_eq_true, if_false]
          rw [show (⟨s.toArray⟩ : ByteArray).size = s.length from rfl, hr]
          simp [ByteArray.extract_mk, strV]
      · rename_i e hdesc
        rw [hdesc] at hu
        cases hj : lay e with
        | none => rw [hj] at h1; cases h1
        | some j =>
          rw [hj] at h1
          simp only at h1
          have sealedCut : ∀ {G : Gh} {L : Mem} {τ : Ty} {xs : List τ.I} {rs ws : List Loc}, Abs E G L a w → SlRep G.S w (RepC G.S w τ) xs (a.eval x) → Run Γ (evBound lo 0 fun l => evBound hi (xs.length : Int) fun h => .gd (cutB l h xs.length && Nat.beq τ.sz j.sz) (putD o.dst (.val (.slice τ) ((xs.drop l.toNat).take (h.toNat - l.toNat))))) L L' rs ws → o.wp P a w K Q := by
            intro G L τ xs rs0 ws ha hsl h1
            obtain ⟨l, rs2, h2, hl⟩ := evBound_ok h1 ha
            obtain ⟨hh, rs3, h3, hhh⟩ := evBound_ok h2 ha
            cases h3 with
            | gd hb h3 =>
              simp only [Bool.and_eq_true] at hb
              obtain ⟨hb, hsz⟩ := hb
              have hsz := beq_nat hsz
              obtain ⟨c0, c1, c2⟩ := cutB_ok hb
              have hform : ∃ A cap, a.eval x = .slice A xs.length cap ∧ xs.length ≤ cap := by
                rcases hsl with ⟨e1, rfl⟩ | ⟨p, cap, cs, e1, hc, _⟩
                · exact ⟨none, 0, e1, Nat.le_refl _⟩
                · exact ⟨some p, cap, e1, hc⟩
              obtain ⟨A, cap, hv, hcap⟩ := hform
              have hr := run_bounds (P := P) true xs.length cap hl hhh c0 c1 c2 hcap w
              have hlen : ((xs.drop l.toNat).take (hh.toNat - l.toNat)).length = hh.toNat - l.toNat := by simp; omega
              have hnew : SlRep G.S w (RepC G.S w τ) ((xs.drop l.toNat).take (hh.toNat - l.toNat)) (.slice (if cap = l.toNat then A else A.map (·.add (l.toNat * j.sz))) (hh.toNat - l.toNat) (cap - l.toNat)) := by
                rcases hsl with ⟨e1, rfl⟩ | ⟨p, cap', cs, e1, hc, hrl, hcell⟩
                · rw [hv] at e1
                  cases e1
                  refine .inl ⟨?_, by simp⟩
                  simp at c1 c2
                  have : hh.toNat = 0 := by omega
                  simp [this]
                · rw [hv] at e1
                  cases e1
                  have hfull := RepL.take (fun _ _ h => RepC.length h) (hh.toNat - l.toNat) (RepL.drop (fun _ _ h => RepC.length h) l.toNat hrl)
                  by_cases hcl : cap = l.toNat
                  · refine .inr ⟨p, cap - l.toNat, [], ?_, by omega, ?_, by simp⟩
                    · rw [hlen]; simp [hcl]
                    · have : ((xs.drop l.toNat).take (hh.toNat - l.toNat)) = [] := List.eq_nil_of_length_eq_zero (by rw [hlen]; omega)
                      rw [this]; rfl
                  · refine .inr ⟨p.add (l.toNat * j.sz), cap - l.toNat, _, ?_, by omega, hfull, fun q u hq => ?_⟩
                    · rw [hlen]; simp [hcl]
                    · rw [List.getElem?_take] at hq
                      split at hq
                      · rw [List.getElem?_drop, hsz] at hq
                        have := hcell _ u hq
                        rw [add_add, add_block]
                        exact this
                      · cases hq
              refine wp_value (w' := w) ?_ (hK _ _ _ (putD_ok h3 ha hn (dv_slice hnew)))
              simp only [execOp, ho, hv, Instr.sliceAt, Instr.slice, Sem.run_bind, run_underlying hu, Result.andThen_ok, Option.map_none, hr, run_sizeOf_lay hlay hj]
              rfl
          split at h1
          case h_3 => cases h1
          · rename_i id g
            have hd1 := DV_one rfl hd (by simp) (by simp) (by simp)
            cases hcut : lay.cut with
            | true =>
              rw [hcut, cond_true] at h1
              obtain ⟨d', G1, L1, rs1, ws1, k1, k2, k3, _⟩ := sealCell_ok h1 ha hd1
              split at k1
              · rename_i τ xs
                exact sealedCut k2.abs (DV_slice (DC1.dw k3 rfl)) k1
              · cases k1
            | false =>
            rw [hcut, cond_false] at h1
            cases h1 with
            | rd h1 =>
              revert h1
              dsimp only
              split
              case h_3 => intro h1; cases h1
              case h_2 =>
                rename_i g' τ xs hob
                intro h1
                cases h1 with
                | gd hb h1 =>
                  have hg := beq_nat hb
                  subst hg
                  obtain ⟨_, c, hc, _, hp⟩ := hd1
                  rw [hob] at hc
                  cases hc
                  have hv : a.eval x = G.vv id := hp rfl
                  exact sealedCut ha (by rw [hv]; exact ha.heap.sl id g τ xs hob) h1
              rename_i g' e' τ xs hob
              intro h1
              cases h1 with
              | gd hb h1 =>
                simp only [Bool.and_eq_true] at hb
                obtain ⟨hg, hlo⟩ := hb
                have hg := beq_nat hg
                subst hg
                cases lo with
                | some _ => cases hlo
                | none =>
                obtain ⟨hh, rs3, h3, hhh⟩ := evBound_ok h1 ha
                cases h3 with
                | gd hb h3 =>
                  obtain ⟨_, c1, c2⟩ := cutB_ok hb
                  cases h3 with
                  | wr h3 =>
                    obtain ⟨_, c, hc, _, hp⟩ := hd1
                    rw [hob] at hc
                    cases hc
                    have hv : a.eval x = G.vv id := hp rfl
                    obtain ⟨cs, hown, hrl⟩ := ha.heap.vec id g e' τ xs hob
                    obtain ⟨A, cap, hvv, hcap, hnew⟩ : ∃ A cap, G.vv id = .slice A xs.length cap ∧ xs.length ≤ cap ∧ w.ownsRow 0 e' τ.sz (.slice A hh.toNat cap) (xs.take hh.toNat).length (cs.take (hh.toNat * τ.sz)) ∧ (Value.slice A hh.toNat cap).ownBlock = (G.vv id).ownBlock := by
                      have hl1 : (xs.take hh.toNat).length = hh.toNat := by simp; omega
                      have hcl := hown.1
                      have hle : hh.toNat * τ.sz ≤ xs.length * τ.sz := Nat.mul_le_mul_right _ (by omega)
                      rcases hown.2 with ⟨e1, h0⟩ | ⟨b, cap, cur, e1, hb0, hblk, hc1, hc2, hc3, hc4⟩
                      · rw [h0] at c2
                        have h00 : hh.toNat = 0 := by omega
                        refine ⟨none, 0, by rw [e1, h0], by omega, ⟨?_, .inl ⟨by rw [h00], by rw [hl1, h00]⟩⟩, by rw [e1]; rfl⟩
                        rw [hl1, h00]; simp
                      · refine ⟨some ⟨b, 0, none⟩, cap, e1, hc1, ⟨?_, .inr ⟨b, cap, cur, by rw [hl1], hb0, hblk, by rw [hl1]; omega, hc2, hc3, ?_⟩⟩, by rw [e1]; rfl⟩
                        · rw [hl1, List.length_take, hcl, Nat.min_eq_left hle]
                        · rw [hl1, ← hc4, List.take_take, Nat.min_eq_left hle]
                    obtain ⟨hnew, hsame⟩ := hnew
                    have hidown : ownB G L id = (G.vv id).ownBlock := ownB_some hob
                    obtain ⟨G1, a1, hG1, hs1, hk1⟩ := ha.newVec (n := id) (g := g + 1) (fun c0 h0 => by rw [hob] at h0; cases h0; exact Nat.lt_succ_self g) hnew (RepL.take (fun _ _ h => RepC.length h) hh.toNat hrl) (fun b hb => by
                      rw [hsame] at hb
                      have k := ha.heap.own id b (hidown.trans hb)
                      exact ⟨k.1, k.2, fun j hj h => ha.heap.apart j id b hj h (hidown.trans hb)⟩)
                    have hr := run_bounds (P := P) true xs.length cap (lo := none) (l := 0) (.inl ⟨rfl, rfl⟩) hhh (Int.le_refl 0) c1 c2 hcap w
                    have hdv : DV G1 (upd L (.obj id) (.vec (g + 1) e' τ (xs.take hh.toNat))) w (.vec id (g + 1)) (.slice A hh.toNat cap) :=
                      ⟨[_], ⟨_, rfl, rfl, ⟨.vec (g + 1) e' τ (xs.take hh.toNat), by simp [upd], Nat.le_refl _, fun _ => hG1.symm⟩⟩, rfl, rfl⟩
                    refine wp_value (w' := w) ?_ (hK _ _ _ (putD_ok h3 a1 hn hdv))
                    simp only [execOp, ho, hv, hvv, Instr.sliceAt, Instr.slice, Sem.run_bind, run_underlying hu, Result.andThen_ok, Option.map_none, hr, run_sizeOf_lay hlay hj]
                    have e0 : (if cap = Int.toNat 0 then A else A.map fun y => y.add (Int.toNat 0 * j.sz)) = A := by
                      split
                      · rfl
                      · cases A <;> simp [add_zero]
                    rw [e0]
                    simp
          rename_i τ xs
          exact sealedCut ha (DV_slice hd) h1
      · cases h1

theorem intB_ok {op : BinOp} {k : IntKind} {x y : Int} {b : Bool} {d : D} (h : intB op k x y = some (b, d)) (hb : b = true) (t : TypeId) : ∃ v, (binOp op t (.int k x) (.int k y)).run P w = .ok v w ∧ DV G L w d v := by
  cases op <;> simp only [intB, Option.some.injEq, Prod.mk.injEq, reduceCtorEq] at h <;> obtain ⟨rfl, rfl⟩ := h
  case add => exact ⟨.int k (k.wrap (x + y)), by simp [binOp, Op.intArith], dv_int _ _⟩
  case sub => exact ⟨.int k (k.wrap (x - y)), by simp [binOp, Op.intArith], dv_int _ _⟩
  case mul => exact ⟨.int k (k.wrap (x * y)), by simp [binOp, Op.intArith], dv_int _ _⟩
  case quo =>
    have hy : y ≠ 0 := by simpa using hb
    exact ⟨.int k (k.wrap (x.tdiv y)), by simp [binOp, Op.intDiv, hy], dv_int _ _⟩
  case rem =>
    have hy : y ≠ 0 := by simpa using hb
    exact ⟨.int k (x.tmod y), by simp [binOp, Op.intDiv, hy], dv_int _ _⟩
  case eql => exact ⟨.bool (x == y), by simp [binOp, Op.intCmp], dv_bool _⟩
  case neq => exact ⟨.bool (x != y), by simp [binOp, Op.intCmp], dv_bool _⟩
  case lss => exact ⟨.bool (decide (x < y)), by simp [binOp, Op.intCmp], dv_bool _⟩
  case leq => exact ⟨.bool (decide (x ≤ y)), by simp [binOp, Op.intCmp], dv_bool _⟩
  case gtr => exact ⟨.bool (decide (x > y)), by simp [binOp, Op.intCmp], dv_bool _⟩
  case geq => exact ⟨.bool (decide (x ≥ y)), by simp [binOp, Op.intCmp], dv_bool _⟩
  case and => exact ⟨.int k _, by simp only [binOp, Op.intBits, ne_eq, not_true_eq_false, if_false]; rfl, dv_int _ _⟩
  case or => exact ⟨.int k _, by simp only [binOp, Op.intBits, ne_eq, not_true_eq_false, if_false]; rfl, dv_int _ _⟩
  case xor => exact ⟨.int k _, by simp only [binOp, Op.intBits, ne_eq, not_true_eq_false, if_false]; rfl, dv_int _ _⟩
  case andNot => exact ⟨.int k _, by simp only [binOp, Op.intBits, ne_eq, not_true_eq_false, if_false]; rfl, dv_int _ _⟩

theorem shiftB_ok {op : BinOp} {k k' : IntKind} {x y : Int} {b : Bool} {d : D} (h : shiftB op k x y = some (b, d)) (hb : b = true) (t : TypeId) : ∃ v, (binOp op t (.int k x) (.int k' y)).run P w = .ok v w ∧ DV G L w d v := by
  cases op <;> simp only [shiftB, Option.some.injEq, Prod.mk.injEq, reduceCtorEq] at h <;> obtain ⟨rfl, rfl⟩ := h
  case shl =>
    have hy : ¬ y < 0 := by have := of_decide_eq_true hb; omega
    exact ⟨.int k (k.wrap (x * 2 ^ (min y.toNat k.bits))), by simp [binOp, Op.shift, hy], dv_int _ _⟩
  case shr =>
    have hy : ¬ y < 0 := by have := of_decide_eq_true hb; omega
    exact ⟨.int k (x.fdiv (2 ^ (min y.toNat k.bits))), by simp [binOp, Op.shift, hy], dv_int _ _⟩

theorem strB_ok {op : BinOp} {x y : List UInt8} {b : Bool} {d : D} (h : strB op x y = some (b, d)) (hb : b = true) (t : TypeId) : ∃ v, (binOp op t (strV x) (strV y)).run P w = .ok v w ∧ DV G L w d v := by
  cases op <;> simp only [strB, Option.some.injEq, Prod.mk.injEq, reduceCtorEq] at h <;> obtain ⟨rfl, rfl⟩ := h
  case add =>
    refine ⟨strV (x ++ y), ?_, dv_str _⟩
    have hle : (ByteArray.mk x.toArray).size + (ByteArray.mk y.toArray).size ≤ 9223372036854775807 := of_decide_eq_true hb
    simp only [strV, binOp]
    rw [run_string_add_sum w _ _ hle, ByteArray.mk_append_mk]
  case eql => exact ⟨.bool (x == y), by simp [binOp, Op.stringOp], dv_bool _⟩
  case neq => exact ⟨.bool (!(x == y)), by simp [binOp, Op.stringOp], dv_bool _⟩
  case lss => exact ⟨.bool (Op.bytesLess x y), by simp [binOp, Op.stringOp], dv_bool _⟩
  case geq => exact ⟨.bool (!(Op.bytesLess x y)), by simp [binOp, Op.stringOp], dv_bool _⟩
  case leq => exact ⟨.bool (Op.bytesLess x y || x == y), by simp [binOp, Op.stringOp], dv_bool _⟩
  case gtr => exact ⟨.bool (!(Op.bytesLess x y || x == y)), by simp [binOp, Op.stringOp], dv_bool _⟩

theorem boolB_ok {op : BinOp} {x y : Bool} {b : Bool} {d : D} (h : boolB op x y = some (b, d)) (t : TypeId) (ht : P.underlying t = some .bool) : ∃ v, (binOp op t (.bool x) (.bool y)).run P w = .ok v w ∧ DV G L w d v := by
  cases op <;> simp only [boolB, Option.some.injEq, Prod.mk.injEq, reduceCtorEq] at h <;> obtain ⟨rfl, rfl⟩ := h
  · exact ⟨.bool (x == y), run_eql_bool w t x y ht, dv_bool _⟩
  · exact ⟨.bool (!(x == y)), run_neq_bool w t x y ht, dv_bool _⟩

theorem op_unOp {op : UnOp} {t : TypeId} {x : Operand} (ho : o.op = .unOp op t x) (h : Run Γ (opPr lay o) L L' rs ws) (ha : Abs E G L a w) (hn : ∀ n, o.dst = some n → n < E.N) : OpOK P E L' o a w := by
  intro K Q hK
  simp only [opPr, ho] at h
  obtain ⟨d, rs1, h1, hd⟩ := evO_ok h ha
  unfold unB at h1
  split at h1
  · rename_i k n
    have hv := DV_int hd
    refine wp_value (w' := w) ?_ (hK _ _ _ (putD_ok h1 ha hn (dv_int _ _)))
    simp [execOp, ho, hv, Op.unary, Op.intArith]
  · rename_i b
    have hv := DV_bool hd
    refine wp_value (w' := w) ?_ (hK _ _ _ (putD_ok h1 ha hn (dv_bool _)))
    simp [execOp, ho, hv, Op.unary]
  · cases h1

theorem op_nilCheck {x : Operand} (ho : o.op = .nilCheck x) (h : Run Γ (opPr lay o) L L' rs ws) (ha : Abs E G L a w) (hn : ∀ n, o.dst = some n → n < E.N) : OpOK P E L' o a w := by
  intro K Q hK
  simp only [opPr, ho] at h
  obtain ⟨d, rs1, h1, hd⟩ := evO_ok h ha
  split at h1
  · rename_i id g off
    have hd1 := DV_one rfl hd (by simp) (by simp) (by simp)
    cases h1 with
    | rd h1 =>
      revert h1
      dsimp only
      split
      · rename_i g' n0 hl
        intro h1
        cases h1 with
        | gd hb h1 =>
          have := beq_nat hb
          subst this
          have hp := ptr_at hd1 hl
          refine wp_value (w' := w) (v := a.eval x) ?_ (hK _ _ _ (putD_ok h1 ha hn (hp ▸ dv_ptr hl)))
          simp [execOp, ho, hp]
      · rename_i g' τ y hl
        intro h1
        cases h1 with
        | gd hb h1 =>
          simp only [Bool.and_eq_true] at hb
          have := beq_nat hb.1
          subst this
          have h0 := beq_nat hb.2
          subst h0
          obtain ⟨_, c, hc, _, hp⟩ := hd1
          rw [hl] at hc
          cases hc
          have hp : a.eval x = .pointer (some ⟨G.blk id, 0, none⟩) := hp rfl
          rcases ha.heap.obj id _ hl with ⟨k, _⟩ | ⟨q, ds, z, k1, k2, k3, k4⟩
          · cases k
          · cases k1; cases k2
            refine wp_value (w' := w) (v := a.eval x) ?_ (hK _ _ _ (putD_ok h1 ha hn (DC1.dw ⟨_, ds, by rw [hp, add_zero], k3, k4⟩ rfl)))
            simp [execOp, ho, hp]
      · intro h1; cases h1
  · rename_i id g i off
    have hd1 := DV_one rfl hd (by simp) (by simp) (by simp)
    cases h1 with
    | rd h1 =>
      revert h1
      dsimp only
      have fin : ∀ {τ : Ty} {xs : List τ.I} {rs2 : List Loc}, (∃ e, L (.obj id) = some (.vec g e τ xs)) ∨ L (.obj id) = some (.sl g τ xs) → Run Γ (putD o.dst (.eptr id g i off)) L L' rs2 ws → o.wp P a w K Q := by
        intro τ xs rs2 ho' h1
        obtain ⟨_, p, ds, hv, _, _⟩ := eptr_ok ha.heap hd1 ho'
        refine wp_value (w' := w) (v := a.eval x) ?_ (hK _ _ _ (putD_ok h1 ha hn hd))
        simp [execOp, ho, hv]
      split
      · rename_i g' e τ xs hl
        intro h1
        cases h1 with
        | gd hb h1 =>
          have := beq_nat hb
          subst this
          exact fin (.inl ⟨_, hl⟩) h1
      · rename_i g' τ xs hl
        intro h1
        cases h1 with
        | gd hb h1 =>
          have := beq_nat hb
          subst this
          exact fin (.inr hl) h1
      · intro h1; cases h1
  · rename_i τ y off
    obtain ⟨p, ds, hv, hr, hc⟩ := DV_one rfl hd (by simp) (by simp) (by simp)
    refine wp_value (w' := w) (v := a.eval x) ?_ (hK _ _ _ (putD_ok h1 ha hn hd))
    simp [execOp, ho, hv]
  · rename_i τ p
    cases h1 with
    | gd hb h1 =>
      obtain ⟨cs, ⟨v, rfl, hr⟩, hw⟩ := hd
      obtain ⟨hw1, _⟩ : [v] = [a.eval x] ∧ _ := hw
      cases hw1
      rcases hr with ⟨_, rfl⟩ | ⟨q, ds, z, k1, rfl, k3, k4⟩
      · cases hb
      · refine wp_value (w' := w) (v := a.eval x) ?_ (hK _ _ _ (putD_ok h1 ha hn (DC1.dw ⟨_, ds, by rw [k1, add_zero], k3, k4⟩ rfl)))
        simp [execOp, ho, k1]
  · cases h1

theorem op_makeFunc {fn : Fn} {first captured : Array Operand} (ho : o.op = .makeFunc fn first captured) (h : Run Γ (opPr lay o) L L' rs ws) (ha : Abs E G L a w) (hn : ∀ n, o.dst = some n → n < E.N) : OpOK P E L' o a w := by
  intro K Q hK
  simp only [opPr, ho] at h
  split at h
  · rename_i f
    cases h with
    | gd hb h =>
      obtain ⟨ds, rs1, h1, hds⟩ := evOs_ok h ha
      cases h1 with
      | gd hat h1 =>
        have hf : first = #[] := by simpa using hb
        subst hf
        have key : ∀ {ds : List D} {vs : List Value}, All2 (DV G L w) ds vs → ds.all D.atom = true → All2 (DA G L w) ds vs := by
          intro ds vs h
          induction h with
          | nil => exact fun _ => .nil
          | @cons d v l m hd _ ih =>
            intro hall
            simp only [List.all_cons, Bool.and_eq_true] at hall
            refine .cons ?_ (ih hall.2)
            cases d with
            | val τ x =>
              obtain ⟨cs, h1, h2⟩ := hd
              have hA : τ.isAgg = false := by simpa [D.atom] using hall.1
              unfold wrapV at h2
              rw [show D.isAgg (.val τ x) = τ.isAgg from rfl, hA] at h2
              obtain ⟨rfl, _⟩ : cs = [v] ∧ _ := h2
              exact h1
            | undef => cases hall.1
            | clo _ _ => cases hall.1
            | ifc _ _ => cases hall.1
            | agg _ => cases hall.1
            | tup _ => cases hall.1
            | raw u => exact DV_one rfl hd (by simp) (by simp) (by simp)
            | ptr _ _ _ => exact DV_one rfl hd (by simp) (by simp) (by simp)
            | vec _ _ => exact DV_one rfl hd (by simp) (by simp) (by simp)
            | eptr _ _ _ _ => exact DV_one rfl hd (by simp) (by simp) (by simp)
            | sptr _ _ _ => exact DV_one rfl hd (by simp) (by simp) (by simp)
            | mp _ _ => exact DV_one rfl hd (by simp) (by simp) (by simp)
            | itr _ _ => exact DV_one rfl hd (by simp) (by simp) (by simp)
        refine wp_value (w' := w) (v := .func (.func f) #[] (captured.map a.eval)) ?_ (hK _ _ _ (putD_ok h1 ha hn ⟨[_], ⟨_, rfl, (captured.toList.map a.eval), ?_, key hds hat⟩, rfl, rfl⟩))
        · simp [execOp, ho, Instr.makeFunc]
        · rw [← Array.toList_map, Array.toArray_toList]
  · cases h

end
end Go.Proofs.YtllhidkadhoipaaDoor.Ab
