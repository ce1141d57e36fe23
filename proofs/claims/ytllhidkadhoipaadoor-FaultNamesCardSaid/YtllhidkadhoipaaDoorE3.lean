/- A place in an array, by a number that is not known ahead. For every program whose types are as told. -/
import Derived.Test.YtllhidkadhoipaaDoorD3
namespace Go.Proofs.YtllhidkadhoipaaDoor.Ab
open Go Go.RowKit
set_option linter.unusedSimpArgs false
set_option linter.unusedVariables false

section
variable {P : Program} {Γ : FuncId → List D → D → Prop} {E : Env} {G : Gh} {L L' : Mem} {a : Act} {w : World} {rs ws : List Loc} {lay : Lay} {o : Oper}

theorem arrAddr_ok (hlay : LayOK P lay) {t : TypeId} {x i : Operand} {d : D} {k : IntKind} {n : Int} (ho : o.op = .indexAddr t x i) (hiv : a.eval i = .int k n) (hd : DV G L w d (a.eval x)) (h2 : Run Γ (arrAddr lay o.dst t d n) L L' rs ws) (ha : Abs E G L a w) (hn : ∀ n, o.dst = some n → n < E.N) : OpOK P E L' o a w := by
  intro K Q hK
  simp only [arrAddr] at h2
  split at h2
  · rename_i li hli
    split at h2
    · rename_i m e hdesc
      split at h2
      · rename_i j hj
        split at h2
        · rename_i τ hτ
          obtain ⟨G1, L1, rs3, ws3, h3, a3⟩ := prepV_ok h2 ha
          obtain ⟨y, is, rs4, cs, h4, hown, hw⟩ := lookV_ok a3.abs h3 (a3.dv hd)
          have hw : cs = [a.eval x] ∧ _ := hw
          obtain ⟨rfl, _⟩ := hw
          obtain ⟨⟨v, hv, href⟩, _⟩ := hown
          have hv : a.eval x = v := by simpa using hv
          cases y with
          | none => cases h4
          | some xs =>
            simp only at h4
            cases h4 with
            | gd hb h4 =>
              simp only [Bool.and_eq_true] at hb
              have hin := inB_ok hb.1
              have hsz := beq_nat hb.2
              rcases href with ⟨_, e0⟩ | ⟨p, cells, z, e1, e2, hrep, hcell⟩
              · cases e0
              · cases e2
                obtain ⟨hxl, hrl⟩ := hrep
                have hnl : n.toNat < xs.length := by omega
                obtain ⟨ds, q1, q2⟩ := RepL.get (fun _ _ h => RepC.length h) n.toNat (xs.getD n.toNat τ.dflt) hrl (by simp [List.getD, List.getElem?_eq_getElem hnl])
                have hdv : DV G1 L1 w (.sptr τ (xs.getD n.toNat τ.dflt) 0) (.pointer (some (p.add (n.toNat * τ.sz)))) := by
                  refine ⟨[_], ⟨_, rfl, p.add (n.toNat * τ.sz), ds, by rw [add_add, Nat.add_zero], q1, fun j u hj => ?_⟩, rfl, rfl⟩
                  have hjl : j < τ.sz := by rw [← RepC.length q1]; exact (List.getElem?_eq_some_iff.1 hj).1
                  have := hcell (n.toNat * τ.sz + j) u (by rw [q2 j hjl]; exact hj)
                  rw [add_add, add_block]
                  exact this
                have hut := hlay.und t li hli
                rw [hdesc] at hut
                refine wp_value (w' := w) (v := .pointer (some (p.add (n.toNat * τ.sz)))) ?_ (hK _ _ _ (putD_ok h4 a3.abs hn hdv))
                rw [hsz]
                simp [execOp, ho, hiv, hv, e1, Instr.indexAt, run_underlying hut, asIntOf, Instr.sureAddr, hin, run_sizeOf_lay hlay hj]
        · cases h2
      · cases h2
    · cases h2
  · cases h2

theorem arrAt_ok (hlay : LayOK P lay) {t : TypeId} {x i : Operand} {d : D} {k : IntKind} {n : Int} (ho : o.op = .indexAddr t x i) (hiv : a.eval i = .int k n) (hd : DV G L w d (a.eval x)) (h2 : Run Γ (arrAt lay o.dst t d n) L L' rs ws) (ha : Abs E G L a w) (hn : ∀ n, o.dst = some n → n < E.N) : OpOK P E L' o a w := by
  cases d with
  | ptr id g off =>
    simp only [arrAt] at h2
    split at h2
    · rename_i li hli
      split at h2
      · rename_i m e hdesc
        split at h2
        · rename_i j hj
          cases h2 with
          | rd h2 =>
            revert h2
            dsimp only
            split
            · rename_i g' n0 hl
              intro h2
              cases h2 with
              | gd hb h2 =>
                simp only [Bool.and_eq_true] at hb
                have hin := inB_ok hb.1
                have hg := beq_nat hb.2
                subst hg
                have hp := ptr_at (DV_one rfl hd (by simp) (by simp) (by simp)) hl
                have hut := hlay.und t li hli
                rw [hdesc] at hut
                intro K Q hK
                refine wp_value (w' := w) (v := .pointer (some ⟨G.blk id, off + n.toNat * j.sz, none⟩)) ?_ (hK _ _ _ (putD_ok h2 ha hn (dv_ptr hl)))
                simp [execOp, ho, hiv, hp, Instr.indexAt, run_underlying hut, asIntOf, Instr.sureAddr, hin, run_sizeOf_lay hlay hj, add_none]
            · intro h2
              exact arrAddr_ok hlay ho hiv hd h2 ha hn
        · cases h2
      · cases h2
    · cases h2
  | _ => exact arrAddr_ok hlay ho hiv hd (by simpa only [arrAt] using h2) ha hn

theorem op_indexAddr2 (hlay : LayOK P lay) {t : TypeId} {x i : Operand} (ho : o.op = .indexAddr t x i) (h : Run Γ (opPr lay o) L L' rs ws) (ha : Abs E G L a w) (hn : ∀ n, o.dst = some n → n < E.N) : OpOK P E L' o a w := by
  by_cases hne : sliceElem lay t = none
  · have h0 := h
    simp only [opPr, ho] at h
    obtain ⟨d, rs1, h1, hd⟩ := evO_ok h ha
    obtain ⟨di, rs2, h2, hdi⟩ := evO_ok h1 ha
    split at h2
    · rename_i k n
      have hiv := DV_int hdi
      rw [hne] at h2
      simp only at h2
      split at h2
      · exact arrAt_ok hlay ho hiv hd h2 ha hn
      · exact arrAddr_ok hlay ho hiv hd h2 ha hn
    · cases h2
  · exact op_indexAddr hlay ho hne h ha hn

end
end Go.Proofs.YtllhidkadhoipaaDoor.Ab
