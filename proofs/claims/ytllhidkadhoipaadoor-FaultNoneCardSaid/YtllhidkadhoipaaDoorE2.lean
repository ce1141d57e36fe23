/- Each operation of the model does what its abstract one does: loops over texts. For every program whose types are as told. -/
import Derived.Test.YtllhidkadhoipaaDoorE1
import Derived.Laws.RangeString
import Derived.Lib.OthersKept
namespace Go.Proofs.YtllhidkadhoipaaDoor.Ab
open Go Go.RowKit Go.Lib
set_option linter.unusedSimpArgs false
set_option linter.unusedVariables false

section
variable {P : Program} {Γ : FuncId → List D → D → Prop} {E : Env} {G : Gh} {L L' : Mem} {a : Act} {w : World} {rs ws : List Loc} {lay : Lay} {o : Oper}

theorem op_range (hlay : LayOK P lay) {t : TypeId} {x : Operand} (ho : o.op = .range t x) (h : Run Γ (opPr lay o) L L' rs ws) (ha : Abs E G L a w) (hn : ∀ n, o.dst = some n → n < E.N) : OpOK P E L' o a w := by
  intro K Q hK
  simp only [opPr, ho] at h
  obtain ⟨d, rs1, h1, hd⟩ := evO_ok h ha
  split at h1
  · rename_i i s hi
    cases h1 with
    | gd hb h1 =>
      have hst := isStrT_ok hlay hi hb
      have hv := DV_str hd
      split at h1
      · rename_i n hdst
        cases h1 with
        | rd h1 =>
          cases h1 with
          | wr h1 =>
            cases h1 with
            | wr h1 =>
              cases h1
              let G1 : Gh := { G with blk := fun j => if j = n + lay.ob then w.heap.size else G.blk j }
              have hbl : G1.blk (n + lay.ob) = w.heap.size := by simp [G1]
              have ag : Abs E G L a (w.iter ⟨s.toArray⟩ 0) := ha.grown (World.grownBy_alloc w _ none) (by simp)
              have key := ag.newObj (n := n + lay.ob) (c := .it (nextGen (L (.obj (n + lay.ob)))) s 0) (fun c hc => by rw [hc]; exact Nat.lt_succ_self _) (G1 := G1) rfl (fun j hj => ⟨by simp [G1, hj], rfl⟩)
                (by show (w.iter ⟨s.toArray⟩ 0).heap[G1.blk (n + lay.ob)]? = _; rw [hbl]; exact World.iter_heap w _ _)
                (fun b hb' => by
                  have : w.heap.size = b := by rw [← hbl]; exact Option.some.inj hb'
                  subst this
                  exact ⟨.inl ha.heap.base_le, fun h => Nat.lt_irrefl _ (ha.heap.sealed _ h), fun j h => Nat.lt_irrefl _ (ha.heap.own_lt h)⟩)
              have hput := key.abs.put (d := .itr (n + lay.ob) (nextGen (L (.obj (n + lay.ob))))) (v := .pointer (some ⟨w.heap.size, 0, none⟩)) (hn n hdst) ⟨[_], ⟨_, rfl, rfl, .it (nextGen (L (.obj (n + lay.ob)))) s 0, by simp [upd], Nat.le_refl _, fun _ => by simp [isItAt, hbl]⟩, rfl, rfl⟩
              refine wp_value (w' := w.iter ⟨s.toArray⟩ 0) (v := .pointer (some ⟨w.heap.size, 0, none⟩)) ?_ (hK _ _ _ (by rw [hdst]; exact hput))
              simp [execOp, ho, hv, run_range_string w t ⟨s.toArray⟩ hst]
      · cases h1
  · cases h1

theorem op_next {x : Operand} {isS : Bool} (ho : o.op = .next x isS) (h : Run Γ (opPr lay o) L L' rs ws) (ha : Abs E G L a w) (hn : ∀ n, o.dst = some n → n < E.N) : OpOK P E L' o a w := by
  intro K Q hK
  simp only [opPr, ho] at h
  obtain ⟨d, rs1, h1, hd⟩ := evO_ok h ha
  split at h1
  · rename_i id g
    obtain ⟨_, cc, hcc, _, hpp⟩ := DV_one rfl hd (by simp) (by simp) (by simp)
    cases h1 with
    | rd h1 =>
      revert h1
      dsimp only
      split
      · rename_i g' s pos hl
        intro h1
        cases h1 with
        | gd hb h1 =>
          simp only [Bool.and_eq_true] at hb
          obtain ⟨rfl, hg⟩ := hb
          have hg := beq_nat hg
          subst hg
          rw [hcc] at hl
          cases hl
          have hev : a.eval x = .pointer (some ⟨G.blk id, 0, none⟩) := hpp rfl
          have hheap : w.heap[G.blk id]? = some (.stringIter ⟨s.toArray⟩ pos) := ha.heap.obj id _ hcc
          have hsz : ByteArray.size ⟨s.toArray⟩ = s.length := by simp [ByteArray.size]
          have hown : ownB G L id = some (G.blk id) := ownB_some hcc
          cases h1 with
          | brT hlt h1 =>
            have hlt : pos < s.length := Nat.le_of_ble_eq_true hlt
            cases h1 with
            | wr h1 =>
              obtain ⟨w1, hw1⟩ : ∃ w1, w.iterAt (G.blk id) ⟨s.toArray⟩ (pos + (decR s pos).2) = w1 := ⟨_, rfl⟩
              have hrun := run_next_any_at (P := P) w (G.blk id) ⟨s.toArray⟩ pos o.type hheap (by rw [hsz]; exact hlt)
              have hlt2 : G.blk id < w.heap.size := (Array.getElem?_eq_some_iff.1 hheap).1
              have hg : w.grownBy w1 (some (G.blk id)) := by
                rw [← hw1]
                refine ⟨rfl, rfl, rfl, by simp [World.iterAt], fun k _ hk => ?_⟩
                show (w.heap.setIfInBounds (G.blk id) _)[k]? = _
                rw [Array.getElem?_setIfInBounds_ne (fun e => hk (by rw [e]))]
              have hob : ∀ j, (upd L (.obj id) (.it g s (pos + (decR s pos).2))) (.obj j) = if j = id then some (.it g s (pos + (decR s pos).2)) else L (.obj j) := by intro j; simp [upd]
              have habs : Abs E G (upd L (.obj id) (.it g s (pos + (decR s pos).2))) a w1 := by
                refine (Abs.change ha id (G1 := G) (L1 := upd L (.obj id) (.it g s (pos + (decR s pos).2))) hg ?_ rfl ?_ ?_ ?_ ?_ ?_ ?_ ?_ ?_).1
                · intro k hk
                  cases hk
                  have h1 := ha.heap.own id _ hown
                  exact ⟨h1.1, h1.2, fun j hj h => ha.heap.apart j id _ hj h hown⟩
                · intro j hj; exact ⟨by rw [hob, if_neg hj], rfl, rfl⟩
                · intro j hj k o; simp [upd]
                · intro m; simp [upd]
                · intro c hc
                  rw [hcc] at hc
                  cases hc
                  exact ⟨.it g s (pos + (decR s pos).2), by rw [hob, if_pos rfl], Nat.le_refl _, fun _ => ⟨trivial, rfl, rfl⟩⟩
                · intro hs hk off d k m h1 h2; rw [hob, if_pos rfl] at h2; cases h2
                · intro _ hk d h1
                  rw [hob, if_pos rfl] at h1
                  cases h1
                  show w1.heap[G.blk id]? = _
                  rw [← hw1]
                  show (w.heap.setIfInBounds (G.blk id) _)[G.blk id]? = _
                  rw [Array.getElem?_setIfInBounds_self_of_lt hlt2]
                · intro k off c h1
                  obtain ⟨c', h2, h3⟩ := ha.heap.cgen id k off c (by simpa [upd] using h1)
                  rw [hcc] at h2
                  cases h2
                  exact ⟨.it g s (pos + (decR s pos).2), by rw [hob, if_pos rfl], h3⟩
                · intro b hb'
                  have : ownB G (upd L (.obj id) (.it g s (pos + (decR s pos).2))) id = some (G.blk id) := ownB_some (c := .it g s (pos + (decR s pos).2)) (by rw [hob, if_pos rfl])
                  rw [this] at hb'
                  cases hb'
                  have h1 := ha.heap.own id _ hown
                  exact ⟨h1.1, h1.2, fun j hj h => ha.heap.apart j id _ hj h hown⟩
              refine wp_value (w' := w1) (v := .tuple #[.bool true, .int .i64 pos, .int .i32 (decR s pos).1]) ?_ (hK _ _ _ (putD_ok h1 habs hn ⟨[.bool true, .int .i64 pos, .int .i32 (decR s pos).1], rfl, .cons (dv_bool _) (.cons (dv_int _ _) (.cons (dv_int _ _) .nil))⟩))
              have hrun' : (Instr.next (.pointer (some ⟨G.blk id, 0, none⟩)) true o.type).run P w = .ok (.tuple #[.bool true, .int .i64 pos, .int .i32 (decR s pos).1]) w1 := by rw [← hw1]; exact hrun
              simp [execOp, ho, hev, hrun']
          | brF hlt h1 =>
            have hlt : s.length ≤ pos := Nat.le_of_not_lt fun h => by rw [show Nat.blt pos s.length = true from Nat.ble_eq_true_of_le h] at hlt; cases hlt
            have hrun := run_next_end_at (P := P) w (G.blk id) ⟨s.toArray⟩ pos o.type hheap (by rw [hsz]; omega)
            refine wp_value (w' := w) (v := .tuple #[.bool false]) ?_ (hK _ _ _ (putD_ok h1 ha hn ⟨[.bool false], rfl, .cons (dv_bool _) .nil⟩))
            simp [execOp, ho, hev, hrun]
      · intro h1; cases h1
  · cases h1

end
end Go.Proofs.YtllhidkadhoipaaDoor.Ab
