/- Each operation of the model does what its abstract one does: conversions of texts and bytes, new slices. For every program whose types are as told. -/
import Derived.Test.YtllhidkadhoipaaDoorC12
import Derived.Laws.IdiomStrings
import Derived.Laws.BytesString
import Derived.Laws.Runes
import Derived.Laws.MakeOwn
namespace Go.Proofs.YtllhidkadhoipaaDoor.Ab
open Go Go.RowKit
set_option linter.unusedSimpArgs false
set_option linter.unusedVariables false

section
variable {P : Program} {Γ : FuncId → List D → D → Prop} {E : Env} {G : Gh} {L L' : Mem} {a : Act} {w : World} {rs ws : List Loc} {lay : Lay} {o : Oper}

theorem Under.grownBy {w w' : World} (h : Under w.heap.size (fun _ => False) w w') : w.grownBy w' none := ⟨h.os, h.tape, h.output, h.size, fun k hk _ => h.block k hk (fun h => h)⟩

/-- Behind a call that writes to nothing that was there. -/
theorem Abs.called (ha : Abs E G L a w) {w' : World} {S' : Nat → Prop} (hu : Under w.heap.size (fun _ => False) w w') (h1 : ∀ b, G.S b → S' b) (h2 : ∀ b, S' b → b < w'.heap.size ∧ (b < w.heap.size → G.S b)) :
    Abs E { G with S := S' } L a w' := by
  have hag : Abs E G L a w' := ha.grown hu.grownBy (by simp)
  let G1 : Gh := { G with S := S' }
  have hs : Step G L G1 L := fun _ c h => ⟨c, h, Nat.le_refl _, fun _ => ⟨c.alike_refl, rfl, rfl⟩⟩
  have hk : Keep G.S w' G1.S w' := ⟨h1, fun _ _ => rfl⟩
  have hob : ∀ id, ownB G1 L id = ownB G L id := fun id => ownB_congr rfl rfl rfl
  refine ⟨⟨?_, ?_, hag.heap.cgen, ?_, ?_, fun b hb => (h2 b hb).1, ?_, hag.heap.under, hag.heap.start⟩, hag.defers, hag.size, ?_, fun n d hn => (hag.sv n d hn).mono hs hk⟩
  · intro id off d g n e1 e2
    obtain ⟨v, hv, hd⟩ := hag.heap.cell id off d g n e1 e2
    exact ⟨v, hv, hd.mono hs hk⟩
  · intro id c e1
    exact (hag.heap.obj id c e1).kept hk rfl rfl fun _ _ => rfl
  · intro id b hb
    rw [hob] at hb
    obtain ⟨k1, k2⟩ := hag.heap.own id b hb
    exact ⟨k1, fun h => k2 ((h2 b h).2 (ha.heap.own_lt hb))⟩
  · intro i j b hij hb; rw [hob] at hb ⊢; exact hag.heap.apart i j b hij hb
  · intro b hb
    have hlt : b < w.heap.size := Nat.lt_of_lt_of_le hb ha.heap.base_le
    exact ⟨fun h0 => h1 b ((hag.heap.old b hb).1 h0), fun h => (hag.heap.old b hb).2 ((h2 b h).2 hlt)⟩
  · intro n d hn
    exact ⟨(hag.tmp n d hn).1, (hag.tmp n d hn).2.mono hs hk⟩


theorem isBytesT_ok (hlay : LayOK P lay) {t : TypeId} {i : LInfo} (hi : lay t = some i) (h : isBytesT lay i = true) : ∃ e, P.underlying t = some (.slice e) ∧ P.underlying e = some (.int .u8) := by
  unfold isBytesT at h
  split at h
  · rename_i e hd
    split at h
    · rename_i j hj
      split at h
      · rename_i hd2
        refine ⟨e, ?_, ?_⟩
        · have := hlay.und t i hi; rwa [hd] at this
        · have := hlay.und e j hj; rwa [hd2] at this
      · cases h
    · cases h
  · cases h

theorem bytes_fold : ∀ (xs : List Int) (r : ByteArray), xs.foldl (fun r n => r.push (UInt8.ofNat n.toNat)) r = ⟨r.data ++ (strOf xs).toArray⟩
  | [], r => by simp [strOf]
  | x :: xs, r => by
    simp only [List.foldl_cons]
    rw [bytes_fold xs]
    simp [ByteArray.push, strOf]

theorem repL_u8 {S : Nat → Prop} : ∀ {xs : List Int} {cs : List Value}, RepL (RepC S w (.int .u8)) xs cs → cs = xs.map (Value.int .u8)
  | [], _, h => h
  | x :: xs, _, ⟨c, d, e, r, rest⟩ => by
    have r : c = [_] := r
    rw [e, r, repL_u8 rest]
    rfl

/-- Bytes in memory as a text. -/
theorem run_bytes (src dst e : TypeId) {S : Nat → Prop} {xs : List Int} {v : Value} (hs : P.underlying src = some (.slice e)) (he : P.underlying e = some (.int .u8)) (hd : P.underlying dst = some .string)
    (h : SlRep S w (RepC S w (.int .u8)) xs v) : (convert src dst v).run P w = .ok (strV (strOf xs)) w := by
  rcases h with ⟨rfl, rfl⟩ | ⟨p, cap, cs, rfl, hc, hl, hr⟩
  · rw [run_convert_bytes_string w src dst e none 0 0 hs he hd]
    simp [Conv.bytesToString, strOf, strV]
    rfl
  · rw [run_convert_bytes_string w src dst e _ _ _ hs he hd]
    have hcs := repL_u8 hl
    subst hcs
    have hload : (loadCells p xs.length).run P w = .ok (xs.map (Value.int .u8)).toArray w := by
      have := run_loadCells_list (P := P) w p (xs.map (Value.int .u8)) (fun j u hj => (hr j u hj).2)
      rwa [List.length_map] at this
    rw [run_bytesToString w p xs.length cap xs hload, bytes_fold]
    simp [strV]

theorem isStrT_ok (hlay : LayOK P lay) {t : TypeId} {i : LInfo} (hi : lay t = some i) (h : isStrT i = true) : P.underlying t = some .string := by
  unfold isStrT at h
  split at h
  · rename_i hd
    have := hlay.und t i hi; rwa [hd] at this
  · cases h

theorem bytes_row {S : Nat → Prop} : ∀ (s : List UInt8), RepL (RepC S w (.int .u8)) (bytesOf s) ((bytesOf s).map (Value.int .u8))
  | [] => rfl
  | b :: r => ⟨[.int .u8 (b.toNat : Int)], _, rfl, rfl, bytes_row r⟩

theorem owned_cells {base : Nat} {e : TypeId} {size n : Nat} {v : Value} {cs : List Value} (h : w.ownsRow base e size v n cs) :
    (v = .slice none 0 0 ∧ n = 0 ∧ cs = []) ∨ ∃ p cap, v = .slice (some p) n cap ∧ n ≤ cap ∧ ∀ j u, cs[j]? = some u → w.cell? (p.add j) = some u := by
  obtain ⟨hl, ⟨rfl, rfl⟩ | ⟨g, cap, cur, rfl, _, hg, hc, _, _, ht⟩⟩ := h
  · exact .inl ⟨rfl, rfl, List.length_eq_zero_iff.1 (by omega)⟩
  · refine .inr ⟨⟨g, 0, none⟩, cap, rfl, hc, fun j u hj => ?_⟩
    rw [add_none, Nat.zero_add]
    rw [← ht, List.getElem?_take] at hj
    split at hj
    · simp only [Array.getElem?_toList] at hj
      simp [World.cell?, hg, hj]
    · cases hj

theorem owned_sl {base : Nat} {e : TypeId} {size : Nat} {v : Value} {xs : List Int} {cs : List Value} {S : Nat → Prop} (h : w.ownsRow base e size v xs.length cs) (hr : RepL (RepC S w (.int .u8)) xs cs) :
    SlRep (fun _ => True) w (RepC (fun _ => True) w (.int .u8)) xs v := by
  rcases owned_cells h with ⟨rfl, hn, _⟩ | ⟨p, cap, rfl, hc, hcell⟩
  · exact .inl ⟨rfl, List.length_eq_zero_iff.1 hn⟩
  · exact .inr ⟨p, cap, cs, rfl, hc, hr.mono (fun _ _ h => h), fun j u hj => ⟨trivial, hcell j u hj⟩⟩

theorem op_convert (hlay : LayOK P lay) {s t : TypeId} {x : Operand} (ho : o.op = .convert s t x) (h : Run Γ (opPr lay o) L L' rs ws) (ha : Abs E G L a w) (hn : ∀ n, o.dst = some n → n < E.N) : OpOK P E L' o a w := by
  intro K Q hK
  simp only [opPr, ho] at h
  obtain ⟨d, rs1, h1, hd⟩ := evO_ok h ha
  split at h1
  · rename_i si li hs ht
    have hus := hlay.und s _ hs
    have hut := hlay.und t _ ht
    have fromBytes : ∀ {S : Nat → Prop} {xs : List Int} {v : Value}, isBytesT lay si = true → P.underlying t = some .string → a.eval x = v → SlRep S w (RepC S w (.int .u8)) xs v → (∃ rs, Run Γ (putD o.dst (.val .str (strOf xs))) L L' rs ws) → o.wp P a w K Q := by
      rintro S xs v hb hts rfl hsl ⟨rs2, h2⟩
      obtain ⟨e, he1, he2⟩ := isBytesT_ok hlay hs hb
      refine wp_value (w' := w) ?_ (hK _ _ _ (putD_ok h2 ha hn (dv_str _)))
      simp [execOp, ho, run_bytes s t e he1 he2 hts hsl]
    split at h1
    · rename_i k hdesc
      rw [hdesc] at hut
      split at h1
      · rename_i k' n
        have hv := DV_int hd
        refine wp_value (w' := w) ?_ (hK _ _ _ (putD_ok h1 ha hn (dv_int _ _)))
        simp [execOp, ho, hv, convert, run_underlying hus, run_underlying hut, Conv.intToInt]
      · cases h1
    · rename_i hdesc
      rw [hdesc] at hut
      split at h1
      · rename_i y
        have hv := DV_str hd
        refine wp_value (w' := w) ?_ (hK _ _ _ (putD_ok h1 ha hn (dv_str _)))
        simp [execOp, ho, hv, convert, run_underlying hus, run_underlying hut]
      · rename_i k' n
        have hv := DV_int hd
        refine wp_value (w' := w) ?_ (hK _ _ _ (putD_ok h1 ha hn (dv_str _)))
        rw [execOp, ho]
        simp [hv, run_convert_int_string w s t k' n (by rw [hus]; rfl) hut, strV, runeStr]
      · rename_i xs
        cases h1 with
        | gd hb h1 => exact fromBytes hb hut rfl (DV_slice hd) ⟨_, h1⟩
      · rename_i v
        cases h1 with
        | gd hb h1 =>
          simp only [Bool.and_eq_true] at hb
          have e1 := (DV_raw hd).1
          rw [isNilSlice_iff hb.1] at e1
          exact fromBytes (S := G.S) (xs := []) hb.2 hut e1 (.inl ⟨rfl, rfl⟩) ⟨_, h1⟩
      · rename_i id g
        obtain ⟨_, cc, hcc, _, hpp⟩ := DV_one rfl hd (by simp) (by simp) (by simp)
        cases h1 with
        | rd h1 =>
          revert h1
          dsimp only
          split
          · rename_i g' e xs hl
            intro h1
            cases h1 with
            | gd hb h1 =>
              simp only [Bool.and_eq_true] at hb
              have hg := beq_nat hb.1
              subst hg
              rw [hcc] at hl
              cases hl
              obtain ⟨cs, hown, hrep⟩ := ha.heap.vec id g e (.int .u8) xs hcc
              exact fromBytes hb.2 hut (hpp rfl) (owned_sl hown hrep) ⟨_, h1⟩
          · rename_i g' xs hl
            intro h1
            cases h1 with
            | gd hb h1 =>
              simp only [Bool.and_eq_true] at hb
              have hg := beq_nat hb.1
              subst hg
              rw [hcc] at hl
              cases hl
              exact fromBytes hb.2 hut (hpp rfl) (ha.heap.sl id g (.int .u8) xs hcc) ⟨_, h1⟩
          · intro h1; cases h1
      · cases h1
    · split at h1
      · rename_i y
        cases h1 with
        | gd hb h1 =>
          simp only [Bool.and_eq_true] at hb
          obtain ⟨e, he1, he2⟩ := isBytesT_ok hlay ht hb.1
          have hst := isStrT_ok hlay hs hb.2
          have hv := DV_str hd
          have hrun := run_bytes_of_string w s t e ⟨y.toArray⟩ hst he1 he2
          generalize hcap : grownCap w (ByteArray.size ⟨y.toArray⟩) 0 e = cap at hrun
          have hsz : ByteArray.size ⟨y.toArray⟩ = y.length := by simp [ByteArray.size]
          have hge : y.length ≤ cap := by rw [← hcap, ← hsz]; exact grownCap_ge _ _ _ _
          obtain ⟨W', hW'⟩ : ∃ W', w.drew.alloc (.cells (bytesRow ⟨y.toArray⟩ cap) e ((bytesRow ⟨y.toArray⟩ cap).size, (bytesRow ⟨y.toArray⟩ cap).size + 1)) = W' := ⟨_, rfl⟩
          have hnew : W'.heap[w.heap.size]? = some (.cells (bytesRow ⟨y.toArray⟩ cap) e ((bytesRow ⟨y.toArray⟩ cap).size, (bytesRow ⟨y.toArray⟩ cap).size + 1)) := by rw [← hW']; show (w.heap.push _)[w.heap.size]? = _; simp
          have hB : Below w.heap.size w W' := by rw [← hW']; exact ((Below.refl _ w).drew).alloc (Nat.le_refl _) _
          have hWs : W'.heap.size = w.heap.size + 1 := by rw [← hW']; show (w.heap.push _).size = _; simp
          have hu : Under w.heap.size (fun _ => False) w W' := ⟨hB.os, hB.tape, hB.output, hB.size, fun k hk _ => hB.block k hk⟩
          have ha' := ha.called (S' := fun b => G.S b ∨ b = w.heap.size) hu (fun b hb => .inl hb) (fun b hb => by
            rcases hb with hb | rfl
            · exact ⟨by have := ha.heap.sealed b hb; omega, fun _ => hb⟩
            · exact ⟨by omega, fun h => absurd h (Nat.lt_irrefl _)⟩)
          rw [hW', hsz] at hrun
          refine wp_value (w' := W') (v := .slice (some ⟨w.heap.size, 0, none⟩) y.length cap) ?_ (hK _ _ _ (putD_ok h1 ha' hn (dv_slice (.inr ⟨⟨w.heap.size, 0, none⟩, cap, (bytesOf y).map (Value.int .u8), by simp [bytesOf], by simpa [bytesOf] using hge, bytes_row y, fun j u hj => ⟨.inr rfl, ?_⟩⟩))))
          · simp [execOp, ho, hv, strV, hrun]
          · rw [add_none, Nat.zero_add]
            have hjl : j < y.length := by have := (List.getElem?_eq_some_iff.1 hj).1; simpa [bytesOf] using this
            have : (bytesRow ⟨y.toArray⟩ cap)[j]? = some u := by
              unfold bytesRow
              rw [Array.getElem?_append_left (by simpa using hjl)]
              simp [bytesOf, hjl] at hj ⊢
              exact hj
            simp [World.cell?, hnew, this]
      · cases h1
    · cases h1
  · cases h1

theorem made_rep {α : Type} {R : α → List Value → Prop} {x : α} {z : Array Value} (hz : R x z.toList) (hp : 0 < z.size) : ∀ n, RepL R (List.replicate n x) ((List.range (n * z.size)).map (z[· % z.size]!))
  | 0 => by simp [RepL]
  | n + 1 => by
    rw [Nat.succ_mul, List.range_add, List.map_append, List.replicate_succ']
    refine RepL.append (made_rep hz hp n) ⟨z.toList, [], ?_, hz, rfl⟩
    rw [List.append_nil, List.map_map]
    apply List.ext_getElem?
    intro k
    by_cases hk : k < z.size
    · simp [hk, Nat.mul_add_mod_of_lt, Nat.add_mod, Nat.mod_eq_of_lt hk]
    · simp [hk]

theorem op_makeSlice (hlay : LayOK P lay) {t : TypeId} {l c : Operand} (ho : o.op = .makeSlice t l c) (h : Run Γ (opPr lay o) L L' rs ws) (ha : Abs E G L a w) (hn : ∀ n, o.dst = some n → n < E.N) : OpOK P E L' o a w := by
  intro K Q hK
  simp only [opPr, ho] at h
  obtain ⟨d1, rs1, h1, hd1⟩ := evO_ok h ha
  obtain ⟨d2, rs2, h2, hd2⟩ := evO_ok h1 ha
  split at h2
  · rename_i k1 n k2 m
    have hv1 := DV_int hd1
    have hv2 := DV_int hd2
    split at h2
    · rename_i e j hsl
      split at h2
      · rename_i τ hτ
        split at h2
        · rename_i x hx
          cases h2 with
          | gd hb h2 =>
            simp only [Bool.and_eq_true, decide_eq_true_eq] at hb
            obtain ⟨⟨⟨⟨⟨h0, hnm⟩, hby⟩, hmr⟩, hpos⟩, hszb⟩ := hb
            have h0 : (0 : Int) ≤ (n : Int) := h0
            have hnm : (n : Int) ≤ (m : Int) := hnm
            have hm1 : (0 : Int) ≤ (m : Int) := Int.le_trans h0 hnm
            have hsz := beq_nat hszb
            obtain ⟨hje, hut⟩ : lay e = some j ∧ P.underlying t = some (.slice e) := by
              unfold sliceElem at hsl
              split at hsl
              · rename_i i hi
                split at hsl
                · rename_i e' hde
                  split at hsl
                  · rename_i j' hj'
                    cases hsl
                    exact ⟨hj', by rw [← hde]; exact hlay.und t i hi⟩
                  · cases hsl
                · cases hsl
              · cases hsl
            obtain ⟨ie, f1, f2, f3, f4⟩ := lay_info hlay hje
            have hzs : j.zero.cells.size = j.sz := hlay.zsz e j hje
            have hm0 : (m.toNat : Int) = m := Int.toNat_of_nonneg hm1
            have hbm : ((m.toNat * j.bytes : Nat) : Int) ≤ 140737488355328 := by unfold maxRoom at hby; omega
            have hrun := run_make (P := P) w t e ie j.zero hut f1 f2 k1 k2 n m h0 hnm (by
              rw [f4, Int.mul_comm, ← hm0, ← Int.natCast_mul]; omega) (by unfold maxRoom at hmr; omega)
            rw [f3] at hrun
            obtain ⟨W', hW'⟩ : ∃ W', w.alloc (.cells (madeCells j.zero.cells (m.toNat * j.sz)) e) = W' := ⟨_, rfl⟩
            rw [hW'] at hrun
            have hnew : W'.heap[w.heap.size]? = some (.cells (madeCells j.zero.cells (m.toNat * j.sz)) e (0, 0)) := by rw [← hW']; show (w.heap.push _)[w.heap.size]? = _; simp
            have ag : Abs E G L a W' := ha.grown (by rw [← hW']; exact World.grownBy_alloc w _ none) (by simp)
            have hrep : RepC G.S W' τ x j.zero.cells.toList := by
              unfold asmAll at hx
              split at hx
              · rename_i y hy
                cases hx
                obtain ⟨c1, c2, q1, q2, q3⟩ := asm_ok hy (ofVs_ok (G := G) (L := L) (w := W') j.zero.cells.toList)
                cases c2 with
                | nil => rw [q1, List.append_nil]; exact q2
                | cons _ _ => exact q3.elim
              · cases hx
            have hnm' : n.toNat ≤ m.toNat := Int.toNat_le_toNat hnm
            have hlt2 : n.toNat * j.sz ≤ m.toNat * j.sz := Nat.mul_le_mul_right _ hnm'
            have hcs : (madeCells j.zero.cells (m.toNat * j.sz)).toList.take (n.toNat * j.sz) = (List.range (n.toNat * j.zero.cells.size)).map (j.zero.cells[· % j.zero.cells.size]!) := by
              unfold madeCells
              rw [hzs, Array.toList_map, Array.toList_range, ← List.map_take, List.take_range, Nat.min_eq_left hlt2]
            obtain ⟨G1, hab⟩ := newVec_ok h2 ag hn (v := .slice (some ⟨w.heap.size, 0, none⟩) n.toNat m.toNat) (cs := (madeCells j.zero.cells (m.toNat * j.sz)).toList.take (n.toNat * j.sz))
              ⟨by rw [List.length_take, Array.length_toList, size_madeCells, List.length_replicate, hsz]; omega,
                .inr ⟨w.heap.size, m.toNat, madeCells j.zero.cells (m.toNat * j.sz), by rw [List.length_replicate], Nat.zero_le _, hnew, by rw [List.length_replicate]; exact hnm', by unfold maxRoom at hmr; unfold maxLen; omega, by rw [size_madeCells, hsz], by rw [List.length_replicate, hsz]⟩⟩
              (by rw [hcs]; exact made_rep hrep (by rw [hzs, ← hsz]; exact Nat.le_of_ble_eq_true hpos) _)
              (fun b hb => by
                have : w.heap.size = b := by simpa [Value.ownBlock] using hb
                subst this
                exact ⟨.inl ha.heap.base_le, fun h => Nat.lt_irrefl _ (ha.heap.sealed _ h), fun j h => Nat.lt_irrefl _ (ha.heap.own_lt h)⟩)
            refine wp_value (w' := W') ?_ (hK _ _ _ hab)
            simp [execOp, ho, hv1, hv2, hrun]
        · cases h2
      · cases h2
    · cases h2
  · cases h2

end
end Go.Proofs.YtllhidkadhoipaaDoor.Ab
