/- What a row's arguments hold, as data of a type. For every program. -/
import Derived.Test.YtllhidkadhoipaaDoorC23
import Derived.ChangeArms
import Derived.DataReads
namespace Go.Proofs.YtllhidkadhoipaaDoor.Ab
open Go Go.RowKit

/-- In the bounds of the machine. -/
def WF : (τ : Ty) → τ.I → Prop
  | .int k, n => k.min ≤ n ∧ n ≤ k.max
  | .str, s => s.length ≤ maxLen
  | .slice e, xs => xs.length ≤ maxLen ∧ ∀ x ∈ xs, WF e x
  | .pair a b, x => WF a x.1 ∧ WF b x.2
  | .ref e, x => ∀ y, x = some y → WF e y
  | _, _ => True

mutual
/-- Values of this type are read as data of this type. -/
inductive TyT (P : Program) : TypeId → Ty → Prop
  | bool {t} (h : P.underlying t = some .bool) : TyT P t .bool
  | int {t k} (h : P.underlying t = some (.int k)) : TyT P t (.int k)
  | str {t} (h : P.underlying t = some .string) : TyT P t .str
  | slice {t e τ} (h : P.underlying t = some (.slice e)) (hc : P.cellsOf e = τ.sz) (k : TyT P e τ) : TyT P t (.slice τ)
  | ref {t e τ} (h : P.underlying t = some (.pointer e)) (hc : P.cellsOf e = τ.sz) (hp : 0 < τ.sz) (k : TyT P e τ) : TyT P t (.ref τ)
  | struct {t fs τ} (h : P.underlying t = some (.struct fs)) (hc : P.cellsOf t = τ.sz) (k : TyF P fs.toList 0 τ) : TyT P t τ
inductive TyF (P : Program) : List Field → Nat → Ty → Prop
  | nil {off} : TyF P [] off .unit
  | cons {fd fs off a b} (ho : fd.offset = off) (hc : P.cellsOf fd.type = a.sz) (h : TyT P fd.type a) (k : TyF P fs (off + a.sz) b) : TyF P (fd :: fs) off (.pair a b)
end

def tyF (P : Program) (rec : TypeId → Ty → Bool) : List Field → Nat → Ty → Bool
  | [], _, .unit => true
  | fd :: fs, off, .pair a b => Nat.beq fd.offset off && Nat.beq (P.cellsOf fd.type) a.sz && rec fd.type a && tyF P rec fs (off + a.sz) b
  | _, _, _ => false

def tyT (P : Program) : Nat → TypeId → Ty → Bool
  | 0, _, _ => false
  | n + 1, t, τ => match P.underlying t with
    | some .bool => tyBeq τ .bool
    | some (.int k) => tyBeq τ (.int k)
    | some .string => tyBeq τ .str
    | some (.slice e) => match τ with
      | .slice σ => Nat.beq (P.cellsOf e) σ.sz && tyT P n e σ
      | _ => false
    | some (.pointer e) => match τ with
      | .ref σ => Nat.beq (P.cellsOf e) σ.sz && Nat.blt 0 σ.sz && tyT P n e σ
      | _ => false
    | some (.struct fs) => Nat.beq (P.cellsOf t) τ.sz && tyF P (tyT P n) fs.toList 0 τ
    | _ => false

theorem tyF_ok {P : Program} {rec : TypeId → Ty → Bool} (hr : ∀ t τ, rec t τ = true → TyT P t τ) : ∀ {fs : List Field} {off : Nat} {τ : Ty}, tyF P rec fs off τ = true → TyF P fs off τ
  | [], _, τ, h => by
    cases τ <;> first | exact .nil | cases h
  | fd :: fs, off, τ, h => by
    cases τ with
    | pair a b =>
      simp only [tyF, Bool.and_eq_true] at h
      exact .cons (beq_nat h.1.1.1) (beq_nat h.1.1.2) (hr _ _ h.1.2) (tyF_ok hr h.2)
    | _ => cases h

theorem tyT_ok {P : Program} : ∀ {n : Nat} {t : TypeId} {τ : Ty}, tyT P n t τ = true → TyT P t τ
  | 0, _, _, h => by cases h
  | n + 1, t, τ, h => by
    simp only [tyT] at h
    split at h
    · rename_i hu; simp only [tyBeq, decide_eq_true_eq] at h; subst h; exact .bool hu
    · rename_i hu; simp only [tyBeq, decide_eq_true_eq] at h; subst h; exact .int hu
    · rename_i hu; simp only [tyBeq, decide_eq_true_eq] at h; subst h; exact .str hu
    · rename_i hu
      cases τ with
      | slice σ =>
        simp only [Bool.and_eq_true] at h
        exact .slice hu (beq_nat h.1) (tyT_ok h.2)
      | _ => cases h
    · rename_i hu
      cases τ with
      | ref σ =>
        simp only [Bool.and_eq_true] at h
        exact .ref hu (beq_nat h.1.1) (Nat.le_of_ble_eq_true h.1.2) (tyT_ok h.2)
      | _ => cases h
    · rename_i hu
      simp only [Bool.and_eq_true] at h
      exact .struct hu (beq_nat h.1) (tyF_ok (fun _ _ h => tyT_ok h) h.2)
    · cases h

section
variable {H : Type} {enc : TypeId × Value → H} {P : Program} {w : World} {base : Nat} {spare : Nat → Bool} {held : Bool}

abbrev Low (w : World) : Nat → Prop := fun b => b < w.heap.size

theorem cells_at {a : Addr} {n : Nat} {cs : List Value} (h : w.cells? base a n = some cs) : cs.length = n ∧ ∀ j u, cs[j]? = some u → Low w a.block ∧ w.cell? (a.add j) = some u := by
  obtain ⟨_, h1, h2⟩ : base ≤ a.block ∧ cs.length = n ∧ ∀ i, i < n → w.cell? (a.add i) = cs[i]? := by
    obtain ⟨h0, h1, h2⟩ := World.cells?_some h
    exact ⟨h0, h1, h2⟩
  refine ⟨h1, fun j u hj => ?_⟩
  have hlt : j < n := by have := (List.getElem?_eq_some_iff.1 hj).1; omega
  have hc : w.cell? (a.add j) = some u := (h2 j hlt).trans hj
  refine ⟨?_, hc⟩
  have hb : (a.add j).block < w.heap.size := by
    rcases Nat.lt_or_ge (a.add j).block w.heap.size with h' | h'
    · exact h'
    · simp [World.cell?, Array.getElem?_eq_none h'] at hc
  rwa [add_block] at hb

mutual
theorem TyT.open : ∀ {t : TypeId} {τ : Ty}, TyT P t τ → ∀ {fuel : Nat} {cs : List Value} {y : DataW H × List MemPlace}, DataW.trod enc P w base spare held fuel t cs = some y → ∃ x : τ.I, RepC (Low w) w τ x cs ∧ WF τ x
  | _, _, .bool h, _, _, _, k => by
    obtain ⟨b, rfl, _⟩ := DataW.trod_bool h k
    exact ⟨b, rfl, trivial⟩
  | _, _, .int h, _, _, _, k => by
    obtain ⟨n, rfl, _, hw⟩ := DataW.trod_int h k
    simp only [Lit.wf, Bool.and_eq_true, decide_eq_true_eq] at hw
    exact ⟨n, rfl, hw⟩
  | _, _, .str h, _, _, _, k => by
    obtain ⟨s, rfl, _, hs⟩ := DataW.trod_string h k
    refine ⟨s.data.toList, ?_, by show s.data.toList.length ≤ maxLen; simpa using hs⟩
    show [Value.string s] = [strV s.data.toList]
    simp [strV]
  | _, _, .slice (e := e) (τ := τ) h hc k, _, _, _, hh => by
    rcases DataW.trod_slice h hh with ⟨rfl, _⟩ | ⟨a, len, cap, elems, rest, n, rfl, rfl, _, hb, hl, hm, hlen, hel, _, _⟩
    · exact ⟨[], ⟨_, rfl, .inl ⟨rfl, rfl⟩⟩, Nat.zero_le _, by simp⟩
    · have key : ∀ m, m ≤ len → ∃ (xs : List τ.I) (cs : List Value), xs.length = m ∧ RepL (RepC (Low w) w τ) xs cs ∧ (∀ x ∈ xs, WF τ x) ∧ ∀ j u, cs[j]? = some u → Low w a.block ∧ w.cell? (a.add j) = some u := by
        intro m
        induction m with
        | zero => exact fun _ => ⟨[], [], rfl, rfl, by simp, by simp⟩
        | succ m ih =>
          intro hm'
          obtain ⟨xs, cs, h1, h2, h3, h4⟩ := ih (by omega)
          have hi := hel m (by omega)
          rw [List.getElem?_eq_getElem (by omega), Option.bind_eq_some_iff] at hi
          obtain ⟨c, hc1, hc2⟩ := hi
          obtain ⟨x, hx, hwf⟩ := TyT.open k hc2
          obtain ⟨hcl, hcell⟩ := cells_at hc1
          have hcsl : cs.length = m * τ.sz := by rw [RepL.length (fun _ _ h => RepC.length h) h2, h1]
          refine ⟨xs ++ [x], cs ++ c, by simp [h1], h2.append ⟨c, [], by simp, hx, rfl⟩, ?_, fun j u hj => ?_⟩
          · intro z hz
            rcases List.mem_append.1 hz with hz | hz
            · exact h3 z hz
            · simp at hz; subst hz; exact hwf
          · by_cases hlt : j < cs.length
            · rw [List.getElem?_append_left hlt] at hj
              exact h4 j u hj
            · rw [List.getElem?_append_right (by omega)] at hj
              obtain ⟨k1, k2⟩ := hcell _ _ hj
              rw [add_block] at k1
              refine ⟨k1, ?_⟩
              rw [add_add, hc] at k2
              rw [show j = m * τ.sz + (j - cs.length) by omega]
              exact k2
      obtain ⟨xs, cs, h1, h2, h3, h4⟩ := key len (Nat.le_refl _)
      exact ⟨xs, ⟨_, rfl, .inr ⟨a, cap, cs, by rw [h1], by omega, h2, h4⟩⟩, by omega, h3⟩
  | _, _, .ref (e := e) (τ := τ) h hc hp k, _, _, _, hh => by
    rcases DataW.trod_pointer h hh with ⟨rfl, _⟩ | ⟨a, cs', y, n, rfl, rfl, _, hc1, hc2⟩
    · exact ⟨none, ⟨_, rfl, .inl ⟨rfl, rfl⟩⟩, fun _ h => by cases h⟩
    · obtain ⟨x, hx, hwf⟩ := TyT.open k hc2
      exact ⟨some x, ⟨_, rfl, .inr ⟨a, cs', x, rfl, rfl, hx, (cells_at hc1).2⟩⟩, fun y hy => by cases hy; exact hwf⟩
  | _, _, .struct (τ := τ) h hc k, _, cs, _, hh => by
    obtain ⟨xs, n, rfl, _, hl, hn, hf⟩ := DataW.trod_struct h hh
    have := TyF.open k (n := n) (cs := cs) (fun i f hi => ⟨xs[i]?, by
      have h1 := hf i f (by simpa using hi)
      refine ⟨h1, ?_⟩
      have : i < xs.length := by
        have := (List.getElem?_eq_some_iff.1 hi).1
        rw [hn]; simpa using this
      simp [List.getElem?_eq_getElem this]⟩) (by simp; omega)
    simpa using this
theorem TyF.open : ∀ {fs : List Field} {off : Nat} {τ : Ty}, TyF P fs off τ → ∀ {n : Nat} {cs : List Value}, (∀ (i : Nat) (f : Field), fs[i]? = some f → ∃ y, DataW.trod enc P w base spare held n f.type ((cs.drop f.offset).take (P.cellsOf f.type)) = y ∧ y.isSome = true) → (cs.drop off).length = τ.sz →
    ∃ x : τ.I, RepC (Low w) w τ x (cs.drop off) ∧ WF τ x
  | [], off, _, .nil, n, cs, _, hl => ⟨(), List.length_eq_zero_iff.1 hl, trivial⟩
  | fd :: fs, off, _, .cons (a := a) (b := b) ho hc h k, n, cs, hf, hl => by
    obtain ⟨y, hy, hs⟩ := hf 0 fd rfl
    obtain ⟨y0, rfl⟩ := Option.isSome_iff_exists.1 hs
    obtain ⟨x, hx, hwx⟩ := TyT.open h hy
    rw [ho, hc] at hx
    have hl' : (cs.drop (off + a.sz)).length = b.sz := by
      have hl : (cs.drop off).length = a.sz + b.sz := hl
      simp only [List.length_drop] at hl ⊢
      omega
    obtain ⟨z, hz, hwz⟩ := TyF.open k (n := n) (cs := cs) (fun i f hi => hf (i + 1) f (by simpa using hi)) hl'
    exact ⟨(x, z), ⟨_, _, by rw [← List.drop_drop, List.take_append_drop], hx, hz⟩, hwx, hwz⟩
end

/-- An argument that is a slice. -/
theorem open_slice {t : TypeId} {τ : Ty} {n : Nat} (h : tyT P n t (.slice τ) = true) {a : Option Addr} {len cap : Nat} {d : DataW H} {ps : List MemPlace} (k : DataW.Trod enc P w base spare held t (.slice a len cap) d ps) :
    ∃ x : List τ.I, SV (Low w) w (.val (.slice τ) x) (.slice a len cap) ∧ WF (.slice τ) x := by
  obtain ⟨fuel, hf⟩ := k
  obtain ⟨x, hx, hw⟩ := TyT.open (tyT_ok h) hf
  exact ⟨x, ⟨_, hx, by show [_] = [_] ∧ _; exact ⟨rfl, rfl⟩⟩, hw⟩

end
end Go.Proofs.YtllhidkadhoipaaDoor.Ab
