/- Each operation of the model does what its abstract one does: those that change memory. For every program whose types are as told. -/
import Derived.Test.YtllhidkadhoipaaDoorC5
namespace Go.Proofs.YtllhidkadhoipaaDoor.Ab
open Go Go.RowKit

section
variable {P : Program} {Γ : FuncId → List D → D → Prop} {E : Env} {G : Gh} {L L' : Mem} {a : Act} {w : World} {rs ws : List Loc}

/-- One object changes, and with it at most one block. -/
theorem Abs.change (ha : Abs E G L a w) (id : Nat) {G1 : Gh} {L1 : Mem} {w1 : World} {row : Option Nat} (hg : w.grownBy w1 row)
    (hrow : ∀ k, row = some k → (E.base ≤ k ∨ E.X k) ∧ ¬ G.S k ∧ ∀ j, j ≠ id → ownB G L j ≠ some k)
    (hS : G1.S = G.S) (hobj : ∀ j, j ≠ id → L1 (.obj j) = L (.obj j) ∧ G1.blk j = G.blk j ∧ G1.vv j = G.vv j)
    (hcell : ∀ j, j ≠ id → ∀ g o, L1 (.cell j g o) = L (.cell j g o)) (htmp : ∀ n, L1 (.tmp n) = L (.tmp n) ∧ L1 (.sv n) = L (.sv n))
    (hstep : ∀ c, L (.obj id) = some c → ∃ c', L1 (.obj id) = some c' ∧ c.gen ≤ c'.gen ∧ (c.gen = c'.gen → c.alike c' ∧ G1.blk id = G.blk id ∧ G1.vv id = G.vv id))
    (icell : Step G L G1 L1 → Keep G.S w G1.S w1 → ∀ off d g n, L1 (.cell id g off) = some (.d d) → L1 (.obj id) = some (.box g n) → ∃ v, w1.cell? ⟨G1.blk id, off, none⟩ = some v ∧ DC1 G1 L1 w1 d v)
    (iobj : Step G L G1 L1 → Keep G.S w G1.S w1 → ∀ c, L1 (.obj id) = some c → ObjOK G1 w1 id c)
    (igen : ∀ g off c, L1 (.cell id g off) = some c → ∃ o, L1 (.obj id) = some o ∧ g ≤ o.gen)
    (iown : ∀ b, ownB G1 L1 id = some b → (E.base ≤ b ∨ E.X b) ∧ ¬ G.S b ∧ ∀ j, j ≠ id → ownB G L j ≠ some b) :
    Abs E G1 L1 a w1 ∧ Step G L G1 L1 ∧ Keep G.S w G1.S w1 := by
  have hs : Step G L G1 L1 := by
    intro j c hc
    by_cases e : j = id
    · subst e; exact hstep c hc
    · obtain ⟨h1, h2, h3⟩ := hobj j e
      exact ⟨c, h1.trans hc, Nat.le_refl _, fun _ => ⟨c.alike_refl, h2, h3⟩⟩
  have hk : Keep G.S w G1.S w1 := ⟨fun b h => hS ▸ h, fun b hb => hg.block b (ha.heap.sealed b hb) fun e => (hrow b e.symm).2.1 hb⟩
  have hob : ∀ j, j ≠ id → ownB G1 L1 j = ownB G L j := fun j hj => ownB_congr (hobj j hj).1 (hobj j hj).2.1 (hobj j hj).2.2
  have hsame : ∀ j b, j ≠ id → ownB G L j = some b → w1.heap[b]? = w.heap[b]? := fun j b hj hb => hg.block b (ha.heap.own_lt hb) fun e => (hrow b e.symm).2.2 j hj hb
  refine ⟨⟨⟨?_, ?_, ?_, ?_, ?_, ?_, ?_, ?_, ha.heap.start⟩, ha.defers, ha.size, ?_, fun n d h1 => (ha.sv n d (by rw [← (htmp n).2]; exact h1)).mono hs hk⟩, hs, hk⟩
  · intro j off d g n h1 h2
    by_cases e : j = id
    · subst e; exact icell hs hk off d g n h1 h2
    · rw [hcell j e] at h1
      rw [(hobj j e).1] at h2
      obtain ⟨v, hv, hd⟩ := ha.heap.cell j off d g n h1 h2
      rw [(hobj j e).2.1]
      exact ⟨v, (World.cell?_of_block (w := w) (hsame j _ e (by simp [ownB, h2, ownC]))).trans hv, hd.mono hs hk⟩
  · intro j c h1
    by_cases e : j = id
    · subst e; exact iobj hs hk c h1
    · obtain ⟨k1, k2, k3⟩ := hobj j e
      rw [k1] at h1
      exact (ha.heap.obj j c h1).kept hk k2 k3 fun b hb => hsame j b e (by rw [ownB_some h1]; exact hb)
  · intro j g off c h1
    by_cases e : j = id
    · subst e; exact igen g off c h1
    · rw [hcell j e] at h1; rw [(hobj j e).1]; exact ha.heap.cgen j g off c h1
  · intro j b hb
    rw [hS]
    by_cases e : j = id
    · subst e; exact ⟨(iown b hb).1, (iown b hb).2.1⟩
    · rw [hob j e] at hb; exact ha.heap.own j b hb
  · intro i j b hij hb
    by_cases e : i = id
    · subst e
      rw [hob j (Ne.symm hij)]
      exact (iown b hb).2.2 j (Ne.symm hij)
    · rw [hob i e] at hb
      by_cases e' : j = id
      · subst e'; exact fun h => (iown b h).2.2 i e hb
      · rw [hob j e']; exact ha.heap.apart i j b hij hb
  · intro b hb; rw [hS] at hb; exact Nat.lt_of_lt_of_le (ha.heap.sealed b hb) hg.size
  · intro b hb; rw [hS]; exact ha.heap.old b hb
  · exact ha.heap.under.grown ha.heap.base_le hg fun k hk => (hrow k hk).1
  · intro n d h1
    rw [(htmp n).1] at h1
    exact ⟨(ha.tmp n d h1).1, (ha.tmp n d h1).2.mono hs hk⟩

def updCells (L : Mem) (id g : Nat) : Nat → List D → Mem
  | _, [] => L
  | i, d :: ds => updCells (upd L (.cell id g i) (.d d)) id g (i + 1) ds

theorem updCells_obj {id g j : Nat} : ∀ {ds : List D} {i : Nat} {L : Mem}, updCells L id g i ds (.obj j) = L (.obj j)
  | [], _, _ => rfl
  | d :: ds, i, L => by simp only [updCells]; rw [updCells_obj]; simp [upd]
theorem updCells_tmp {id g n : Nat} : ∀ {ds : List D} {i : Nat} {L : Mem}, updCells L id g i ds (.tmp n) = L (.tmp n)
  | [], _, _ => rfl
  | d :: ds, i, L => by simp only [updCells]; rw [updCells_tmp]; simp [upd]
theorem updCells_sv {id g n : Nat} : ∀ {ds : List D} {i : Nat} {L : Mem}, updCells L id g i ds (.sv n) = L (.sv n)
  | [], _, _ => rfl
  | d :: ds, i, L => by simp only [updCells]; rw [updCells_sv]; simp [upd]
theorem updCells_other {id g j k o : Nat} (h : ¬ (j = id ∧ k = g)) : ∀ {ds : List D} {i : Nat} {L : Mem}, updCells L id g i ds (.cell j k o) = L (.cell j k o)
  | [], _, _ => rfl
  | d :: ds, i, L => by
    simp only [updCells]
    rw [updCells_other h]
    simp only [upd]
    rw [if_neg]
    intro e
    cases e
    exact h ⟨rfl, rfl⟩
theorem updCells_cell {id g o : Nat} : ∀ {ds : List D} {i : Nat} {L : Mem}, updCells L id g i ds (.cell id g o) = if i ≤ o ∧ o < i + ds.length then (ds[o - i]?).map Cell.d else L (.cell id g o)
  | [], i, L => by simp [updCells]; omega
  | d :: ds, i, L => by
    simp only [updCells]
    rw [updCells_cell]
    by_cases h : o = i
    · subst h; simp [upd]; omega
    · by_cases h2 : i + 1 ≤ o ∧ o < i + 1 + ds.length
      · rw [if_pos h2, if_pos (by simp; omega), show o - i = (o - (i + 1)) + 1 from by omega]; simp
      · rw [if_neg h2, if_neg (by simp; omega)]; simp [upd, h]

theorem wrCells_ok {id g : Nat} {p : Pr} : ∀ {ds : List D} {i : Nat} {L : Mem} {ws : List Loc}, Run Γ (wrCells id g i ds p) L L' rs ws → ∃ ws', Run Γ p (updCells L id g i ds) L' rs ws'
  | [], _, _, _, h => ⟨_, h⟩
  | d :: ds, i, L, ws, h => by
    cases h with
    | wr h => exact wrCells_ok (ds := ds) (i := i + 1) (L := upd L (.cell id g i) (.d d)) h

/-- A new box. -/
theorem Abs.newBox (ha : Abs E G L a w) {n g : Nat} (hg : ∀ c, L (.obj n) = some c → c.gen < g) {ds : List D} {cs : Array Value} (t : TypeId) (hd : DCs G L w ds cs.toList) :
    ∃ G1, Abs E G1 (updCells (upd L (.obj n) (.box g ds.length)) n g 0 ds) a (w.alloc (.cells cs t)) ∧ G1.blk n = w.heap.size := by
  let G1 : Gh := { G with blk := fun i => if i = n then w.heap.size else G.blk i }
  have hb : G1.blk n = w.heap.size := by simp [G1]
  have ho : ∀ j, (updCells (upd L (.obj n) (.box g ds.length)) n g 0 ds) (.obj j) = if j = n then some (.box g ds.length) else L (.obj j) := by
    intro j; rw [updCells_obj]; simp [upd]
  have hnew : (w.alloc (.cells cs t)).heap[w.heap.size]? = some (.cells cs t (0, 0)) := heap_alloc_new w _
  have hc0 : ∀ o c, L (.cell n g o) = some c → False := by
    intro o c h
    obtain ⟨c', h1, h2⟩ := ha.heap.cgen n g o c h
    have := hg c' h1
    omega
  have hlen := hd.length
  refine ⟨G1, (Abs.change ha n (G1 := G1) (row := none) (World.grownBy_alloc w _ none) (by simp) rfl ?_ ?_ ?_ ?_ ?_ ?_ ?_ ?_).1, hb⟩
  · intro j hj; exact ⟨by rw [ho, if_neg hj], by simp [G1, hj], rfl⟩
  · intro j hj k o; rw [updCells_other (by simp [hj])]; simp [upd]
  · intro m; rw [updCells_tmp, updCells_sv]; simp [upd]
  · intro c hc
    exact ⟨.box g ds.length, by rw [ho, if_pos rfl], Nat.le_of_lt (hg c hc), fun e => absurd e (Nat.ne_of_lt (hg c hc))⟩
  · intro hs hk off d k m h1 h2
    rw [ho, if_pos rfl] at h2
    cases h2
    rw [updCells_cell] at h1
    split at h1
    · rename_i hlt
      obtain ⟨_, hlt⟩ := hlt
      cases hdd : ds[off - 0]? with
      | none => rw [hdd] at h1; simp at h1
      | some d' =>
        rw [hdd] at h1
        simp at h1
        subst h1
        obtain ⟨v, hv, h1⟩ := hd.get _ hdd
        refine ⟨v, ?_, h1.mono hs hk⟩
        rw [hb, cell_of_row _ _ _ _ _ _ hnew]
        simpa using hv
    · exact (hc0 off (.d d) (by simpa [upd] using h1)).elim
  · intro _ _ c h1; rw [ho, if_pos rfl] at h1; cases h1; show ∃ _ _, _ ∧ _; rw [hb]; exact ⟨cs, t, hnew, by rw [← Array.length_toList, hlen]⟩
  · intro k off c h1
    refine ⟨.box g ds.length, by rw [ho, if_pos rfl], ?_⟩
    by_cases e : k = g
    · exact Nat.le_of_eq e
    · rw [updCells_other (by simp [e])] at h1
      obtain ⟨c', h2, h3⟩ := ha.heap.cgen n k off c (by simpa [upd] using h1)
      have := hg c' h2
      show k ≤ g
      omega
  · intro b hb'
    have : b = w.heap.size := by
      have : ownB G1 (updCells (upd L (.obj n) (.box g ds.length)) n g 0 ds) n = some w.heap.size := by simp [ownB, ho, hb, ownC]
      rw [this] at hb'; cases hb'; rfl
    subst this
    exact ⟨.inl ha.heap.base_le, fun h => Nat.lt_irrefl _ (ha.heap.sealed _ h), fun j hj h => Nat.lt_irrefl _ (ha.heap.own_lt h)⟩

/-- A new own slice, whose block is nobody's. -/
theorem Abs.newVec (ha : Abs E G L a w) {n g : Nat} (hg : ∀ c, L (.obj n) = some c → c.gen < g) {e : TypeId} {τ : Ty} {xs : List τ.I} {v : Value} {cs : List Value}
    (hv : w.ownsRow 0 e τ.sz v xs.length cs) (hl : RepL (RepC G.S w τ) xs cs)
    (hb : ∀ b, v.ownBlock = some b → (E.base ≤ b ∨ E.X b) ∧ ¬ G.S b ∧ ∀ j, j ≠ n → ownB G L j ≠ some b) :
    ∃ G1, Abs E G1 (upd L (.obj n) (.vec g e τ xs)) a w ∧ G1.vv n = v ∧ Step G L G1 (upd L (.obj n) (.vec g e τ xs)) ∧ Keep G.S w G1.S w := by
  let G1 : Gh := { G with vv := fun i => if i = n then v else G.vv i }
  have hvv : G1.vv n = v := by simp [G1]
  have ho : ∀ j, (upd L (.obj n) (.vec g e τ xs)) (.obj j) = if j = n then some (.vec g e τ xs) else L (.obj j) := by
    intro j; simp [upd]
  have key := Abs.change ha n (G1 := G1) (L1 := upd L (.obj n) (.vec g e τ xs)) (w1 := w) (row := none) ⟨rfl, rfl, rfl, Nat.le_refl _, fun _ _ _ => rfl⟩ (by simp) rfl ?_ ?_ ?_ ?_ ?_ ?_ ?_ ?_
  · exact ⟨G1, key.1, hvv, key.2.1, key.2.2⟩
  · intro j hj; exact ⟨by rw [ho, if_neg hj], rfl, by simp [G1, hj]⟩
  · intro j hj k o; simp [upd]
  · intro m; simp [upd]
  · intro c hc
    exact ⟨.vec g e τ xs, by rw [ho, if_pos rfl], Nat.le_of_lt (hg c hc), fun e => absurd e (Nat.ne_of_lt (hg c hc))⟩
  · intro hs hk off d k m h1 h2; rw [ho, if_pos rfl] at h2; cases h2
  · intro _ hk c h1
    rw [ho, if_pos rfl] at h1
    cases h1
    show ∃ _, _ ∧ _
    rw [hvv]
    exact ⟨cs, hv, hl⟩
  · intro k off c h1
    obtain ⟨c', h2, h3⟩ := ha.heap.cgen n k off c (by simpa [upd] using h1)
    have := hg c' h2
    exact ⟨.vec g e τ xs, by rw [ho, if_pos rfl], by show k ≤ g; omega⟩
  · intro b hb'
    have : ownB G1 (upd L (.obj n) (.vec g e τ xs)) n = v.ownBlock := by simp [ownB, ho, hvv, ownC]
    rw [this] at hb'
    exact hb b hb'

/-- An object is let go, and its block with it. -/
theorem Abs.kill (ha : Abs E G L a w) {id : Nat} {c : Cell} (ho : L (.obj id) = some c) {g : Nat} (hle : c.gen ≤ g) :
    Abs E G (upd L (.obj id) (.dead g)) a w ∧ Step G L G (upd L (.obj id) (.dead g)) ∧ ∀ j b, ownB G L id = some b → ownB G (upd L (.obj id) (.dead g)) j ≠ some b := by
  have hob : ∀ j, (upd L (.obj id) (.dead g)) (.obj j) = if j = id then some (.dead g) else L (.obj j) := by intro j; simp [upd]
  have key := Abs.change ha id (G1 := G) (L1 := upd L (.obj id) (.dead g)) (w1 := w) (row := none) ⟨rfl, rfl, rfl, Nat.le_refl _, fun _ _ _ => rfl⟩ (by simp) rfl ?_ ?_ ?_ ?_ ?_ ?_ ?_ ?_
  · refine ⟨key.1, key.2.1, fun j b hb h => ?_⟩
    by_cases e' : j = id
    · subst e'; simp [ownB, hob, ownC] at h
    · have : ownB G (upd L (.obj id) (.dead g)) j = ownB G L j := ownB_congr (by rw [hob, if_neg e']) rfl rfl
      rw [this] at h
      exact ha.heap.apart j id b e' h hb
  · intro j hj; exact ⟨by rw [hob, if_neg hj], rfl, rfl⟩
  · intro j hj k o; simp [upd]
  · intro m; simp [upd]
  · intro d hc
    rw [ho] at hc
    cases hc
    exact ⟨.dead g, by rw [hob, if_pos rfl], hle, fun _ => ⟨by cases c <;> trivial, rfl, rfl⟩⟩
  · intro hs hk off d k m h1 h2; rw [hob, if_pos rfl] at h2; cases h2
  · intro _ _ d h1; rw [hob, if_pos rfl] at h1; cases h1; trivial
  · intro k off d h1
    obtain ⟨c', h2, h3⟩ := ha.heap.cgen id k off d (by simpa [upd] using h1)
    rw [ho] at h2
    cases h2
    exact ⟨.dead g, by rw [hob, if_pos rfl], Nat.le_trans h3 hle⟩
  · intro b hb'
    have : ownB G (upd L (.obj id) (.dead g)) id = none := by simp [ownB, hob, ownC]
    rw [this] at hb'
    cases hb'

/-- A new object, whose block is nobody's. -/
theorem Abs.newObj (ha : Abs E G L a w) {n : Nat} {c : Cell} (hg : ∀ c0, L (.obj n) = some c0 → c0.gen < c.gen) {G1 : Gh} (hS : G1.S = G.S) (hG : ∀ j, j ≠ n → G1.blk j = G.blk j ∧ G1.vv j = G.vv j) (hok : ObjOK G1 w n c)
    (hb : ∀ b, ownC G1 n c = some b → (E.base ≤ b ∨ E.X b) ∧ ¬ G.S b ∧ ∀ j, ownB G L j ≠ some b) :
    After E G L a w G1 (upd L (.obj n) c) := by
  have ho : ∀ j, (upd L (.obj n) c) (.obj j) = if j = n then some c else L (.obj j) := by
    intro j; simp [upd]
  have hc0 : ∀ o k d, L (.cell n k o) = some d → k < c.gen := by
    intro o k d h
    obtain ⟨c', h1, h2⟩ := ha.heap.cgen n k o d h
    have := hg c' h1
    omega
  have key := Abs.change ha n (G1 := G1) (L1 := upd L (.obj n) c) (w1 := w) (row := none) ⟨rfl, rfl, rfl, Nat.le_refl _, fun _ _ _ => rfl⟩ (by simp) hS ?_ ?_ ?_ ?_ ?_ ?_ ?_ ?_
  · exact ⟨key.1, key.2.1, key.2.2⟩
  · intro j hj; exact ⟨by rw [ho, if_neg hj], (hG j hj).1, (hG j hj).2⟩
  · intro j hj k o; simp [upd]
  · intro m; simp [upd]
  · intro d hc
    exact ⟨c, by rw [ho, if_pos rfl], Nat.le_of_lt (hg d hc), fun e => absurd e (Nat.ne_of_lt (hg d hc))⟩
  · intro hs hk off d k m h1 h2
    rw [ho, if_pos rfl] at h2
    cases h2
    exact absurd (hc0 off k _ (by simpa [upd] using h1)) (Nat.lt_irrefl _)
  · intro _ hk d h1
    rw [ho, if_pos rfl] at h1
    cases h1
    exact hok
  · intro k off d h1
    exact ⟨c, by rw [ho, if_pos rfl], Nat.le_of_lt (hc0 off k d (by simpa [upd] using h1))⟩
  · intro b hb'
    have : ownB G1 (upd L (.obj n) c) n = ownC G1 n c := ownB_some (by rw [ho, if_pos rfl])
    rw [this] at hb'
    exact ⟨(hb b hb').1, (hb b hb').2.1, fun j _ => (hb b hb').2.2 j⟩

/-- Things of an own slice are exchanged, in its place. -/
theorem Abs.updVec (ha : Abs E G L a w) {id g : Nat} {e : TypeId} {τ : Ty} {xs ys : List τ.I} (ho : L (.obj id) = some (.vec g e τ xs)) {w1 : World} (hg : w.grownBy w1 (G.vv id).ownBlock) {cs : List Value}
    (hw : w1.ownsRow 0 e τ.sz (G.vv id) ys.length cs) (hl : Keep G.S w G.S w1 → RepL (RepC G.S w1 τ) ys cs) (hlen : xs.length = ys.length) : Abs E G (upd L (.obj id) (.vec g e τ ys)) a w1 := by
  have hob : ∀ j, (upd L (.obj id) (.vec g e τ ys)) (.obj j) = if j = id then some (.vec g e τ ys) else L (.obj j) := by intro j; simp [upd]
  have hown : ownB G L id = (G.vv id).ownBlock := by simp [ownB, ho, ownC]
  refine (Abs.change ha id (G1 := G) (L1 := upd L (.obj id) (.vec g e τ ys)) hg ?_ rfl ?_ ?_ ?_ ?_ ?_ ?_ ?_ ?_).1
  · intro k hk
    have h1 := ha.heap.own id k (hown.trans hk)
    exact ⟨h1.1, h1.2, fun j hj h => ha.heap.apart j id k hj h (hown.trans hk)⟩
  · intro j hj; exact ⟨by rw [hob, if_neg hj], rfl, rfl⟩
  · intro j hj k o; simp [upd]
  · intro m; simp [upd]
  · intro c hc
    rw [ho] at hc
    cases hc
    exact ⟨.vec g e τ ys, by rw [hob, if_pos rfl], Nat.le_refl _, fun _ => ⟨⟨rfl, hlen⟩, rfl, rfl⟩⟩
  · intro hs hk off d k m h1 h2; rw [hob, if_pos rfl] at h2; cases h2
  · intro _ hk d h1
    rw [hob, if_pos rfl] at h1
    cases h1
    exact ⟨cs, hw, hl hk⟩
  · intro k off c h1
    obtain ⟨c', h2, h3⟩ := ha.heap.cgen id k off c (by simpa [upd] using h1)
    rw [ho] at h2
    cases h2
    exact ⟨.vec g e τ ys, by rw [hob, if_pos rfl], h3⟩
  · intro b hb'
    have : ownB G (upd L (.obj id) (.vec g e τ ys)) id = (G.vv id).ownBlock := by simp [ownB, hob, ownC]
    rw [this] at hb'
    have h1 := ha.heap.own id b (hown.trans hb')
    exact ⟨h1.1, h1.2, fun j hj h => ha.heap.apart j id b hj h (hown.trans hb')⟩

/-- Cells of a box are exchanged. -/
theorem Abs.updBox (ha : Abs E G L a w) {id g off n0 : Nat} (ho : L (.obj id) = some (.box g n0)) {ds : List D} {vs : List Value} {cur new : Array Value} {t : TypeId}
    (hcur : w.heap[G.blk id]? = some (.cells cur t (0, 0))) (hd : DCs G L w ds vs) (hsize : new.size = cur.size) (hnew : ∀ j, new[j]? = if off ≤ j ∧ j < off + vs.length then vs[j - off]? else cur[j]?) :
    Abs E G (updCells L id g off ds) a (w.setRow (G.blk id) new) := by
  have hrow : (w.setRow (G.blk id) new).heap[G.blk id]? = some (.cells new t (0, 0)) := setRow_heap w _ cur new t (0, 0) hcur
  have hg : w.grownBy (w.setRow (G.blk id) new) (some (G.blk id)) := ⟨rfl, rfl, rfl, by simp, fun k _ hk => setRow_other w _ k _ fun e => hk (by rw [e])⟩
  have hown : ownB G L id = some (G.blk id) := by simp [ownB, ho, ownC]
  have hlen := hd.length
  have hsz : new.size = n0 := by
    obtain ⟨cs', e', h1, h2⟩ := ha.heap.box id g n0 ho
    rw [hcur] at h1
    cases h1
    rw [hsize, h2]
  refine (Abs.change ha id (G1 := G) (L1 := updCells L id g off ds) hg ?_ rfl ?_ ?_ ?_ ?_ ?_ ?_ ?_ ?_).1
  · intro k hk
    cases hk
    have h1 := ha.heap.own id _ hown
    exact ⟨h1.1, h1.2, fun j hj h => ha.heap.apart j id _ hj h hown⟩
  · intro j hj; exact ⟨updCells_obj, rfl, rfl⟩
  · intro j hj k o; exact updCells_other (by simp [hj])
  · intro m; exact ⟨updCells_tmp, updCells_sv⟩
  · intro c hc
    exact ⟨c, by rw [updCells_obj]; exact hc, Nat.le_refl _, fun _ => ⟨c.alike_refl, rfl, rfl⟩⟩
  · intro hs hk o d k m h1 h2
    rw [updCells_obj, ho] at h2
    cases h2
    rw [cell_of_row _ _ _ _ _ _ hrow]
    rw [updCells_cell] at h1
    rw [hnew, hlen]
    split at h1
    · rename_i hlt
      rw [if_pos hlt]
      cases hdd : ds[o - off]? with
      | none => rw [hdd] at h1; simp at h1
      | some d' =>
        rw [hdd] at h1
        simp at h1
        subst h1
        obtain ⟨v, hv, h1⟩ := hd.get _ hdd
        exact ⟨v, hv, h1.mono hs hk⟩
    · rename_i hlt
      rw [if_neg hlt]
      obtain ⟨v, hv, h1⟩ := ha.heap.cell id o d g n0 h1 ho
      rw [cell_of_row _ _ _ _ _ _ hcur] at hv
      exact ⟨v, hv, h1.mono hs hk⟩
  · intro _ hk d h1; rw [updCells_obj, ho] at h1; cases h1; exact ⟨new, t, hrow, hsz⟩
  · intro k o c h1
    rw [updCells_obj]
    by_cases e : k = g
    · exact ⟨.box g n0, ho, Nat.le_of_eq e⟩
    · rw [updCells_other (by simp [e])] at h1
      exact ha.heap.cgen id k o c h1
  · intro b hb'
    have : ownB G (updCells L id g off ds) id = some (G.blk id) := by simp [ownB, updCells_obj, ho, ownC]
    rw [this] at hb'
    cases hb'
    have h1 := ha.heap.own id _ hown
    exact ⟨h1.1, h1.2, fun j hj h => ha.heap.apart j id _ hj h hown⟩

end
end Go.Proofs.YtllhidkadhoipaaDoor.Ab
