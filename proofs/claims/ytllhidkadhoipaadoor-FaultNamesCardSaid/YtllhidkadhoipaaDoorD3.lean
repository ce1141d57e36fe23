/- What becomes of an abstract memory when a call hands back what it was handed to write to. For every program, under no condition. -/
import Derived.Test.YtllhidkadhoipaaDoorD2
namespace Go.Proofs.YtllhidkadhoipaaDoor.Ab
open Go Go.RowKit
set_option linter.unusedSimpArgs false
set_option linter.unusedVariables false
set_option linter.unusedSectionVars false

section
variable {Γ : FuncId → List D → D → Prop} {E : Env} {G : Gh} {L L' : Mem} {a : Act} {w : World} {rs ws : List Loc}

/-! ### Before the call -/

theorem killIds_ok {p : Pr} : ∀ {is : List Nat} {L : Mem} {rs ws : List Loc}, Run Γ (killIds is p) L L' rs ws → Abs E G L a w → ∃ L1 rs' ws', Run Γ p L1 L' rs' ws' ∧ Abs E G L1 a w ∧
    (∀ l, (∀ j, l = .obj j → j ∉ is) → L1 l = L l) ∧ (∀ j, j ∈ is → ownB G L1 j = none) ∧ Step G L G L1
  | [], L, _, _, h, ha => ⟨L, _, _, h, ha, fun _ _ => rfl, fun _ h => (by cases h), Step.refl _ _⟩
  | i :: is, L, _, _, h, ha => by
    simp only [killIds] at h
    cases h with
    | rd h =>
      revert h
      dsimp only
      split
      · rename_i c hc
        intro h
        cases h with
        | wr h =>
          obtain ⟨k1, k2, _⟩ := ha.kill hc (Nat.le_succ c.gen)
          obtain ⟨L1, rs1, ws1, h1, a1, e1, n1, s1⟩ := killIds_ok h k1
          refine ⟨L1, rs1, ws1, h1, a1, fun l hl => ?_, fun j hj => ?_, k2.trans s1⟩
          · rw [e1 l (fun j hj hm => hl j hj (List.mem_cons_of_mem _ hm))]
            simp only [upd]
            rw [if_neg]
            intro e
            exact hl i e List.mem_cons_self
          · by_cases hm : j ∈ is
            · exact n1 j hm
            · have hji : j = i := by rcases List.mem_cons.1 hj with h | h; exact h; exact absurd h hm
              subst hji
              unfold ownB
              rw [e1 (.obj j) (fun q hq hm' => by cases hq; exact hm hm')]
              simp [upd, ownC]
      · intro h; cases h

/-- Nothing is said of a cell. -/
theorem Abs.hushed (ha : Abs E G L a w) (id g off : Nat) (ho : ∃ c, L (.obj id) = some c ∧ g ≤ c.gen) : Abs E G (upd L (.cell id g off) (.dead 0)) a w := by
  have hs : ∀ l, l ≠ .cell id g off → upd L (.cell id g off) (.dead 0) l = L l := fun l hl => by simp [upd, hl]
  have hob : ∀ j, upd L (.cell id g off) (.dead 0) (.obj j) = L (.obj j) := fun j => hs _ (by simp)
  have hst : Step G L G (upd L (.cell id g off) (.dead 0)) := Step.of_obj hob
  have hk := Keep.refl G.S w
  have how : ∀ j, ownB G (upd L (.cell id g off) (.dead 0)) j = ownB G L j := fun j => ownB_congr (hob j) rfl rfl
  refine ⟨⟨?_, fun j c h1 => ha.heap.obj j c (by rw [← hob]; exact h1), ?_, fun j b hb => ha.heap.own j b (by rw [← how]; exact hb), fun i j b hij hb => by rw [how] at hb ⊢; exact ha.heap.apart i j b hij hb, ha.heap.sealed, ha.heap.old, ha.heap.under, ha.heap.start⟩, ha.defers, ha.size, ?_, ?_⟩
  · intro j o d k n h1 h2
    by_cases e : Loc.cell j k o = .cell id g off
    · rw [e] at h1; simp [upd] at h1
    · rw [hs _ e] at h1
      obtain ⟨v, hv, hd⟩ := ha.heap.cell j o d k n h1 (by rw [← hob]; exact h2)
      exact ⟨v, hv, hd.mono hst hk⟩
  · intro j k o c h1
    rw [hob]
    by_cases e : Loc.cell j k o = .cell id g off
    · cases e; exact ho
    · rw [hs _ e] at h1; exact ha.heap.cgen j k o c h1
  · intro n d h1
    have h1 : L (.tmp n) = some (.d d) := by rw [← hs _ (by simp)]; exact h1
    exact ⟨(ha.tmp n d h1).1, (ha.tmp n d h1).2.mono hst hk⟩
  · intro n d h1
    have h1 : L (.sv n) = some (.d d) := by rw [← hs _ (by simp)]; exact h1
    exact (ha.sv n d h1).mono hst hk

theorem hush_ok {id g : Nat} {p : Pr} : ∀ {n i : Nat} {L : Mem} {rs ws : List Loc}, Run Γ (hush id g i n p) L L' rs ws → Abs E G L a w → (∃ c, L (.obj id) = some c ∧ g ≤ c.gen) → ∃ L1 rs' ws', Run Γ p L1 L' rs' ws' ∧ Abs E G L1 a w ∧
    (∀ l, (∀ o, l = .cell id g o → o < i ∨ i + n ≤ o) → L1 l = L l) ∧ ∀ o, i ≤ o → o < i + n → L1 (.cell id g o) = some (.dead 0)
  | 0, i, L, _, _, h, ha, _ => ⟨L, _, _, h, ha, fun _ _ => rfl, fun o h1 h2 => by omega⟩
  | n + 1, i, L, _, _, h, ha, ho => by
    simp only [hush] at h
    cases h with
    | wr h =>
      have a1 := ha.hushed id g i ho
      obtain ⟨L1, rs1, ws1, h1, a2, e1, n1⟩ := hush_ok h a1 (by simpa [upd] using ho)
      refine ⟨L1, rs1, ws1, h1, a2, fun l hl => ?_, fun o ho1 ho2 => ?_⟩
      · rw [e1 l (fun o e => by rcases hl o e with h | h; exact .inl (by omega); exact .inr (by omega))]
        simp only [upd]
        rw [if_neg]
        intro e
        have := hl i e
        omega
      · by_cases e : o = i
        · subst e
          rw [e1 _ (fun q hq => by cases hq; exact .inl (by omega))]
          simp [upd]
        · exact n1 o (by omega) (by omega)

/-- The boxes that are handed on, with nothing said of their cells. -/
def Bare (L : Mem) (id n : Nat) : Prop := ∃ g, L (.obj id) = some (.box g n) ∧ ∀ off d, L (.cell id g off) ≠ some (.d d)

def topIds : List Sh → List D → List Nat
  | .box _ :: ss, d :: ds => (match d with
    | .ptr i _ _ => [i]
    | _ => []) ++ topIds ss ds
  | _ :: ss, _ :: ds => topIds ss ds
  | _, _ => []

theorem hushAll_ok {p : Pr} : ∀ {ss : List Sh} {ds : List D} {iss : List (List Nat)} {L : Mem} {rs ws : List Loc}, Run Γ (hushAll ss ds p) L L' rs ws → Abs E G L a w → Tops L ss ds iss →
    ∃ L1 rs' ws', Run Γ p L1 L' rs' ws' ∧ Abs E G L1 a w ∧ (∀ j, L1 (.obj j) = L (.obj j)) ∧ Tops L1 ss ds iss ∧ (∀ j n, Bare L j n → Bare L1 j n) ∧ ∀ j ∈ topIds ss ds, ∃ n, Bare L1 j n
  | [], [], [], L, _, _, h, ha, ht => ⟨L, _, _, h, ha, fun _ => rfl, ht, fun _ _ h => h, fun _ h => by cases h⟩
  | s :: ss, d :: ds, is :: iss, L, rs0, ws0, h, ha, ht => by
    by_cases hb : ∃ c, s = .box c
    · obtain ⟨c, rfl⟩ := hb
      obtain ⟨⟨i, j, is', rfl, rfl, ho⟩, ht⟩ := ht
      simp only [hushAll] at h
      obtain ⟨L1, rs1, ws1, h1, a1, e1, n1⟩ := hush_ok h ha ⟨_, ho, Nat.le_refl _⟩
      have hob : ∀ q, L1 (.obj q) = L (.obj q) := fun q => e1 _ (by simp)
      have hbare : ∀ q n, Bare L q n → Bare L1 q n := by
        rintro q n ⟨g, h2, h3⟩
        refine ⟨g, by rw [hob]; exact h2, fun off d hd => ?_⟩
        by_cases e : ∃ o, Loc.cell q g off = .cell i j o ∧ o < 0 + c.csz
        · obtain ⟨o, e, hlt⟩ := e
          rw [e, n1 o (Nat.zero_le _) hlt] at hd
          cases hd
        · rw [e1 _ (fun o eo => .inr (Nat.le_of_not_lt fun hlt => e ⟨o, eo, hlt⟩))] at hd
          exact h3 off d hd
      have htops : ∀ {ss : List Sh} {ds : List D} {iss : List (List Nat)}, Tops L ss ds iss → Tops L1 ss ds iss := by
        intro ss
        induction ss with
        | nil => intro ds iss h; cases ds <;> cases iss <;> exact h
        | cons s ss ih =>
          intro ds iss h
          cases ds with
          | nil => cases s <;> exact h.elim
          | cons d ds =>
            cases iss with
            | nil => cases s <;> exact h.elim
            | cons is iss =>
              cases s with
              | box c => obtain ⟨⟨i, j, is', e2, e3, e4⟩, h⟩ := h; exact ⟨⟨i, j, is', e2, e3, by rw [hob]; exact e4⟩, ih h⟩
              | _ => exact ih (show Tops L ss ds iss from h)
      obtain ⟨L2, rs2, ws2, h2, a2, e2, t2, b2, n2⟩ := hushAll_ok h1 a1 (htops ht)
      refine ⟨L2, rs2, ws2, h2, a2, fun q => (e2 q).trans (hob q), ⟨⟨i, j, is', rfl, rfl, by rw [e2, hob]; exact ho⟩, t2⟩, fun q n hq => b2 q n (hbare q n hq), fun q hq => ?_⟩
      rcases List.mem_append.1 hq with hq | hq
      · simp at hq
        subst hq
        refine ⟨c.csz, b2 q c.csz ⟨j, by rw [hob]; exact ho, fun off d hd => ?_⟩⟩
        by_cases hlt : off < 0 + c.csz
        · rw [n1 off (Nat.zero_le _) hlt] at hd; cases hd
        · have hL := (e1 (.cell q j off) (fun o eo => by cases eo; exact .inr (by omega))).symm.trans hd
          obtain ⟨us, e, hu1, hu2⟩ := ha.heap.box q j _ ho
          obtain ⟨v, hv, _⟩ := ha.heap.cell q off d j _ hL ho
          rw [cell_of_row _ _ _ _ _ _ hu1] at hv
          have := (Array.getElem?_eq_some_iff.1 hv).1
          omega
      · exact n2 q hq
    · have hrest : Run Γ (hushAll ss ds p) L L' rs0 ws0 := by cases s <;> first | exact h | exact absurd ⟨_, rfl⟩ hb
      have ht' : Tops L ss ds iss := by cases s <;> first | exact ht | exact absurd ⟨_, rfl⟩ hb
      obtain ⟨L2, rs2, ws2, h2, a2, e2, t2, b2, n2⟩ := hushAll_ok hrest ha ht'
      refine ⟨L2, rs2, ws2, h2, a2, e2, by cases s <;> first | exact t2 | exact absurd ⟨_, rfl⟩ hb, b2, fun q hq => n2 q (by cases s <;> first | exact hq | exact absurd ⟨_, rfl⟩ hb)⟩
  | [], _ :: _, iss, _, _, _, _, _, ht => by cases iss <;> exact ht.elim
  | s :: _, [], iss, _, _, _, _, _, ht => by cases s <;> cases iss <;> exact ht.elim
  | [], [], _ :: _, _, _, _, _, _, ht => ht.elim
  | s :: _, _ :: _, [], _, _, _, _, _, ht => by cases s <;> exact ht.elim

/-! ### The call -/

/-- Behind a call that wrote to the blocks of boxes of which nothing is said, and to such as were nobody's. -/
theorem Abs.calledIo (ha : Abs E G L a w) {w' : World} {S' : Nat → Prop} {B : List Nat} (hu : Under w.heap.size (· ∈ B) w w') (h1 : ∀ b, G.S b → S' b) (h2 : ∀ b, S' b → b < w'.heap.size ∧ (b < w.heap.size → G.S b ∨ b ∈ B))
    (hB : ∀ b ∈ B, (E.base ≤ b ∨ E.X b) ∧ ¬ G.S b) (hown : ∀ id b, ownB G L id = some b → b ∈ B → ∃ n, Bare L id n ∧ (∃ us e, w'.heap[b]? = some (.cells us e (0, 0)) ∧ us.size = n) ∧ ¬ S' b) :
    Abs E { G with S := S' } L a w' := by
  let G1 : Gh := { G with S := S' }
  have hs : Step G L G1 L := fun _ c h => ⟨c, h, Nat.le_refl _, fun _ => ⟨c.alike_refl, rfl, rfl⟩⟩
  have hsame : ∀ b, b < w.heap.size → b ∉ B → w'.heap[b]? = w.heap[b]? := fun b hlt hb => hu.block b hlt hb
  have hk : Keep G.S w G1.S w' := ⟨h1, fun b hb => hsame b (ha.heap.sealed b hb) fun h => (hB b h).2 hb⟩
  have hob : ∀ id, ownB G1 L id = ownB G L id := fun id => ownB_congr rfl rfl rfl
  refine ⟨⟨?_, ?_, ha.heap.cgen, ?_, ?_, fun b hb => (h2 b hb).1, ?_, ?_, ha.heap.start⟩, ha.defers, ha.size, ?_, fun n d hn => (ha.sv n d hn).mono hs hk⟩
  · intro id off d g n e1 e2
    have hb : ownB G L id = some (G.blk id) := ownB_some e2
    by_cases hm : G.blk id ∈ B
    · obtain ⟨m, ⟨g', e3, e4⟩, _⟩ := hown id _ hb hm
      rw [e2] at e3
      cases e3
      exact absurd e1 (e4 off d)
    · obtain ⟨v, hv, hd⟩ := ha.heap.cell id off d g n e1 e2
      exact ⟨v, (World.cell?_of_block (w := w) (hsame _ (ha.heap.own_lt hb) hm)).trans hv, hd.mono hs hk⟩
  · intro id c e1
    by_cases hm : ∃ b, ownB G L id = some b ∧ b ∈ B
    · obtain ⟨b, hb, hm⟩ := hm
      obtain ⟨n, ⟨g, e3, _⟩, ⟨us, e, e4, e5⟩, _⟩ := hown id b hb hm
      rw [e1] at e3
      cases e3
      have : ownB G L id = some (G.blk id) := ownB_some e1
      rw [hb] at this
      cases this
      exact ⟨us, e, e4, e5⟩
    · exact (ha.heap.obj id c e1).kept hk rfl rfl fun b hb => hsame b ((ha.heap.obj id c e1).own_lt hb) fun h => hm ⟨b, (ownB_some e1).trans hb, h⟩
  · intro id b hb
    rw [hob] at hb
    obtain ⟨k1, k2⟩ := ha.heap.own id b hb
    refine ⟨k1, fun h => ?_⟩
    rcases (h2 b h).2 (ha.heap.own_lt hb) with h3 | h3
    · exact k2 h3
    · obtain ⟨_, _, _, h4⟩ := hown id b hb h3
      exact h4 h
  · intro i j b hij hb; rw [hob] at hb ⊢; exact ha.heap.apart i j b hij hb
  · intro b hb
    have hlt : b < w.heap.size := Nat.lt_of_lt_of_le hb ha.heap.base_le
    refine ⟨fun h0 => h1 b ((ha.heap.old b hb).1 h0), fun h => ?_⟩
    rcases (h2 b h).2 hlt with h3 | h3
    · exact (ha.heap.old b hb).2 h3
    · rcases (hB b h3).1 with h4 | h4
      · omega
      · exact .inr h4
  · refine ha.heap.under.trans ⟨hu.os, hu.tape, hu.output, hu.size, fun k hk hx => hu.block k (Nat.lt_of_lt_of_le hk ha.heap.base_le) fun hm => ?_⟩
    rcases (hB k hm).1 with h4 | h4
    · omega
    · exact hx h4
  · intro n d hn
    exact ⟨(ha.tmp n d hn).1, (ha.tmp n d hn).2.mono hs hk⟩

/-! ### Behind the call -/

/-- Blocks that are nobody's, and may be ours. -/
def FreeB (E : Env) (G : Gh) (L : Mem) (B : List Nat) : Prop := B.Nodup ∧ ∀ b ∈ B, (E.base ≤ b ∨ E.X b) ∧ ¬ G.S b ∧ ∀ id, ownB G L id ≠ some b

theorem FreeB.right {B1 B2 : List Nat} (h : FreeB E G L (B1 ++ B2)) : FreeB E G L B2 := ⟨(List.nodup_append.1 h.1).2.1, fun b hb => h.2 b (List.mem_append_right _ hb)⟩
theorem FreeB.tail {b : Nat} {B : List Nat} (h : FreeB E G L (b :: B)) : FreeB E G L B := ⟨(List.nodup_cons.1 h.1).2, fun b hb => h.2 b (List.mem_cons_of_mem _ hb)⟩

/-- A cell is told. -/
theorem Abs.tell (h : Abs E G L a w) {id g n off : Nat} {d : D} {v0 : Value} (ho : L (.obj id) = some (.box g n)) (hv0 : w.cell? ⟨G.blk id, off, none⟩ = some v0) (hd : DC1 G L w d v0) : After E G L a w G (upd L (.cell id g off) (.d d)) := by
  have hob : ∀ j, upd L (.cell id g off) (.d d) (.obj j) = L (.obj j) := fun j => by simp [upd]
  have hs : Step G L G (upd L (.cell id g off) (.d d)) := Step.of_obj hob
  have hk := Keep.refl G.S w
  have how : ∀ j, ownB G (upd L (.cell id g off) (.d d)) j = ownB G L j := fun j => ownB_congr (hob j) rfl rfl
  refine ⟨⟨⟨?_, fun j c h1 => h.heap.obj j c (by rw [← hob]; exact h1), ?_, fun j b h1 => h.heap.own j b (by rw [← how]; exact h1), fun i j b hij h1 => by rw [how] at h1 ⊢; exact h.heap.apart i j b hij h1, h.heap.sealed, h.heap.old, h.heap.under, h.heap.start⟩, h.defers, h.size, ?_, fun n d1 h1 => (h.sv n d1 (by simpa [upd] using h1)).mono hs hk⟩, hs, hk⟩
  · intro id1 off1 d1 g1 n1 h1 h2
    rw [hob] at h2
    unfold upd at h1
    split at h1
    · rename_i e
      cases h1
      cases e
      exact ⟨v0, hv0, hd.mono hs hk⟩
    · obtain ⟨v, hv, hdv⟩ := h.heap.cell id1 off1 d1 g1 n1 h1 h2
      exact ⟨v, hv, hdv.mono hs hk⟩
  · intro id1 g1 off1 c h1
    unfold upd at h1
    rw [hob]
    split at h1
    · rename_i e
      cases e
      exact ⟨_, ho, Nat.le_refl _⟩
    · exact h.heap.cgen id1 g1 off1 c h1
  · intro n d1 h1
    have : L (.tmp n) = some (.d d1) := by simpa [upd] using h1
    exact ⟨(h.tmp n d1 this).1, (h.tmp n d1 this).2.mono hs hk⟩

/-- What stays as it is: the objects up to a number, and the blocks in which they lie. -/
structure Upto (m : Nat) (G : Gh) (L : Mem) (G1 : Gh) (L1 : Mem) : Prop where
  obj : ∀ j, j ≤ m → L1 (.obj j) = L (.obj j) ∧ G1.blk j = G.blk j ∧ G1.vv j = G.vv j
  S : G1.S = G.S

theorem Upto.refl (m : Nat) (G : Gh) (L : Mem) : Upto m G L G L := ⟨fun _ _ => ⟨rfl, rfl, rfl⟩, rfl⟩
theorem Upto.trans {m : Nat} {G G1 G2 : Gh} {L L1 L2 : Mem} (h : Upto m G L G1 L1) (k : Upto m G1 L1 G2 L2) : Upto m G L G2 L2 :=
  ⟨fun j hj => ⟨(k.obj j hj).1.trans (h.obj j hj).1, (k.obj j hj).2.1.trans (h.obj j hj).2.1, (k.obj j hj).2.2.trans (h.obj j hj).2.2⟩, k.S.trans h.S⟩
theorem Upto.le {m m' : Nat} {G G1 : Gh} {L L1 : Mem} (h : Upto m G L G1 L1) (hm : m' ≤ m) : Upto m' G L G1 L1 := ⟨fun j hj => h.obj j (Nat.le_trans hj hm), h.S⟩

/-- An object that takes a free block, if any. -/
theorem Abs.give (ha : Abs E G L a w) {i : Nat} {c : Cell} {B1 B : List Nat} (hf : FreeB E G L (B1 ++ B)) (hg : c.gen = nextGen (L (.obj i))) {G1 : Gh} (hS : G1.S = G.S) (hG : ∀ j, j ≠ i → G1.blk j = G.blk j ∧ G1.vv j = G.vv j)
    (hok : ObjOK G1 w i c) (hb : ∀ b, ownC G1 i c = some b → b ∈ B1) :
    After E G L a w G1 (upd L (.obj i) c) ∧ (∀ b ∈ B, (E.base ≤ b ∨ E.X b) ∧ ¬ G1.S b ∧ ∀ id, ownB G1 (upd L (.obj i) c) id ≠ some b) ∧ ∀ b ∈ B1, ownC G1 i c ≠ some b → (E.base ≤ b ∨ E.X b) ∧ ¬ G1.S b ∧ ∀ id, ownB G1 (upd L (.obj i) c) id ≠ some b := by
  have hgen : ∀ c0, L (.obj i) = some c0 → c0.gen < c.gen := by
    intro c0 h0
    rw [hg, h0]
    exact Nat.lt_succ_self _
  have key : ∀ b ∈ B1 ++ B, ownC G1 i c ≠ some b → (E.base ≤ b ∨ E.X b) ∧ ¬ G1.S b ∧ ∀ id, ownB G1 (upd L (.obj i) c) id ≠ some b := by
    intro b hm hne
    obtain ⟨k1, k2, k3⟩ := hf.2 b hm
    refine ⟨k1, by rw [hS]; exact k2, fun id h => ?_⟩
    by_cases e : id = i
    · subst e
      rw [ownB_some (c := c) (by simp [upd])] at h
      exact hne h
    · have : ownB G1 (upd L (.obj i) c) id = ownB G L id := ownB_congr (by simp [upd, e]) (hG id e).1 (hG id e).2
      rw [this] at h
      exact k3 id h
  refine ⟨ha.newObj hgen hS hG hok fun b hb' => hf.2 b (List.mem_append_left _ (hb b hb')), fun b hm => key b (List.mem_append_right _ hm) fun h => ?_, fun b hm => key b (List.mem_append_left _ hm)⟩
  exact (List.nodup_append.1 hf.1).2.2 b (hb b h) b hm rfl

theorem sid_gt (id off : Nat) : id < sid id off := by unfold sid; omega

theorem giveVec_ok {e : TypeId} {τ : Ty} {xs : List τ.I} {i : Nat} {k : D → Pr} {v : Value} {B1 B : List Nat} (h : Run Γ (giveVec e τ xs i k) L L' rs ws) (ha : Abs E G L a w) (hf : FreeB E G L (B1 ++ B)) (ho : Own G.S w (.vec e τ) xs [v] B1) :
    ∃ d G1 L1 rs' ws', Run Γ (k d) L1 L' rs' ws' ∧ After E G L a w G1 L1 ∧ FreeB E G1 L1 B ∧ G1.S = G.S ∧ (∀ j, j ≠ i → L1 (.obj j) = L (.obj j) ∧ G1.blk j = G.blk j ∧ G1.vv j = G.vv j) ∧ DC1 G1 L1 w d v ∧ d.isAgg = false := by
  obtain ⟨v', us, e1, h1, h2, rfl⟩ := ho
  cases e1
  simp only [giveVec] at h
  cases h with
  | rd h =>
    cases h with
    | wr h =>
      let G1 : Gh := { G with vv := fun j => if j = i then v else G.vv j }
      have hv : G1.vv i = v := by simp [G1]
      have hown : ownC G1 i (.vec (nextGen (L (.obj i))) e τ xs) = v.ownBlock := by simp [ownC, hv]
      obtain ⟨k1, k2, _⟩ := ha.give (i := i) (c := .vec (nextGen (L (.obj i))) e τ xs) hf rfl (G1 := G1) rfl (fun j hj => ⟨rfl, by simp [G1, hj]⟩) ⟨us, by rw [hv]; exact h1, h2⟩ (fun b hb => by rw [hown] at hb; simp [hb])
      exact ⟨_, G1, _, _, _, h, k1, ⟨(List.nodup_append.1 hf.1).2.1, k2⟩, rfl, fun j hj => ⟨by simp [upd, hj], rfl, by simp [G1, hj]⟩, ⟨ownsRow_plain h1, .vec (nextGen (L (.obj i))) e τ xs, by simp [upd], Nat.le_refl _, fun _ => hv.symm⟩, rfl⟩

theorem giveMap_ok {κ τ : Ty} {xs : List (κ.I × τ.I)} {i : Nat} {k : D → Pr} {v : Value} {B1 B : List Nat} (h : Run Γ (giveMap κ τ xs i k) L L' rs ws) (ha : Abs E G L a w) (hf : FreeB E G L (B1 ++ B)) (ho : Own G.S w (.map κ τ) xs [v] B1) :
    ∃ d G1 L1 rs' ws', Run Γ (k d) L1 L' rs' ws' ∧ After E G L a w G1 L1 ∧ FreeB E G1 L1 B ∧ G1.S = G.S ∧ (∀ j, j ≠ i → L1 (.obj j) = L (.obj j) ∧ G1.blk j = G.blk j ∧ G1.vv j = G.vv j) ∧ DC1 G1 L1 w d v ∧ d.isAgg = false := by
  obtain ⟨b, es, cl, e1, h1, h2, rfl⟩ := ho
  cases e1
  simp only [giveMap] at h
  cases h with
  | rd h =>
    cases h with
    | wr h =>
      let G1 : Gh := { G with blk := fun j => if j = i then b else G.blk j }
      have hv : G1.blk i = b := by simp [G1]
      obtain ⟨k1, k2, _⟩ := ha.give (i := i) (c := .map (nextGen (L (.obj i))) κ τ xs) hf rfl (G1 := G1) rfl (fun j hj => ⟨by simp [G1, hj], rfl⟩) ⟨es, cl, by rw [hv]; exact h1, h2⟩ (fun b' hb => by simp only [ownC, hv, Option.some.injEq] at hb; simp [hb])
      exact ⟨_, G1, _, _, _, h, k1, ⟨(List.nodup_append.1 hf.1).2.1, k2⟩, rfl, fun j hj => ⟨by simp [upd, hj], by simp [G1, hj], rfl⟩, ⟨rfl, .map (nextGen (L (.obj i))) κ τ xs, by simp [upd], Nat.le_refl _, fun _ => by show Value.map (some b) = .map (some (G1.blk i)); rw [hv]⟩, rfl⟩

theorem After.own {G1 : Gh} {L1 : Mem} (h : After E G L a w G1 L1) (hS : G1.S = G.S) {s : Sh} {x : s.ty.I} {cs : List Value} {B : List Nat} (ho : Own G.S w s x cs B) : Own G1.S w s x cs B := by rw [hS]; exact ho

theorem FreeB.tell {B : List Nat} (hf : FreeB E G L B) (id g off : Nat) (c : Cell) : FreeB E G (upd L (.cell id g off) c) B :=
  ⟨hf.1, fun b hb => ⟨(hf.2 b hb).1, (hf.2 b hb).2.1, fun j => by rw [show ownB G (upd L (.cell id g off) c) j = ownB G L j from ownB_congr (by simp [upd]) rfl rfl]; exact (hf.2 b hb).2.2 j⟩⟩

theorem tellCells_ok {id g n : Nat} {p : Pr} {B : List Nat} : ∀ {ds : List D} {i : Nat} {L : Mem} {rs ws : List Loc} {vs : List Value}, Run Γ (wrCells id g i ds p) L L' rs ws → Abs E G L a w → FreeB E G L B → L (.obj id) = some (.box g n) → DCs G L w ds vs →
    (∀ j u, vs[j]? = some u → w.cell? ⟨G.blk id, i + j, none⟩ = some u) → ∃ L1 rs' ws', Run Γ p L1 L' rs' ws' ∧ After E G L a w G L1 ∧ FreeB E G L1 B ∧ ∀ j, L1 (.obj j) = L (.obj j)
  | [], _, L, _, _, [], h, ha, hf, _, _, _ => ⟨L, _, _, h, After.refl ha, hf, fun _ => rfl⟩
  | d :: ds, i, L, _, _, v :: vs, h, ha, hf, ho, hd, hc => by
    simp only [wrCells] at h
    cases h with
    | wr h =>
      have a1 := ha.tell ho (by have := hc 0 v rfl; simpa using this) hd.1
      obtain ⟨L1, rs1, ws1, h1, a2, f2, e2⟩ := tellCells_ok h a1.abs (hf.tell id g i _) (by simpa [upd] using ho) (a1.dcs hd.2) (fun j u hj => by have := hc (j + 1) u hj; rw [show i + 1 + j = i + (j + 1) by omega]; exact this)
      exact ⟨L1, rs1, ws1, h1, a1.trans a2, f2, fun j => by rw [e2]; simp [upd]⟩
  | [], _, _, _, _, _ :: _, _, _, _, _, hd, _ => hd.elim
  | _ :: _, _, _, _, _, [], _, _, _, _, hd, _ => hd.elim

/-- A row of cells is given. -/
def GiveOK (Γ : FuncId → List D → D → Prop) (E : Env) (a : Act) (w : World) (L' : Mem) (s : Sh) : Prop :=
  ∀ (x : s.ty.I) (id g n off : Nat) (p : Pr) (G : Gh) (L : Mem) (rs ws : List Loc) (cs : List Value) (B1 B : List Nat), Run Γ (giveC s x id g off p) L L' rs ws → Abs E G L a w → FreeB E G L (B1 ++ B) → Own G.S w s x cs B1 →
    L (.obj id) = some (.box g n) → (∀ j u, cs[j]? = some u → w.cell? ⟨G.blk id, off + j, none⟩ = some u) →
    ∃ G1 L1 rs' ws', Run Γ p L1 L' rs' ws' ∧ After E G L a w G1 L1 ∧ FreeB E G1 L1 B ∧ Upto id G L G1 L1

/-- A box is given. -/
theorem boxGive {c : Sh} (ih : GiveOK Γ E a w L' c) {x : c.ty.I} {i : Nat} {q : Pr} {b : Nat} {us : Array Value} {e : TypeId} {B' B : List Nat}
    (h : Run Γ (giveC c x i (nextGen (L (.obj i))) 0 q) (upd L (.obj i) (.box (nextGen (L (.obj i))) c.csz)) L' rs ws)
    (ha : Abs E G L a w) (hf : FreeB E G L ((b :: B') ++ B)) (hb1 : w.heap[b]? = some (.cells us e (0, 0))) (o1 : Own G.S w c x us.toList B') :
    ∃ G1 L1 rs' ws', Run Γ q L1 L' rs' ws' ∧ After E G L a w G1 L1 ∧ FreeB E G1 L1 B ∧ G1.S = G.S ∧ (∀ j, j < i → L1 (.obj j) = L (.obj j) ∧ G1.blk j = G.blk j ∧ G1.vv j = G.vv j) ∧
      DC1 G1 L1 w (.ptr i (nextGen (L (.obj i))) 0) (.pointer (some ⟨b, 0, none⟩)) := by
  let G1 : Gh := { G with blk := fun j => if j = i then b else G.blk j }
  have hv : G1.blk i = b := by simp [G1]
  have hlen : us.size = c.csz := by have := Own.length o1; simpa using this
  obtain ⟨k1, k2, k3⟩ := ha.give (i := i) (c := .box (nextGen (L (.obj i))) c.csz) hf rfl (G1 := G1) rfl (fun j hj => ⟨by simp [G1, hj], rfl⟩) ⟨us, e, by rw [hv]; exact hb1, hlen⟩ (fun b' hb => by simp only [ownC, hv, Option.some.injEq] at hb; simp [hb])
  have hnd := hf.1
  rw [List.cons_append] at hnd
  have hf1 : FreeB E G1 (upd L (.obj i) (.box (nextGen (L (.obj i))) c.csz)) (B' ++ B) := by
    refine ⟨(List.nodup_cons.1 hnd).2, fun b' hb' => ?_⟩
    rcases List.mem_append.1 hb' with hb' | hb'
    · refine k3 b' (List.mem_cons_of_mem _ hb') fun h => ?_
      simp only [ownC, hv, Option.some.injEq] at h
      subst h
      exact (List.nodup_cons.1 hnd).1 (List.mem_append_left _ hb')
    · exact k2 b' hb'
  have hi : upd L (.obj i) (.box (nextGen (L (.obj i))) c.csz) (.obj i) = some (.box (nextGen (L (.obj i))) c.csz) := by simp [upd]
  obtain ⟨G2, L2, rs2, ws2, h2, a2, f2, u2⟩ := ih x i _ c.csz 0 q G1 _ _ _ us.toList B' B h k1.abs hf1 o1 hi (fun j u hj => by
    rw [hv, Nat.zero_add, cell_of_row _ _ _ _ _ _ hb1]
    simpa using hj)
  refine ⟨G2, L2, rs2, ws2, h2, k1.trans a2, f2, u2.S, fun j hj => ?_, ⟨rfl, .box (nextGen (L (.obj i))) c.csz, ?_, Nat.le_refl _, fun _ => ?_⟩⟩
  · obtain ⟨e1, e2, e3⟩ := u2.obj j (Nat.le_of_lt hj)
    have hne : j ≠ i := Nat.ne_of_lt hj
    exact ⟨e1.trans (by simp [upd, hne]), e2.trans (by simp [G1, hne]), e3⟩
  · rw [(u2.obj i (Nat.le_refl _)).1]; exact hi
  · show Value.pointer (some ⟨b, 0, none⟩) = .pointer (some ⟨G2.blk i, 0, none⟩)
    rw [(u2.obj i (Nat.le_refl _)).2.1, hv]

theorem boxIn {c : Sh} (ih : GiveOK Γ E a w L' c) {x : c.ty.I} {id g n off : Nat} {p : Pr} {b : Nat} {us : Array Value} {e : TypeId} {B' B : List Nat}
    (h : Run Γ (giveC c x (sid id off) (nextGen (L (.obj (sid id off)))) 0 (.wr (.cell id g off) (.d (.ptr (sid id off) (nextGen (L (.obj (sid id off)))) 0)) p)) (upd L (.obj (sid id off)) (.box (nextGen (L (.obj (sid id off)))) c.csz)) L' rs ws)
    (ha : Abs E G L a w) (hf : FreeB E G L ((b :: B') ++ B)) (hb1 : w.heap[b]? = some (.cells us e (0, 0))) (o1 : Own G.S w c x us.toList B') (hob : L (.obj id) = some (.box g n)) (hc : w.cell? ⟨G.blk id, off, none⟩ = some (.pointer (some ⟨b, 0, none⟩))) :
    ∃ G1 L1 rs' ws', Run Γ p L1 L' rs' ws' ∧ After E G L a w G1 L1 ∧ FreeB E G1 L1 B ∧ Upto id G L G1 L1 := by
  obtain ⟨G1, L1, rs1, ws1, h1, a1, f1, hS, e1, hd⟩ := boxGive ih h ha hf hb1 o1
  have hlt := sid_gt id off
  cases h1 with
  | wr h1 =>
    obtain ⟨q1, q2, q3⟩ := e1 id hlt
    have a2 := a1.abs.tell (n := n) (by rw [q1]; exact hob) (by rw [q2]; exact hc) hd
    exact ⟨G1, _, _, _, h1, a1.trans a2, f1.tell _ _ _ _, ⟨fun j hj => by obtain ⟨q1, q2, q3⟩ := e1 j (by omega); exact ⟨by simp only [upd]; exact q1, q2, q3⟩, hS⟩⟩

theorem giveC_ok (s : Sh) : GiveOK Γ E a w L' s := by
  induction s with
  | unit =>
    intro x id g n off p G L rs ws cs B1 B h ha hf ho hob hc
    obtain ⟨_, rfl⟩ := ho
    exact ⟨G, L, _, _, h, After.refl ha, hf, Upto.refl _ _ _⟩
  | pair s t ihs iht =>
    intro x id g n off p G L rs ws cs B1 B h ha hf ho hob hc
    obtain ⟨c, d, Ba, Bb, rfl, rfl, o1, o2⟩ := ho
    simp only [giveC] at h
    rw [List.append_assoc] at hf
    obtain ⟨G1, L1, rs1, ws1, h1, a1, f1, u1⟩ := ihs _ _ _ n _ _ _ _ _ _ _ _ _ h ha hf o1 hob (fun j u hj => hc j u (by
      have hlt : j < c.length := (List.getElem?_eq_some_iff.1 hj).1
      rw [List.getElem?_append_left hlt]; exact hj))
    have hl := Own.length o1
    obtain ⟨G2, L2, rs2, ws2, h2, a2, f2, u2⟩ := iht _ _ _ n _ _ _ _ _ _ d _ _ h1 a1.abs f1 (a1.own u1.S o2) (by rw [(u1.obj id (Nat.le_refl _)).1]; exact hob) (fun j u hj => by
      rw [(u1.obj id (Nat.le_refl _)).2.1]
      have := hc (c.length + j) u (by rw [List.getElem?_append_right (by omega), Nat.add_sub_cancel_left]; exact hj)
      rw [show off + s.csz + j = off + (c.length + j) by omega]
      exact this)
    exact ⟨G2, L2, rs2, ws2, h2, a1.trans a2, f2, u1.trans u2⟩
  | val τ =>
    intro x id g n off p G L rs ws cs B1 B h ha hf ho hob hc
    obtain ⟨hr, rfl⟩ := ho
    simp only [giveC] at h
    obtain ⟨L1, rs1, ws1, h1, a1, f1, e1⟩ := tellCells_ok h ha hf hob (expand_ok hr) hc
    exact ⟨G, L1, rs1, ws1, h1, a1, f1, ⟨fun j _ => ⟨e1 j, rfl, rfl⟩, rfl⟩⟩
  | vec e τ =>
    intro x id g n off p G L rs ws cs B1 B h ha hf ho hob hc
    simp only [giveC] at h
    have hone := Own.length ho
    obtain ⟨v, rfl⟩ := List.length_eq_one_iff.1 (show cs.length = 1 from hone)
    obtain ⟨d, G1, L1, rs1, ws1, h1, a1, f1, hS, e1, hd, _⟩ := giveVec_ok h ha hf ho
    have hne : id ≠ sid id off := Nat.ne_of_lt (sid_gt _ _)
    cases h1 with
    | wr h1 =>
      have a2 := a1.abs.tell (n := n) (by rw [(e1 id hne).1]; exact hob) (by rw [(e1 id hne).2.1]; have := hc 0 v rfl; simpa using this) hd
      refine ⟨G1, _, _, _, h1, a1.trans a2, f1.tell _ _ _ _, ⟨fun j hj => ?_, hS⟩⟩
      have hj : j ≠ sid id off := fun e => by have := sid_gt id off; omega
      exact ⟨by simp only [upd]; exact (e1 j hj).1, (e1 j hj).2.1, (e1 j hj).2.2⟩
  | map κ τ =>
    intro x id g n off p G L rs ws cs B1 B h ha hf ho hob hc
    simp only [giveC] at h
    have hone := Own.length ho
    obtain ⟨v, rfl⟩ := List.length_eq_one_iff.1 (show cs.length = 1 from hone)
    obtain ⟨d, G1, L1, rs1, ws1, h1, a1, f1, hS, e1, hd, _⟩ := giveMap_ok h ha hf ho
    have hne : id ≠ sid id off := Nat.ne_of_lt (sid_gt _ _)
    cases h1 with
    | wr h1 =>
      have a2 := a1.abs.tell (n := n) (by rw [(e1 id hne).1]; exact hob) (by rw [(e1 id hne).2.1]; have := hc 0 v rfl; simpa using this) hd
      refine ⟨G1, _, _, _, h1, a1.trans a2, f1.tell _ _ _ _, ⟨fun j hj => ?_, hS⟩⟩
      have hj : j ≠ sid id off := fun e => by have := sid_gt id off; omega
      exact ⟨by simp only [upd]; exact (e1 j hj).1, (e1 j hj).2.1, (e1 j hj).2.2⟩
  | box c ih =>
    intro x id g n off p G L rs ws cs B1 B h ha hf ho hob hc
    obtain ⟨b, us, e, B', rfl, hb1, o1, rfl⟩ := ho
    simp only [giveC] at h
    cases h with
    | rd h =>
      cases h with
      | wr h => exact boxIn ih h ha hf hb1 o1 hob (by have := hc 0 _ rfl; simpa using this)
  | obox c ih =>
    intro x id g n off p G L rs ws cs B1 B h ha hf ho hob hc
    simp only [giveC] at h
    rcases ho with ⟨rfl, rfl, rfl⟩ | ⟨y, b, us, e, B', rfl, rfl, hb1, o1, rfl⟩
    · cases h with
      | brT hb h => cases hb
      | brF hb h =>
        cases h with
        | wr h =>
          have a2 := ha.tell hob (by have := hc 0 _ rfl; simpa using this) (d := .raw (.pointer none)) ⟨rfl, rfl⟩
          exact ⟨G, _, _, _, h, a2, hf.tell _ _ _ _, ⟨fun j hj => ⟨by simp [upd], rfl, rfl⟩, rfl⟩⟩
    · cases h with
      | brF hb h => cases hb
      | brT hb h =>
        cases h with
        | rd h =>
          cases h with
          | wr h => exact boxIn ih h ha hf hb1 o1 hob (by have := hc 0 _ rfl; simpa using this)

theorem giveV_ok {s : Sh} {x : s.ty.I} {i : Nat} {k : D → Pr} {cs : List Value} {v : Value} {B1 B : List Nat} (h : Run Γ (giveV s x i k) L L' rs ws) (ha : Abs E G L a w) (hf : FreeB E G L (B1 ++ B)) (ho : Own G.S w s x cs B1) (hw : wrapV s.isAgg cs v) :
    ∃ d G1 L1 rs' ws', Run Γ (k d) L1 L' rs' ws' ∧ After E G L a w G1 L1 ∧ FreeB E G1 L1 B ∧ G1.S = G.S ∧ (∀ j, j < i → L1 (.obj j) = L (.obj j) ∧ G1.blk j = G.blk j ∧ G1.vv j = G.vv j) ∧ DV G1 L1 w d v := by
  have one : ∀ {u : Value}, cs = [u] → s.isAgg = false → u = v := by
    intro u e hA
    rw [hA] at hw
    obtain ⟨h1, _⟩ : cs = [v] ∧ _ := hw
    rw [e] at h1
    exact (List.cons.inj h1).1
  cases s with
  | val τ =>
    obtain ⟨hr, rfl⟩ := ho
    exact ⟨_, G, L, _, _, h, After.refl ha, hf, rfl, fun _ _ => ⟨rfl, rfl, rfl⟩, cs, hr, hw⟩
  | vec e τ =>
    obtain ⟨u, hu⟩ := List.length_eq_one_iff.1 (show cs.length = 1 from Own.length ho)
    subst hu
    have := one rfl rfl
    subst this
    obtain ⟨d, G1, L1, rs1, ws1, h1, a1, f1, hS, e1, hd, hA⟩ := giveVec_ok h ha hf ho
    exact ⟨d, G1, L1, rs1, ws1, h1, a1, f1, hS, fun j hj => e1 j (Nat.ne_of_lt hj), hd.dw hA⟩
  | map κ τ =>
    obtain ⟨u, hu⟩ := List.length_eq_one_iff.1 (show cs.length = 1 from Own.length ho)
    subst hu
    have := one rfl rfl
    subst this
    obtain ⟨d, G1, L1, rs1, ws1, h1, a1, f1, hS, e1, hd, hA⟩ := giveMap_ok h ha hf ho
    exact ⟨d, G1, L1, rs1, ws1, h1, a1, f1, hS, fun j hj => e1 j (Nat.ne_of_lt hj), hd.dw hA⟩
  | box c =>
    obtain ⟨b, us, e, B', hcs, hb1, o1, rfl⟩ := ho
    have := one hcs rfl
    subst this
    simp only [giveV] at h
    cases h with
    | rd h =>
      cases h with
      | wr h =>
        obtain ⟨G1, L1, rs1, ws1, h1, a1, f1, hS, e1, hd⟩ := boxGive (giveC_ok c) h ha hf hb1 o1
        exact ⟨_, G1, L1, rs1, ws1, h1, a1, f1, hS, e1, hd.dw rfl⟩
  | obox c =>
    simp only [giveV] at h
    rcases ho with ⟨rfl, hcs, rfl⟩ | ⟨y, b, us, e, B', rfl, hcs, hb1, o1, rfl⟩
    · have := one hcs rfl
      subst this
      cases h with
      | brT hb h => cases hb
      | brF hb h => exact ⟨_, G, L, _, _, h, After.refl ha, hf, rfl, fun _ _ => ⟨rfl, rfl, rfl⟩, [_], ⟨_, rfl, rfl, rfl⟩, rfl, rfl⟩
    · have := one hcs rfl
      subst this
      cases h with
      | brF hb h => cases hb
      | brT hb h =>
        cases h with
        | rd h =>
          cases h with
          | wr h =>
            obtain ⟨G1, L1, rs1, ws1, h1, a1, f1, hS, e1, hd⟩ := boxGive (giveC_ok c) h ha hf hb1 o1
            exact ⟨_, G1, L1, rs1, ws1, h1, a1, f1, hS, e1, hd.dw rfl⟩
  | unit => simp only [giveV] at h; cases h
  | pair x y => simp only [giveV] at h; cases h

theorem asTy_self {τ : Ty} {x : τ.I} : D.asTy τ (.val τ x) = some x := by simp [D.asTy, castTy]

theorem giveAll_ok : ∀ {ss : List Sh} {us : List D} {vs : List Value} {i : Nat} {k : List D → Pr} {G : Gh} {L : Mem} {rs ws : List Loc} {B1 B : List Nat}, Run Γ (giveAll ss us i k) L L' rs ws → Abs E G L a w → FreeB E G L (B1 ++ B) → OwnAll G.S w ss us vs B1 →
    ∃ ds G1 L1 rs' ws', Run Γ (k ds) L1 L' rs' ws' ∧ After E G L a w G1 L1 ∧ FreeB E G1 L1 B ∧ G1.S = G.S ∧ All2 (DV G1 L1 w) ds vs
  | [], [], [], _, _, G, L, _, _, _, _, h, ha, hf, ho => by
    cases (show _ = [] from ho)
    exact ⟨[], G, L, _, _, h, After.refl ha, hf, rfl, .nil⟩
  | s :: ss, u :: us, v :: vs, i, k, G, L, _, _, B1, B, h, ha, hf, ho => by
    obtain ⟨x, cs, Ba, Bb, rfl, o1, w1, rfl, o2⟩ := ho
    simp only [giveAll, asTy_self] at h
    rw [List.append_assoc] at hf
    obtain ⟨d, G1, L1, rs1, ws1, h1, a1, f1, hS, _, hd⟩ := giveV_ok h ha hf o1 w1
    obtain ⟨ds, G2, L2, rs2, ws2, h2, a2, f2, hS2, hds⟩ := giveAll_ok h1 a1.abs f1 (by rw [hS]; exact o2)
    exact ⟨d :: ds, G2, L2, rs2, ws2, h2, a1.trans a2, f2, hS2.trans hS, .cons (a2.dv hd) hds⟩
  | [], _ :: _, _, _, _, _, _, _, _, _, _, h, _, _, _ => by simp only [giveAll] at h; cases h
  | _ :: _, [], _, _, _, _, _, _, _, _, _, h, _, _, _ => by simp only [giveAll] at h; cases h
  | [], [], _ :: _, _, _, _, _, _, _, _, _, _, _, _, ho => ho.elim
  | _ :: _, _ :: _, [], _, _, _, _, _, _, _, _, _, _, _, ho => ho.elim

/-- What the boxes hold that were handed on: their own blocks, and the others. -/
def OwnBackS (S : Nat → Prop) (w : World) : List Sh → List D → List Value → List Nat → List Nat → Prop
  | [], [], [], hs, Bs => hs = [] ∧ Bs = []
  | s :: ss, qs, v :: vs, hs, Bs => match s with
    | .box c => ∃ qs' x b hs' us e B' Bs', qs = .val c.ty x :: qs' ∧ v = .pointer (some ⟨b, 0, none⟩) ∧ hs = b :: hs' ∧ w.heap[b]? = some (.cells us e (0, 0)) ∧ Own S w c x us.toList B' ∧ Bs = B' ++ Bs' ∧ OwnBackS S w ss qs' vs hs' Bs'
    | _ => OwnBackS S w ss qs vs hs Bs
  | _, _, _, _, _ => False

theorem OwnBack.split {S : Nat → Prop} : ∀ {ss : List Sh} {qs : List D} {vs : List Value} {B : List Nat}, OwnBack S w ss qs vs B → ∃ hs Bs, B.Perm (hs ++ Bs) ∧ OwnBackS S w ss qs vs hs Bs
  | [], [], [], _, h => ⟨[], [], by cases (show _ = [] from h); exact .refl _, rfl, rfl⟩
  | s :: ss, qs, v :: vs, B, h => by
    by_cases hb : ∃ c, s = .box c
    · obtain ⟨c, rfl⟩ := hb
      obtain ⟨q, qs', x, B1, B2, rfl, rfl, ⟨b, us, e, B', h1, h2, h3, rfl⟩, rfl, h4⟩ := h
      obtain ⟨hs, Bs, hp, h5⟩ := OwnBack.split h4
      refine ⟨b :: hs, B' ++ Bs, ?_, qs', x, b, hs, us, e, B', Bs, rfl, (List.cons.inj h1).1, rfl, h2, h3, rfl, h5⟩
      rw [List.cons_append, List.cons_append]
      refine .cons _ ?_
      refine (List.Perm.append_left B' hp).trans ?_
      rw [← List.append_assoc, ← List.append_assoc]
      exact List.Perm.append_right _ List.perm_append_comm
    · have h' : OwnBack S w ss qs vs B := by cases s <;> first | exact h | exact absurd ⟨_, rfl⟩ hb
      obtain ⟨hs, Bs, hp, h5⟩ := OwnBack.split h'
      exact ⟨hs, Bs, hp, by cases s <;> first | exact h5 | exact absurd ⟨_, rfl⟩ hb⟩
  | [], [], _ :: _, _, h => h.elim
  | [], _ :: _, vs, _, h => by cases vs <;> exact h.elim
  | s :: _, _, [], _, h => by cases s <;> exact h.elim

theorem giveBack_ok : ∀ {ss : List Sh} {ds qs us : List D} {vs : List Value} {k : List D → Pr} {G : Gh} {L : Mem} {rs ws : List Loc} {hs Bs B : List Nat}, Run Γ (giveBack ss ds (qs ++ us) k) L L' rs ws → Abs E G L a w → FreeB E G L (Bs ++ B) →
    OwnBackS G.S w ss qs vs hs Bs → All2 (DV G L w) ds vs → ∃ G1 L1 rs' ws', Run Γ (k us) L1 L' rs' ws' ∧ After E G L a w G1 L1 ∧ FreeB E G1 L1 B ∧ G1.S = G.S
  | [], [], [], us, [], k, G, L, _, _, hs, Bs, B, h, ha, hf, ho, .nil => by
    obtain ⟨rfl, rfl⟩ := ho
    exact ⟨G, L, _, _, h, After.refl ha, hf, rfl⟩
  | s :: ss, d :: ds, qs, us, v :: vs, k, G, L, rs, ws, hs, Bs, B, h, ha, hf, ho, .cons hd hds => by
    by_cases hb : ∃ c, s = .box c
    · obtain ⟨c, rfl⟩ := hb
      obtain ⟨qs', x, b, hs', cs, e, B', Bs', rfl, rfl, rfl, hb1, o1, rfl, ho'⟩ := ho
      simp only [giveBack] at h
      split at h
      · rename_i d2 us2 i j o u us' heq
        cases heq
        cases h with
        | rd h =>
          revert h
          dsimp only
          split
          · rename_i j' m hl
            intro h
            cases h with
            | gd hbb h =>
              simp only [Bool.and_eq_true] at hbb
              have e1 := Nat.eq_of_beq_eq_true hbb.1.1
              have e2 := Nat.eq_of_beq_eq_true hbb.1.2
              have e3 := Nat.eq_of_beq_eq_true hbb.2
              subst e1 e2 e3
              rw [asTy_self] at h
              have hp := ptr_at (one_dv hd (by simp) (by simp) (by simp) (by simp)).1 hl
              have hblk : b = G.blk i := by injection hp with hp; injection hp with hp; injection hp
              rw [List.append_assoc] at hf
              obtain ⟨G1, L1, rs1, ws1, h1, a1, f1, u1⟩ := giveC_ok c _ _ _ _ _ _ _ _ _ _ _ _ _ h ha hf o1 hl (fun q u hq => by
                rw [← hblk, Nat.zero_add, cell_of_row _ _ _ _ _ _ hb1]
                simpa using hq)
              obtain ⟨G2, L2, rs2, ws2, h2, a2, f2, hS2⟩ := giveBack_ok h1 a1.abs f1 (by rw [u1.S]; exact ho') (hds.mono fun _ _ h => a1.dv h)
              exact ⟨G2, L2, rs2, ws2, h2, a1.trans a2, f2, hS2.trans u1.S⟩
          · intro h; cases h
      · cases h
    · have h' : Run Γ (giveBack ss ds (qs ++ us) k) L L' rs ws := by cases s <;> first | exact h | exact absurd ⟨_, rfl⟩ hb
      have ho' : OwnBackS G.S w ss qs vs hs Bs := by cases s <;> first | exact ho | exact absurd ⟨_, rfl⟩ hb
      exact giveBack_ok h' ha hf ho' hds
  | [], [], _ :: _, _, [], _, _, _, _, _, _, _, _, _, _, _, ho, _ => ho.elim
  | s :: _, [], _, _, [], _, _, _, _, _, _, _, _, _, _, _, ho, .nil => by cases s <;> exact ho.elim

end
end Go.Proofs.YtllhidkadhoipaaDoor.Ab
