/- What calls are handed and hand back with what they may write to: what it is in memory. For every program, under no condition. -/
import Derived.Test.YtllhidkadhoipaaDoorE2
namespace Go.Proofs.YtllhidkadhoipaaDoor.Ab
open Go Go.RowKit

/-- What is owned by way of these cells: in these blocks. -/
def Own (S : Nat → Prop) (w : World) : (s : Sh) → s.ty.I → List Value → List Nat → Prop
  | .val τ, x, cs, B => RepC S w τ x cs ∧ B = []
  | .vec e τ, xs, cs, B => ∃ v us, cs = [v] ∧ w.ownsRow 0 e τ.sz v (List.length (α := τ.I) xs) us ∧ RepL (RepC S w τ) xs us ∧ B = v.ownBlock.toList
  | .map κ τ, xs, cs, B => ∃ b es cl, cs = [.map (some b)] ∧ w.heap[b]? = some (.map es cl) ∧ EntRep κ.isAgg τ.isAgg (RepC S w κ) (RepC S w τ) xs es.toList ∧ B = [b]
  | .unit, _, cs, B => cs = [] ∧ B = []
  | .pair a b, x, cs, B => ∃ c d B1 B2, cs = c ++ d ∧ B = B1 ++ B2 ∧ Own S w a x.1 c B1 ∧ Own S w b x.2 d B2
  | .box c, x, cs, B => ∃ b us e B', cs = [.pointer (some ⟨b, 0, none⟩)] ∧ w.heap[b]? = some (.cells us e (0, 0)) ∧ Own S w c x us.toList B' ∧ B = b :: B'
  | .obox c, x, cs, B => (x = none ∧ cs = [.pointer none] ∧ B = []) ∨ ∃ y b us e B', x = some y ∧ cs = [.pointer (some ⟨b, 0, none⟩)] ∧ w.heap[b]? = some (.cells us e (0, 0)) ∧ Own S w c y us.toList B' ∧ B = b :: B'

theorem Own.length {S : Nat → Prop} {w : World} : ∀ {s : Sh} {x : s.ty.I} {cs B}, Own S w s x cs B → cs.length = s.csz
  | .val τ, _, _, _, h => RepC.length h.1
  | .vec _ _, _, _, _, h => by obtain ⟨v, us, rfl, _⟩ := h; rfl
  | .map _ _, _, _, _, h => by obtain ⟨v, us, _, rfl, _⟩ := h; rfl
  | .unit, _, _, _, h => by obtain ⟨rfl, _⟩ := h; rfl
  | .pair a b, _, _, _, h => by obtain ⟨c, d, B1, B2, rfl, _, h1, h2⟩ := h; simp [Sh.csz, Own.length h1, Own.length h2]
  | .box c, _, _, _, h => by obtain ⟨b, us, e, B', rfl, _⟩ := h; rfl
  | .obox c, _, _, _, h => by
    rcases h with ⟨_, rfl, _⟩ | ⟨y, b, us, e, B', _, rfl, _⟩ <;> rfl

theorem Own.lt {S : Nat → Prop} {w : World} : ∀ {s : Sh} {x : s.ty.I} {cs B}, Own S w s x cs B → ∀ b ∈ B, b < w.heap.size
  | .val τ, _, _, _, h => by obtain ⟨_, rfl⟩ := h; simp
  | .vec _ _, _, _, _, h => by
    obtain ⟨v, us, rfl, h1, _, rfl⟩ := h
    intro b hb
    exact (h1.lt b (by simpa using hb)).2
  | .map _ _, _, _, _, h => by obtain ⟨b, es, cl, rfl, h1, _, rfl⟩ := h; simp; exact heap_lt h1
  | .unit, _, _, _, h => by obtain ⟨_, rfl⟩ := h; simp
  | .pair a b, _, _, _, h => by
    obtain ⟨c, d, B1, B2, rfl, rfl, h1, h2⟩ := h
    intro b hb
    rcases List.mem_append.1 hb with hb | hb
    · exact Own.lt h1 b hb
    · exact Own.lt h2 b hb
  | .box c, _, _, _, h => by
    obtain ⟨b, us, e, B', rfl, h1, h2, rfl⟩ := h
    intro b' hb
    rcases List.mem_cons.1 hb with rfl | hb
    · exact heap_lt h1
    · exact Own.lt h2 b' hb
  | .obox c, _, _, _, h => by
    rcases h with ⟨_, rfl, rfl⟩ | ⟨y, b, us, e, B', rfl, rfl, h1, h2, rfl⟩
    · simp
    · intro b' hb
      rcases List.mem_cons.1 hb with rfl | hb
      · exact heap_lt h1
      · exact Own.lt h2 b' hb

theorem ownsRow_plain {w : World} {base : Nat} {e : TypeId} {size : Nat} {v : Value} {n : Nat} {xs : List Value} (h : w.ownsRow base e size v n xs) : v.oneCell' = true := by
  rcases h.2 with ⟨rfl, _⟩ | ⟨_, _, _, rfl, _⟩ <;> rfl

theorem Own.plain {S : Nat → Prop} {w : World} : ∀ {s : Sh} {x : s.ty.I} {cs B}, Own S w s x cs B → ∀ u ∈ cs, u.oneCell' = true
  | .val τ, _, _, _, h => RepC.plain h.1
  | .vec _ _, _, _, _, h => by obtain ⟨v, us, rfl, h1, _⟩ := h; simpa using ownsRow_plain h1
  | .map _ _, _, _, _, h => by obtain ⟨b, es, cl, rfl, _⟩ := h; simp [Value.oneCell']
  | .unit, _, _, _, h => by obtain ⟨rfl, _⟩ := h; simp
  | .pair a b, _, _, _, h => by
    obtain ⟨c, d, B1, B2, rfl, _, h1, h2⟩ := h
    intro u hu
    rcases List.mem_append.1 hu with hu | hu
    · exact Own.plain h1 u hu
    · exact Own.plain h2 u hu
  | .box c, _, _, _, h => by obtain ⟨b, us, e, B', rfl, _⟩ := h; simp [Value.oneCell']
  | .obox c, _, _, _, h => by
    rcases h with ⟨_, rfl, _⟩ | ⟨y, b, us, e, B', _, rfl, _⟩ <;> simp [Value.oneCell']

/-- All that is handed on. -/
def OwnAll (S : Nat → Prop) (w : World) : List Sh → List D → List Value → List Nat → Prop
  | [], [], [], B => B = []
  | s :: ss, d :: ds, v :: vs, B => ∃ x cs B1 B2, d = .val s.ty x ∧ Own S w s x cs B1 ∧ wrapV s.isAgg cs v ∧ B = B1 ++ B2 ∧ OwnAll S w ss ds vs B2
  | _, _, _, _ => False

/-- What the boxes hold that were handed on. -/
def OwnBack (S : Nat → Prop) (w : World) : List Sh → List D → List Value → List Nat → Prop
  | [], [], [], B => B = []
  | s :: ss, qs, v :: vs, B => match s with
    | .box c => ∃ q qs' x B1 B2, qs = q :: qs' ∧ q = .val c.ty x ∧ Own S w (.box c) x [v] B1 ∧ B = B1 ++ B2 ∧ OwnBack S w ss qs' vs B2
    | _ => OwnBack S w ss qs vs B
  | _, _, _, _ => False

/-- What a function hands back. -/
def packV : List Value → Value
  | [v] => v
  | vs => .tuple vs.toArray

/-- What a call comes to that is handed what it may write to. -/
def CallsIo (P : Program) (f : FuncId) (ps rs : List Sh) (ds : List D) (d : D) : Prop := Enters P f ∧ ∃ qs us, d = .tup (qs ++ us) ∧
  ∀ (S : Nat → Prop) (w : World) (vs : List Value) (B : List Nat), Base S w → (∀ b, S b → b < w.heap.size) → OwnAll S w ps ds vs B → B.Nodup → (∀ b ∈ B, ¬ S b) →
    Calls P f vs.toArray w fun e w' => ∃ rvs S' B1 B2, e = .returned (packV rvs) ∧ OwnBack S' w' ps qs vs B1 ∧ OwnAll S' w' rs us rvs B2 ∧ (B1 ++ B2).Nodup ∧ (∀ b ∈ B1 ++ B2, ¬ S' b ∧ (b ∈ B ∨ w.heap.size ≤ b)) ∧
      Under w.heap.size (· ∈ B) w w' ∧ (∀ b, S b → S' b) ∧ ∀ b, S' b → b < w'.heap.size ∧ (b < w.heap.size → S b ∨ b ∈ B)

/-- What a call comes to that hands back nothing that was there. -/
def CallsFresh (P : Program) (f : FuncId) (ds : List D) (d : D) : Prop := Enters P f ∧
  ∀ (S : Nat → Prop) (w : World) (vs : List Value), Base S w → (∀ b, S b → b < w.heap.size) → All2 (SV S w) ds vs →
    Calls P f vs.toArray w fun e w' => ∃ v S', e = .returned v ∧ SV S' w' d v ∧ Under w.heap.size (fun _ => False) w w' ∧ ∀ b, S' b → w.heap.size ≤ b ∧ b < w'.heap.size

/-- What is meant by what is known of a function. -/
def Means (P : Program) (lay : Lay) (f : FuncId) (ds : List D) (d : D) : Prop :=
  match lay.sp f with
  | .io ps rs => CallsIo P f ps rs ds d
  | .borrow _ true => CallsFresh P f ds d
  | _ => CallsAbs P f ds d

end Go.Proofs.YtllhidkadhoipaaDoor.Ab
