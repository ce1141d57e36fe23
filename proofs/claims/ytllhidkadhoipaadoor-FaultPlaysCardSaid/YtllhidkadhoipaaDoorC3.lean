/- What an operation does to an abstract memory, as a small program that can be run. For every program, under no condition. -/
import Derived.Test.YtllhidkadhoipaaDoorC2
namespace Go.Proofs.YtllhidkadhoipaaDoor.Ab
open Go Go.RowKit

/-- What is known of a type of the program. -/
structure LInfo where
  desc : TypeDesc
  zero : Value
  sz : Nat
  bytes : Nat
  ty : Option Ty
  /-- May values of it be compared? -/
  cmp : Bool := false
  /-- Is it a type of keys? -/
  key : Bool := false

/-- What a call is handed, and hands back, with what it may write to: data; an own slice; an own map; cells in a row; a pointer to an own box; such a pointer, or nil. -/
inductive Sh where
  | val (τ : Ty) | vec (e : TypeId) (τ : Ty) | map (κ τ : Ty) | unit | pair (a b : Sh) | box (c : Sh) | obox (c : Sh)

/-- What it holds, as data. -/
def Sh.ty : Sh → Ty
  | .val τ => τ
  | .vec _ τ => .slice τ
  | .map κ τ => .map κ τ
  | .unit => .unit
  | .pair a b => .pair a.ty b.ty
  | .box c => c.ty
  | .obox c => .ref c.ty

/-- How many cells it takes. -/
def Sh.csz : Sh → Nat
  | .val τ => τ.sz
  | .unit => 0
  | .pair a b => a.csz + b.csz
  | _ => 1

def Sh.isAgg : Sh → Bool
  | .val τ => τ.isAgg
  | .unit => true
  | .pair _ _ => true
  | _ => false

/-- What sort of function is called: with data alone; one that gives nothing back that could lie in what it was handed; one that copies a slice; one that cuts a piece out of an own slice. -/
inductive Sp where
  | plain | borrow (τs : List Ty) (fresh : Bool) | inl | clone (e : TypeId) (τ : Ty) (c : Nat) | delete (e : TypeId) (τ : Ty) | io (ps rs : List Sh)

structure Lay where
  f : TypeId → Option LInfo
  sp : FuncId → Sp
  /-- The number at which the objects begin that are made here. -/
  ob : Nat := 0
  /-- Is an own slice sealed when it is cut? -/
  cut : Bool := false

instance : CoeFun Lay fun _ => TypeId → Option LInfo := ⟨Lay.f⟩

inductive Pr where
  | ret
  | rd (l : Loc) (k : Option Cell → Pr)
  | wr (l : Loc) (c : Cell) (k : Pr)
  | gd (b : Bool) (k : Pr)
  | br (b : Bool) (p q : Pr)
  | call (f : FuncId) (ds : List D) (k : D → Pr)
  | fail

def upd (L : Mem) (l : Loc) (c : Cell) : Mem := fun l' => if l' = l then some c else L l'

/-- The runs of a program: what it reads, what it writes. -/
inductive Run (Γ : FuncId → List D → D → Prop) : Pr → Mem → Mem → List Loc → List Loc → Prop
  | ret {L} : Run Γ .ret L L [] []
  | rd {l k L L' rs ws} (h : Run Γ (k (L l)) L L' rs ws) : Run Γ (.rd l k) L L' (l :: rs) ws
  | wr {l c k L L' rs ws} (h : Run Γ k (upd L l c) L' rs ws) : Run Γ (.wr l c k) L L' rs (l :: ws)
  | gd {b k L L' rs ws} (hb : b = true) (h : Run Γ k L L' rs ws) : Run Γ (.gd b k) L L' rs ws
  | brT {b p q L L' rs ws} (hb : b = true) (h : Run Γ p L L' rs ws) : Run Γ (.br b p q) L L' rs ws
  | brF {b p q L L' rs ws} (hb : b = false) (h : Run Γ q L L' rs ws) : Run Γ (.br b p q) L L' rs ws
  | call {f ds k d L L' rs ws} (hc : Γ f ds d) (h : Run Γ (k d) L L' rs ws) : Run Γ (.call f ds k) L L' rs ws

theorem Run.other {Γ : FuncId → List D → D → Prop} {p : Pr} {L L' : Mem} {rs ws : List Loc} (h : Run Γ p L L' rs ws) : ∀ l, l ∉ ws → L' l = L l := by
  induction h with
  | ret => exact fun _ _ => rfl
  | rd _ ih => exact ih
  | wr _ ih =>
    intro l hl
    rw [ih l (fun h => hl (List.mem_cons_of_mem _ h))]
    simp [upd, show l ≠ _ from fun e => hl (e ▸ List.mem_cons_self)]
  | gd _ _ ih => exact ih
  | brT _ _ ih => exact ih
  | brF _ _ ih => exact ih
  | call _ _ ih => exact ih

/-- It runs alike where all that it reads is alike. -/
theorem Run.frame {Γ : FuncId → List D → D → Prop} {p : Pr} {L L' : Mem} {rs ws : List Loc} (h : Run Γ p L L' rs ws) :
    ∀ M : Mem, (∀ l ∈ rs, M l = L l) → ∃ M', Run Γ p M M' rs ws ∧ ∀ l ∈ ws, M' l = L' l := by
  induction h with
  | ret => exact fun M _ => ⟨M, .ret, by simp⟩
  | @rd l k L L' rs ws _ ih =>
    intro M hM
    obtain ⟨M', hr, hw⟩ := ih M (fun l hl => hM l (List.mem_cons_of_mem _ hl))
    exact ⟨M', .rd (by rw [hM l List.mem_cons_self]; exact hr), hw⟩
  | @wr l c k L L' rs ws h0 ih =>
    intro M hM
    obtain ⟨M', hr, hw⟩ := ih (upd M l c) (fun l' hl => by simp only [upd]; split; rfl; exact hM l' hl)
    refine ⟨M', .wr hr, fun l' hl => ?_⟩
    by_cases hin : l' ∈ ws
    · exact hw l' hin
    · rcases List.mem_cons.1 hl with rfl | hl
      · rw [hr.other _ hin, h0.other _ hin]; simp [upd]
      · exact absurd hl hin
  | gd hb _ ih => exact fun M hM => let ⟨M', hr, hw⟩ := ih M hM; ⟨M', .gd hb hr, hw⟩
  | brT hb _ ih => exact fun M hM => let ⟨M', hr, hw⟩ := ih M hM; ⟨M', .brT hb hr, hw⟩
  | brF hb _ ih => exact fun M hM => let ⟨M', hr, hw⟩ := ih M hM; ⟨M', .brF hb hr, hw⟩
  | call hc _ ih => exact fun M hM => let ⟨M', hr, hw⟩ := ih M hM; ⟨M', .call hc hr, hw⟩

/-! ### Values -/

def castTy {a b : Ty} (h : a = b) (x : a.I) : b.I := h ▸ x

def Ty.dflt : (τ : Ty) → τ.I
  | .bool => false
  | .int _ => (0 : Int)
  | .str => []
  | .slice _ => []
  | .unit => ()
  | .pair a b => (a.dflt, b.dflt)
  | .arr n e => List.replicate n e.dflt
  | .value => ⟨0, false, 0, [], [], []⟩
  | .ref _ => none
  | .map _ _ => []
  | .err => .nil

/-- A constant. -/
def ofV : Value → D
  | .bool b => .val .bool b
  | .int k n => .val (.int k) n
  | .string s => .val .str s.data.toList
  | .nilIface => .val .err .nil
  | .agg _ => .undef
  | .tuple _ => .undef
  | v => .raw v

def expand : (τ : Ty) → τ.I → List D
  | .unit, _ => []
  | .pair a b, x => expand a x.1 ++ expand b x.2
  | .arr n e, xs => (List.range n).flatMap fun i => expand e (xs.getD i e.dflt)
  | .value, v => [.val (.int .i64) v.kind, .val .bool v.b, .val (.int .i64) v.n, .val .str v.s, .val (.slice .str) v.names, .val (.slice .value) v.kids]
  | .bool, x => [.val .bool x]
  | .int k, x => [.val (.int k) x]
  | .str, x => [.val .str x]
  | .slice e, x => [.val (.slice e) x]
  | .ref e, x => [.val (.ref e) x]
  | .map k v, x => [.val (.map k v) x]
  | .err, x => [.val .err x]

/-- The cells of a value. -/
def D.cells : D → List D
  | .val τ x => expand τ x
  | .agg ds => ds
  | d => [d]

def isNilSlice : Value → Bool
  | .slice none 0 0 => true
  | _ => false

def isNilPtr : Value → Bool
  | .pointer none => true
  | _ => false
def isNilIfc : Value → Bool
  | .nilIface => true
  | _ => false
def isNilMap : Value → Bool
  | .map none => true
  | _ => false

/-- A cell as one of a type of one cell. -/
def as1 (τ : Ty) (d : D) : Option τ.I :=
  match d with
  | .val τ' x => if h : τ' = τ then some (castTy h x) else none
  | .raw v => match τ with
    | .slice _ => bif isNilSlice v then some [] else none
    | .ref _ => bif isNilPtr v then some none else none
    | .map _ _ => bif isNilMap v then some [] else none
    | .err => bif isNilIfc v then some .nil else none
    | _ => none
  | .sptr τ' x off => match τ with
    | .ref e => if h : τ' = e then (bif Nat.beq off 0 then some (some (castTy h x)) else none) else none
    | _ => none
  | _ => none

def asmN {α : Type} (f : List D → Option (α × List D)) : Nat → List D → Option (List α × List D)
  | 0, ds => some ([], ds)
  | n + 1, ds => match f ds with
    | some (x, r) => match asmN f n r with
      | some (xs, r') => some (x :: xs, r')
      | none => none
    | none => none

def asm1 (τ : Ty) : List D → Option (τ.I × List D)
  | d :: r => match as1 τ d with
    | some x => some (x, r)
    | none => none
  | [] => none

/-- Cells as data of a type. -/
def asm : (τ : Ty) → List D → Option (τ.I × List D)
  | .unit, ds => some ((), ds)
  | .pair a b, ds => match asm a ds with
    | some (x, r) => match asm b r with
      | some (y, r') => some ((x, y), r')
      | none => none
    | none => none
  | .arr n e, ds => asmN (asm e) n ds
  | .value, d0 :: d1 :: d2 :: d3 :: d4 :: d5 :: r =>
    match as1 (.int .i64) d0, as1 .bool d1, as1 (.int .i64) d2, as1 .str d3, as1 (.slice .str) d4, as1 (.slice .value) d5 with
    | some k, some b, some n, some s, some ns, some ks => some (⟨k, b, n, s, ns, ks⟩, r)
    | _, _, _, _, _, _ => none
  | .value, _ => none
  | .bool, ds => asm1 .bool ds
  | .int k, ds => asm1 (.int k) ds
  | .str, ds => asm1 .str ds
  | .slice e, ds => asm1 (.slice e) ds
  | .ref e, ds => asm1 (.ref e) ds
  | .map k v, ds => asm1 (.map k v) ds
  | .err, ds => asm1 .err ds

def D.asTy (τ : Ty) : D → Option τ.I
  | .val τ' x => if h : τ' = τ then some (castTy h x) else none
  | .raw v => as1 τ (.raw v)
  | .sptr τ' x off => as1 τ (.sptr τ' x off)
  | .agg ds => bif τ.isAgg then (match asm τ ds with
    | some (x, []) => some x
    | _ => none) else none
  | _ => none

/-- A part of data, at a place of its cells. -/
def comp (σ : Ty) : (τ : Ty) → τ.I → Nat → Option σ.I
  | .pair a b, x, off => if h : Ty.pair a b = σ then (bif Nat.beq off 0 then some (castTy h x) else none) else
    (bif Nat.blt off a.sz then comp σ a x.1 off else comp σ b x.2 (off - a.sz))
  | τ, x, off => if h : τ = σ then (bif Nat.beq off 0 then some (castTy h x) else none) else none

/-- Are data of a type alike? (Of types without anything in memory.) -/
def Ty.beq : (τ : Ty) → τ.I → τ.I → Bool
  | .bool, x, y => x == y
  | .int _, x, y => x == y
  | .str, x, y => x == y
  | .pair a b, x, y => a.beq x.1 y.1 && b.beq x.2 y.2
  | .arr _ e, x, y => listBeq e.beq x y
  | _, _, _ => true
where
  listBeq {α : Type} (f : α → α → Bool) : List α → List α → Bool
  | x :: xs, y :: ys => f x y && listBeq f xs ys
  | [], [] => true
  | _, _ => false

def mapGet {α β : Type} (eq : α → α → Bool) : List (α × β) → α → Option β
  | [], _ => none
  | p :: r, k => bif eq k p.1 then some p.2 else mapGet eq r k
def mapPut {α β : Type} (eq : α → α → Bool) : List (α × β) → α → β → List (α × β)
  | [], k, v => [(k, v)]
  | p :: r, k, v => bif eq k p.1 then (k, v) :: r else p :: mapPut eq r k v
def mapDel {α β : Type} (eq : α → α → Bool) : List (α × β) → α → List (α × β)
  | [], _ => []
  | p :: r, k => bif eq k p.1 then r else p :: mapDel eq r k

/-- One value, that is known. -/
def D.solid : D → Bool
  | .undef => false
  | .tup _ => false
  | _ => true

/-- One cell that holds no other ones. -/
def D.atom : D → Bool
  | .val τ _ => !τ.isAgg
  | .raw _ | .ptr _ _ _ | .vec _ _ | .eptr _ _ _ _ | .sptr _ _ _ | .mp _ _ | .itr _ _ => true
  | _ => false

/-- No reference to an object of this memory. -/
def D.closed1 : D → Bool
  | .val _ _ | .raw _ | .sptr _ _ _ => true
  | _ => false
def D.closed : D → Bool
  | .agg ds => ds.all D.closed1
  | d => d.closed1

/-! ### Operations -/

def isAggD : TypeDesc → Bool
  | .struct _ | .array _ _ => true
  | _ => false

def evO (x : Operand) (k : D → Pr) : Pr :=
  match x with
  | .tmp t => .rd (.tmp t) fun
    | some (.d d) => k d
    | _ => .fail
  | .const v => k (ofV v)
  | .func f => k (.raw (.func (.func f) #[] #[]))
  | .global _ => .fail

def evOs : List Operand → (List D → Pr) → Pr
  | [], k => k []
  | x :: xs, k => evO x fun d => evOs xs fun ds => k (d :: ds)

/-- Data with a part exchanged. -/
def setPart (τ : Ty) (x : τ.I) (off sz : Nat) (d : D) : Option τ.I :=
  match Nat.beq off 0 && Nat.beq sz τ.sz with
  | true => d.asTy τ
  | false => match asm τ ((expand τ x).take off ++ d.cells ++ (expand τ x).drop (off + sz)) with
    | some (y, []) => some y
    | _ => none

/-- What comes of an operation. -/
def putD (dst : Option Tmp) (d : D) : Pr :=
  match dst with
  | some n => .wr (.tmp n) (.d d) .ret
  | none => .ret

def wrCells (id g : Nat) : Nat → List D → Pr → Pr
  | _, [], p => p
  | i, d :: ds, p => .wr (.cell id g i) (.d d) (wrCells id g (i + 1) ds p)

def nextGen : Option Cell → Nat
  | some c => c.gen + 1
  | none => 0

/-- A new box of these cells. -/
def newBox (ob : Nat) (dst : Option Tmp) (cells : List D) : Pr :=
  match dst with
  | some n => .rd (.obj (n + ob)) fun c => .wr (.obj (n + ob)) (.box (nextGen c) cells.length) (wrCells (n + ob) (nextGen c) 0 cells (.wr (.tmp n) (.d (.ptr (n + ob) (nextGen c) 0)) .ret))
  | none => .fail

/-- A new slice of these elements. -/
def newVec (ob : Nat) (dst : Option Tmp) (e : TypeId) (τ : Ty) (xs : List τ.I) : Pr :=
  match dst with
  | some n => .rd (.obj (n + ob)) fun c => .wr (.obj (n + ob)) (.vec (nextGen c) e τ xs) (.wr (.tmp n) (.d (.vec (n + ob) (nextGen c))) .ret)
  | none => .fail

/-- An own slice is written to no more. -/
def sealCell (d : D) (k : D → Pr) : Pr :=
  match d with
  | .vec id g => .rd (.obj id) fun
    | some (.vec g' _ τ xs) => .gd (Nat.beq g g') (.wr (.obj id) (.sl g' τ xs) (k (.val (.slice τ) xs)))
    | some (.sl g' τ xs) => .gd (Nat.beq g g') (k (.val (.slice τ) xs))
    | _ => .fail
  | .mp id g => .rd (.obj id) fun
    | some (.map g' κ τ xs) => .gd (Nat.beq g g') (.wr (.obj id) (.sm g' κ τ xs) (k (.val (.map κ τ) xs)))
    | some (.sm g' κ τ xs) => .gd (Nat.beq g g') (k (.val (.map κ τ) xs))
    | _ => .fail
  | d => k d

def sealCells : List D → (List D → Pr) → Pr
  | [], k => k []
  | d :: ds, k => sealCell d fun d' => sealCells ds fun ds' => k (d' :: ds')

def sealD (d : D) (k : D → Pr) : Pr :=
  match d with
  | .agg ds => sealCells ds fun ds' => k (.agg ds')
  | d => sealCell d k

def sealDs : List D → (List D → Pr) → Pr
  | [], k => k []
  | d :: ds, k => sealD d fun d' => sealDs ds fun ds' => k (d' :: ds')

/-- As data for a while. -/
def lendCell (d : D) (k : D → Pr) : Pr :=
  match d with
  | .vec id g => .rd (.obj id) fun
    | some (.vec g' _ τ xs) => .gd (Nat.beq g g') (k (.val (.slice τ) xs))
    | some (.sl g' τ xs) => .gd (Nat.beq g g') (k (.val (.slice τ) xs))
    | _ => .fail
  | .mp id g => .rd (.obj id) fun
    | some (.map g' κ τ xs) => .gd (Nat.beq g g') (k (.val (.map κ τ) xs))
    | some (.sm g' κ τ xs) => .gd (Nat.beq g g') (k (.val (.map κ τ) xs))
    | _ => .fail
  | d => k d

def lendCells : List D → (List D → Pr) → Pr
  | [], k => k []
  | d :: ds, k => lendCell d fun d' => lendCells ds fun ds' => k (d' :: ds')

def lendD (d : D) (k : D → Pr) : Pr :=
  match d with
  | .agg ds => lendCells ds fun ds' => k (.agg ds')
  | d => lendCell d k

def lendDs : List D → (List D → Pr) → Pr
  | [], k => k []
  | d :: ds, k => lendD d fun d' => lendDs ds fun ds' => k (d' :: ds')

/-- Nothing in it lies in memory. -/
def Ty.flat : Ty → Bool
  | .slice _ => false
  | .value => false
  | .ref _ => false
  | .map _ _ => false
  | .err => false
  | .pair a b => a.flat && b.flat
  | .arr _ e => e.flat
  | _ => true

def D.flat1 : D → Bool
  | .val τ _ => τ.flat
  | _ => false
def D.flat : D → Bool
  | .tup ds => ds.all D.flat1
  | d => d.flat1

/-- As data of a type; sealed. -/
def sealTy (τ : Ty) (d : D) (k : τ.I → Pr) : Pr :=
  sealD d fun d' => match d'.asTy τ with
    | some x => k x
    | none => .fail

def sealTys (τ : Ty) : List D → (List τ.I → Pr) → Pr
  | [], k => k []
  | d :: ds, k => sealTy τ d fun x => sealTys τ ds fun xs => k (x :: xs)

/-- A pointer to a box as one to data, for a while. -/
def rdCells (id g : Nat) : Nat → Nat → (List D → Pr) → Pr
  | _, 0, k => k []
  | i, n + 1, k => .rd (.cell id g i) fun
    | some (.d d) => rdCells id g (i + 1) n fun ds => k (d :: ds)
    | _ => .fail

def asmAll (τ : Ty) (ds : List D) : Option τ.I :=
  match asm τ ds with
  | some (x, []) => some x
  | _ => none

def lendTo (τ : Ty) (d : D) (k : D → Pr) : Pr :=
  match d with
  | .ptr id g off => match τ with
    | .ref e => .rd (.obj id) fun
      | some (.box g' _) => .gd (Nat.beq g g' && Nat.beq off 0) (rdCells id g 0 e.sz fun ds => lendCells ds fun ds' => match asmAll e ds' with
        | some x => k (.val (.ref e) (some x))
        | none => .fail)
      | some (.sb g' τ' x) => if h : τ' = e then .gd (Nat.beq g g' && Nat.beq off 0) (k (.val (.ref e) (some (castTy h x)))) else .fail
      | _ => .fail
    | _ => .fail
  | d => lendD d fun d' => match d'.asTy τ with
    | some x => k (.val τ x)
    | none => .fail

def lendTos : List Ty → List D → (List D → Pr) → Pr
  | [], [], k => k []
  | τ :: τs, d :: ds, k => lendTo τ d fun d' => lendTos τs ds fun ds' => k (d' :: ds')
  | _, _, _ => .fail

/-- A pointer to a box as one to data that are written to no more. -/
def sealTo (τ : Ty) (d : D) (k : D → Pr) : Pr :=
  match d with
  | .ptr id g off => match τ with
    | .ref e => .rd (.obj id) fun
      | some (.box g' _) => .gd (Nat.beq g g' && Nat.beq off 0) (rdCells id g 0 e.sz fun ds => sealCells ds fun ds' => match asmAll e ds' with
        | some x => .rd (.obj id) fun
          | some (.box g2 _) => .gd (Nat.beq g g2) (.wr (.obj id) (.sb g e x) (k (.val (.ref e) (some x))))
          | _ => .fail
        | none => .fail)
      | some (.sb g' τ' x) => if h : τ' = e then .gd (Nat.beq g g' && Nat.beq off 0) (k (.val (.ref e) (some (castTy h x)))) else .fail
      | _ => .fail
    | _ => .fail
  | d => sealD d fun d' => match d'.asTy τ with
    | some x => k (.val τ x)
    | none => .fail

def sealTos : List Ty → List D → (List D → Pr) → Pr
  | [], [], k => k []
  | τ :: τs, d :: ds, k => sealTo τ d fun d' => sealTos τs ds fun ds' => k (d' :: ds')
  | _, _, _ => .fail

/-- Where parts lie, into cells. -/
def fillD (place : Nat → Option (Nat × Nat)) (cells : List D) : List (Nat × D) → Option (List D)
  | [] => some cells
  | (i, d) :: rest => match place i with
    | none => none
    | some (off, size) => bif Nat.beq d.cells.length size && Nat.ble (off + size) cells.length then fillD place (cells.take off ++ d.cells ++ cells.drop (off + size)) rest else none

def LInfo.zeroD (i : LInfo) : List D := i.zero.cells.toList.map ofV

def evParts : List (Nat × Operand) → (List (Nat × D) → Pr) → Pr
  | [], k => k []
  | (i, x) :: xs, k => evO x fun d => evParts xs fun ds => k ((i, d) :: ds)

/-- The cells of a type, as one value. -/
def mkD (agg : Bool) (cells : List D) : Option D :=
  bif cells.all D.solid then (match agg, cells with
  | true, ds => some (.agg ds)
  | false, [d] => bif d.isAgg then none else some d
  | false, _ => none) else none

def putO (dst : Option Tmp) (d : Option D) : Pr :=
  match d with
  | some d => putD dst d
  | none => .fail

/-- A part of data that lie in memory. -/
def compOf (ty : Option Ty) (τ : Ty) (x : τ.I) (off : Nat) : Option D :=
  match ty with
  | some σ => match comp σ τ x off with
    | some y => some (.val σ y)
    | none => none
  | none => none

def loadPart (dst : Option Tmp) (i : LInfo) (τ : Ty) (x : τ.I) (off : Nat) : Pr :=
  match compOf i.ty τ x off with
  | some d => putD dst d
  | none => bif Nat.beq off 0 && Nat.beq τ.sz i.sz && (τ.isAgg == isAggD i.desc) then putD dst (.val τ x)
  else bif Nat.ble (off + i.sz) (expand τ x).length then putO dst (mkD (isAggD i.desc) (((expand τ x).drop off).take i.sz)) else .fail

def fieldOff (lay : Lay) (s : TypeId) (f : Nat) : Option Nat :=
  match lay s with
  | some i => match i.desc with
    | .struct fs => match fs[f]? with
      | some fd => match lay fd.type with
        | some j => bif Nat.beq j.sz 0 then none else some fd.offset
        | none => none
      | none => none
    | _ => none
  | none => none

def sliceElem (lay : Lay) (t : TypeId) : Option (TypeId × LInfo) :=
  match lay t with
  | some i => match i.desc with
    | .slice e => match lay e with
      | some j => some (e, j)
      | none => none
    | _ => none
  | none => none

def placesOf (lay : Lay) : List Field → Option (List (Nat × Nat))
  | [] => some []
  | f :: fs => match lay f.type, placesOf lay fs with
    | some j, some l => some ((f.offset, j.sz) :: l)
    | _, _ => none

def intB (op : BinOp) (k : IntKind) (x y : Int) : Option (Bool × D) :=
  match op with
  | .add => some (true, .val (.int k) (k.wrap (x + y)))
  | .sub => some (true, .val (.int k) (k.wrap (x - y)))
  | .mul => some (true, .val (.int k) (k.wrap (x * y)))
  | .quo => some (!(y == 0), .val (.int k) (k.wrap (x.tdiv y)))
  | .rem => some (!(y == 0), .val (.int k) (x.tmod y))
  | .eql => some (true, .val .bool (x == y))
  | .neq => some (true, .val .bool (x != y))
  | .lss => some (true, .val .bool (decide (x < y)))
  | .leq => some (true, .val .bool (decide (x ≤ y)))
  | .gtr => some (true, .val .bool (decide (x > y)))
  | .geq => some (true, .val .bool (decide (x ≥ y)))
  | .and => some (true, .val (.int k) (k.wrap (BitVec.ofInt k.bits x &&& BitVec.ofInt k.bits y).toNat))
  | .or => some (true, .val (.int k) (k.wrap (BitVec.ofInt k.bits x ||| BitVec.ofInt k.bits y).toNat))
  | .xor => some (true, .val (.int k) (k.wrap (BitVec.ofInt k.bits x ^^^ BitVec.ofInt k.bits y).toNat))
  | .andNot => some (true, .val (.int k) (k.wrap (BitVec.ofInt k.bits x &&& ~~~ (BitVec.ofInt k.bits y)).toNat))
  | _ => none

def shiftB (op : BinOp) (k : IntKind) (x y : Int) : Option (Bool × D) :=
  match op with
  | .shl => some (decide (0 ≤ y), .val (.int k) (k.wrap (x * 2 ^ (min y.toNat k.bits))))
  | .shr => some (decide (0 ≤ y), .val (.int k) (x.fdiv (2 ^ (min y.toNat k.bits))))
  | _ => none

def strB (op : BinOp) (x y : List UInt8) : Option (Bool × D) :=
  match op with
  | .add => some (decide (x.length + y.length ≤ 9223372036854775807), .val .str (x ++ y))
  | .eql => some (true, .val .bool (x == y))
  | .neq => some (true, .val .bool (!(x == y)))
  | .lss => some (true, .val .bool (Op.bytesLess x y))
  | .geq => some (true, .val .bool (!(Op.bytesLess x y)))
  | .leq => some (true, .val .bool (Op.bytesLess x y || x == y))
  | .gtr => some (true, .val .bool (!(Op.bytesLess x y || x == y)))
  | _ => none

def boolB (op : BinOp) (x y : Bool) : Option (Bool × D) :=
  match op with
  | .eql => some (true, .val .bool (x == y))
  | .neq => some (true, .val .bool (!(x == y)))
  | _ => none

def isShift : BinOp → Bool
  | .shl | .shr => true
  | _ => false

def isBoolT : Option LInfo → Bool
  | some i => match i.desc with
    | .bool => true
    | _ => false
  | none => false

def binB (t : Option LInfo) (op : BinOp) (x y : D) : Option (Bool × D) :=
  match x, y with
  | .val (.int k) a, .val (.int k') b => bif isShift op then shiftB op k a b else bif k == k' then intB op k a b else none
  | .val .str a, .val .str b => strB op a b
  | .val .bool a, .val .bool b => bif isBoolT t then boolB op a b else none
  | _, _ => none

def putB (dst : Option Tmp) (r : Option (Bool × D)) : Pr :=
  match r with
  | some (b, d) => .gd b (putD dst d)
  | none => .fail

/-- A slice against nil. -/
def nilB (x y : D) : Option Bool :=
  match y with
  | .raw (.slice none 0 0) => match x with
    | .raw (.slice none 0 0) => some true
    | .raw (.slice (some _) _ _) => some false
    | .val (.slice _) (_ :: _) => some false
    | _ => none
  | _ => none

/-- An error against nil. -/
def errB (t : Option LInfo) (y : Operand) (op : BinOp) (x : D) : Option Bool :=
  match y with
  | .const .nilIface => match t with
    | some i => match i.desc with
      | .interface _ => match x with
        | .val .err e => match op with
          | .eql => some e.isNil
          | .neq => some (!e.isNil)
          | _ => none
        | _ => none
      | _ => none
    | none => none
  | _ => none

def nilT (t : Option LInfo) (op : BinOp) (x y : D) : Option Bool :=
  match t with
  | some i => match i.desc with
    | .slice _ => match op with
      | .eql => nilB x y
      | .neq => match nilB x y with
        | some b => some (!b)
        | none => none
      | _ => none
    | _ => none
  | none => none

/-- Is it nil? -/
def nilOf (d : D) (k : Bool → Pr) : Pr :=
  match d with
  | .ptr id g _ => .rd (.obj id) fun
    | some (.box g' _) => .gd (Nat.beq g g') (k false)
    | some (.sb g' _ _) => .gd (Nat.beq g g') (k false)
    | _ => .fail
  | .eptr id g _ _ => .rd (.obj id) fun
    | some (.vec g' _ _ _) => .gd (Nat.beq g g') (k false)
    | some (.sl g' _ _) => .gd (Nat.beq g g') (k false)
    | _ => .fail
  | .sptr _ _ _ => k false
  | .val (.ref _) o => k o.isNone
  | .raw v => .gd (isNilPtr v) (k true)
  | _ => .fail

/-- A comparison of pointers with nil; true: 'unlike'. -/
def nilKind (t : Option LInfo) (op : BinOp) (y : D) : Option Bool :=
  match t with
  | some i => match i.desc with
    | .pointer _ => match y with
      | .raw (.pointer none) => match op with
        | .eql => some false
        | .neq => some true
        | _ => none
      | _ => none
    | _ => none
  | none => none

/-- A comparison of structs, or of arrays. -/
def aggEq (t : Option LInfo) (op : BinOp) (x y : D) : Option Bool :=
  match t with
  | some i => match i.ty with
    | some τ => bif i.cmp && τ.isAgg then (match x.asTy τ with
      | some a => match y.asTy τ with
        | some b => match op with
          | .eql => some (τ.beq a b)
          | .neq => some (!(τ.beq a b))
          | _ => none
        | none => none
      | none => none) else none
    | none => none
  | none => none

def unB (op : UnOp) (x : D) : Option D :=
  match op, x with
  | .neg, .val (.int k) n => some (.val (.int k) (k.wrap (0 - n)))
  | .not, .val .bool b => some (.val .bool (!b))
  | _, _ => none

def bytesOf (s : List UInt8) : List Int := s.map fun b => (b.toNat : Int)
def strOf (l : List Int) : List UInt8 := l.map fun n => UInt8.ofNat n.toNat

def inB (n : Int) (len : Nat) : Bool := decide (0 ≤ n) && decide (n < (len : Int))
def cutB (lo hi : Int) (len : Nat) : Bool := decide (0 ≤ lo) && decide (lo ≤ hi) && decide (hi ≤ (len : Int))

/-- An optional bound of a slice. -/
def evBound (x : Option Operand) (other : Int) (k : Int → Pr) : Pr :=
  match x with
  | none => k other
  | some o => evO o fun
    | .val (.int _) n => k n
    | _ => .fail

def maxRoom : Nat := 140737488355328

def isEmptySlice : Value → Bool
  | .slice none 0 0 => true
  | .slice (some _) 0 _ => true
  | _ => false

/-- A slice is copied. -/
def copied (ob : Nat) (dst : Option Tmp) (e : TypeId) (τ : Ty) (c : Nat) : List D → Pr
  | [d] => match d.asTy (.slice τ) with
    | some xs => .gd (decide (xs.length * c ≤ maxRoom) && decide (xs.length ≤ maxRoom)) (newVec ob dst e τ xs)
    | none => .fail
  | _ => .fail

/-- A piece is cut out of an own slice. -/
def cutOut (dst : Option Tmp) (e : TypeId) (τ : Ty) : List D → Pr
  | [.vec id g, .val (.int .i64) i, .val (.int .i64) j] => .rd (.obj id) fun
    | some (.vec g' e' τ' xs) =>
      if h : τ' = τ then
        .gd (Nat.beq g g' && Nat.beq e e' && decide (0 ≤ i) && decide (i ≤ j) && decide (j ≤ (xs.length : Int)))
          (.wr (.obj id) (.vec (g' + 1) e τ ((castTy (a := .slice τ') (b := .slice τ) (congrArg Ty.slice h) xs).take i.toNat ++ (castTy (a := .slice τ') (b := .slice τ) (congrArg Ty.slice h) xs).drop j.toNat)) (putD dst (.vec id (g' + 1))))
      else .fail
    | _ => .fail
  | _ => .fail

/-- Append data to an own slice. -/
def appendV (ob : Nat) (dst : Option Tmp) (e : TypeId) (j : LInfo) (s : D) (τ : Ty) (ys : List τ.I) : Pr :=
  match s with
  | .raw v => .gd (isNilSlice v && decide (ys.length * j.bytes ≤ maxRoom) && decide (ys.length ≤ maxRoom)) (newVec ob dst e τ ys)
  | .vec id g => .rd (.obj id) fun
    | some (.vec g' e' τ' xs) =>
      if h : τ' = τ then
        .gd (Nat.beq g g' && Nat.beq e e' && decide ((xs.length + ys.length) * j.bytes ≤ maxRoom) && decide (xs.length + ys.length ≤ maxRoom))
          (.wr (.obj id) (.vec (g' + 1) e τ (castTy (a := .slice τ') (b := .slice τ) (congrArg Ty.slice h) xs ++ ys)) (putD dst (.vec id (g' + 1))))
      else .fail
    | _ => .fail
  | _ => .fail

/-! ### Calls that are handed what they may write to -/

/-- Where a part of a box has its number. -/
def sid (b off : Nat) : Nat := 1000000 + b * 1000 + off

def sealAt (id g : Nat) : Nat → Nat → Pr → Pr
  | _, 0, p => p
  | i, n + 1, p => .rd (.cell id g i) fun
    | some (.d d) => sealCell d fun _ => sealAt id g (i + 1) n p
    | _ => .fail

/-- What is to be data is sealed. -/
def prepC : Sh → Nat → Nat → Nat → Pr → Pr
  | .unit, _, _, _, p => p
  | .pair a b, id, g, off, p => prepC a id g off (prepC b id g (off + a.csz) p)
  | .val τ, id, g, off, p => match τ with
    | .ref e => .rd (.cell id g off) fun
      | some (.d d) => sealTo (.ref e) d fun _ => p
      | _ => .fail
    | τ => sealAt id g off τ.sz p
  | .vec _ _, _, _, _, p => p
  | .map _ _, _, _, _, p => p
  | .box c, id, g, off, p => .rd (.cell id g off) fun
    | some (.d (.ptr i j _)) => prepC c i j 0 p
    | _ => .fail
  | .obox c, id, g, off, p => .rd (.cell id g off) fun
    | some (.d (.ptr i j _)) => prepC c i j 0 p
    | some (.d (.raw _)) => p
    | _ => .fail

def prepV (s : Sh) (d : D) (p : Pr) : Pr :=
  match s with
  | .val τ => sealTo τ d fun _ => p
  | .box c => match d with
    | .ptr i j _ => prepC c i j 0 p
    | _ => .fail
  | .obox c => match d with
    | .ptr i j _ => prepC c i j 0 p
    | .raw _ => p
    | _ => .fail
  | _ => p

def prepAll : List Sh → List D → Pr → Pr
  | s :: ss, d :: ds, p => prepV s d (prepAll ss ds p)
  | _, _, p => p

/-- A sealed thing is data. -/
def toldCell (d : D) (k : D → Pr) : Pr :=
  match d with
  | .vec id g => .rd (.obj id) fun
    | some (.sl g' τ xs) => .gd (Nat.beq g g') (k (.val (.slice τ) xs))
    | _ => .fail
  | .mp id g => .rd (.obj id) fun
    | some (.sm g' κ τ xs) => .gd (Nat.beq g g') (k (.val (.map κ τ) xs))
    | _ => .fail
  | .ptr id g off => .rd (.obj id) fun
    | some (.sb g' τ x) => .gd (Nat.beq g g' && Nat.beq off 0) (k (.val (.ref τ) (some x)))
    | _ => k (.ptr id g off)
  | d => k d

def toldCells : List D → (List D → Pr) → Pr
  | [], k => k []
  | d :: ds, k => toldCell d fun d' => toldCells ds fun ds' => k (d' :: ds')

def toldD (d : D) (k : D → Pr) : Pr :=
  match d with
  | .agg ds => toldCells ds fun ds' => k (.agg ds')
  | d => toldCell d k

def lookVec (e : TypeId) (τ : Ty) (d : D) (k : List τ.I → List Nat → Pr) : Pr :=
  match d with
  | .raw v => .gd (isNilSlice v) (k [] [])
  | .vec i j => .rd (.obj i) fun
    | some (.vec j' e' τ' xs) => if h : τ' = τ then .gd (Nat.beq j j' && Nat.beq e e') (k (castTy (a := .slice τ') (b := .slice τ) (congrArg Ty.slice h) xs) [i]) else .fail
    | _ => .fail
  | _ => .fail

def lookMap (κ τ : Ty) (d : D) (k : List (κ.I × τ.I) → List Nat → Pr) : Pr :=
  match d with
  | .mp i j => .rd (.obj i) fun
    | some (.map j' κ' τ' xs) => if h : Ty.map κ' τ' = Ty.map κ τ then .gd (Nat.beq j j') (k (castTy h xs) [i]) else .fail
    | _ => .fail
  | _ => .fail

/-- What a row of a box's cells holds, and the numbers of the objects in it. -/
def lookC : (s : Sh) → Nat → Nat → Nat → (s.ty.I → List Nat → Pr) → Pr
  | .unit, _, _, _, k => k () []
  | .pair a b, id, g, off, k => lookC a id g off fun x is => lookC b id g (off + a.csz) fun y js => k (x, y) (is ++ js)
  | .val τ, id, g, off, k => rdCells id g off τ.sz fun ds => toldCells ds fun ds' => match asmAll τ ds' with
    | some x => k x []
    | none => .fail
  | .vec e τ, id, g, off, k => .rd (.cell id g off) fun
    | some (.d d) => lookVec e τ d k
    | _ => .fail
  | .map κ τ, id, g, off, k => .rd (.cell id g off) fun
    | some (.d d) => lookMap κ τ d k
    | _ => .fail
  | .box c, id, g, off, k => .rd (.cell id g off) fun
    | some (.d (.ptr i j o)) => .rd (.obj i) fun
      | some (.box j' m) => .gd (Nat.beq j j' && Nat.beq o 0 && Nat.beq m c.csz) (lookC c i j 0 fun x is => k x (i :: is))
      | _ => .fail
    | _ => .fail
  | .obox c, id, g, off, k => .rd (.cell id g off) fun
    | some (.d (.raw v)) => .gd (isNilPtr v) (k none [])
    | some (.d (.ptr i j o)) => .rd (.obj i) fun
      | some (.box j' m) => .gd (Nat.beq j j' && Nat.beq o 0 && Nat.beq m c.csz) (lookC c i j 0 fun x is => k (some x) (i :: is))
      | _ => .fail
    | _ => .fail

def lookV (s : Sh) (d : D) (k : s.ty.I → List Nat → Pr) : Pr :=
  match s with
  | .val τ => toldD d fun d' => match d'.asTy τ with
    | some x => k x []
    | none => .fail
  | .vec e τ => lookVec e τ d k
  | .map κ τ => lookMap κ τ d k
  | .box c => match d with
    | .ptr i j o => .rd (.obj i) fun
      | some (.box j' m) => .gd (Nat.beq j j' && Nat.beq o 0 && Nat.beq m c.csz) (lookC c i j 0 fun x is => k x (i :: is))
      | _ => .fail
    | _ => .fail
  | .obox c => match d with
    | .raw v => .gd (isNilPtr v) (k none [])
    | .ptr i j o => .rd (.obj i) fun
      | some (.box j' m) => .gd (Nat.beq j j' && Nat.beq o 0 && Nat.beq m c.csz) (lookC c i j 0 fun x is => k (some x) (i :: is))
      | _ => .fail
    | _ => .fail
  | _ => .fail

/-- All that is handed on; each with the numbers of the objects in it. -/
def lookAll : List Sh → List D → (List D → List (List Nat) → Pr) → Pr
  | [], [], k => k [] []
  | s :: ss, d :: ds, k => lookV s d fun x is => lookAll ss ds fun xs js => k (.val s.ty x :: xs) (is :: js)
  | _, _, _ => .fail

def inNat (n : Nat) (l : List Nat) : Bool := l.any (Nat.beq n)
def noDup : List Nat → Bool
  | [] => true
  | n :: l => !(inNat n l) && noDup l

/-- These objects are the callee's. -/
def killIds : List Nat → Pr → Pr
  | [], p => p
  | i :: is, p => .rd (.obj i) fun
    | some c => .wr (.obj i) (.dead (c.gen + 1)) (killIds is p)
    | none => .fail

/-- Nothing is known of these cells. -/
def hush (id g : Nat) : Nat → Nat → Pr → Pr
  | _, 0, p => p
  | i, n + 1, p => .wr (.cell id g i) (.dead 0) (hush id g (i + 1) n p)

def giveVec (e : TypeId) (τ : Ty) (xs : List τ.I) (i : Nat) (k : D → Pr) : Pr :=
  .rd (.obj i) fun c => .wr (.obj i) (.vec (nextGen c) e τ xs) (k (.vec i (nextGen c)))
def giveMap (κ τ : Ty) (xs : List (κ.I × τ.I)) (i : Nat) (k : D → Pr) : Pr :=
  .rd (.obj i) fun c => .wr (.obj i) (.map (nextGen c) κ τ xs) (k (.mp i (nextGen c)))

/-- A row of a box's cells is told. -/
def giveC : (s : Sh) → s.ty.I → Nat → Nat → Nat → Pr → Pr
  | .unit, _, _, _, _, p => p
  | .pair a b, x, id, g, off, p => giveC a x.1 id g off (giveC b x.2 id g (off + a.csz) p)
  | .val τ, x, id, g, off, p => wrCells id g off (expand τ x) p
  | .vec e τ, xs, id, g, off, p => giveVec e τ xs (sid id off) fun d => .wr (.cell id g off) (.d d) p
  | .map κ τ, xs, id, g, off, p => giveMap κ τ xs (sid id off) fun d => .wr (.cell id g off) (.d d) p
  | .box c, x, id, g, off, p => .rd (.obj (sid id off)) fun o => .wr (.obj (sid id off)) (.box (nextGen o) c.csz) (giveC c x (sid id off) (nextGen o) 0 (.wr (.cell id g off) (.d (.ptr (sid id off) (nextGen o) 0)) p))
  | .obox c, x, id, g, off, p => .br x.isSome
    (.rd (.obj (sid id off)) fun o => .wr (.obj (sid id off)) (.box (nextGen o) c.csz) (giveC c (x.getD c.ty.dflt) (sid id off) (nextGen o) 0 (.wr (.cell id g off) (.d (.ptr (sid id off) (nextGen o) 0)) p)))
    (.wr (.cell id g off) (.d (.raw (.pointer none))) p)

def giveV (s : Sh) (x : s.ty.I) (i : Nat) (k : D → Pr) : Pr :=
  match s with
  | .val τ => k (.val τ x)
  | .vec e τ => giveVec e τ x i k
  | .map κ τ => giveMap κ τ x i k
  | .box c => .rd (.obj i) fun o => .wr (.obj i) (.box (nextGen o) c.csz) (giveC c x i (nextGen o) 0 (k (.ptr i (nextGen o) 0)))
  | .obox c => .br (Option.isSome (α := c.ty.I) x)
    (.rd (.obj i) fun o => .wr (.obj i) (.box (nextGen o) c.csz) (giveC c (Option.getD (α := c.ty.I) x c.ty.dflt) i (nextGen o) 0 (k (.ptr i (nextGen o) 0))))
    (k (.raw (.pointer none)))
  | _ => .fail

def giveAll : List Sh → List D → Nat → (List D → Pr) → Pr
  | [], [], _, k => k []
  | s :: ss, u :: us, i, k => match u.asTy s.ty with
    | some x => giveV s x i fun d => giveAll ss us (i + 1) fun ds => k (d :: ds)
    | none => .fail
  | _, _, _, _ => .fail

/-- Nothing is known of the boxes that were handed on. -/
def hushAll : List Sh → List D → Pr → Pr
  | .box c :: ss, d :: ds, p => match d with
    | .ptr i j _ => hush i j 0 c.csz (hushAll ss ds p)
    | _ => .fail
  | _ :: ss, _ :: ds, p => hushAll ss ds p
  | _, _, p => p

/-- The boxes that were handed on hold other things now. -/
def giveBack : List Sh → List D → List D → (List D → Pr) → Pr
  | .box c :: ss, d :: ds, us, k => match d, us with
    | .ptr i j o, u :: us => .rd (.obj i) fun
      | some (.box j' m) => .gd (Nat.beq j j' && Nat.beq o 0 && Nat.beq m c.csz) (match u.asTy c.ty with
        | some x => giveC c x i j 0 (giveBack ss ds us k)
        | none => .fail)
      | _ => .fail
    | _, _ => .fail
  | _ :: ss, _ :: ds, us, k => giveBack ss ds us k
  | [], [], us, k => k us
  | _, _, _, _ => .fail

def Sh.isBox : Sh → Bool
  | .box _ => true
  | _ => false

/-- The objects that are not boxes handed on themselves. -/
def subIds : List Sh → List (List Nat) → List Nat
  | .box _ :: ss, (_ :: is) :: js => is ++ subIds ss js
  | _ :: ss, is :: js => is ++ subIds ss js
  | _, _ => []

def D.notTup : D → Bool
  | .tup _ => false
  | _ => true

def packD : List D → Option D
  | [d] => some d
  | ds => bif ds.all D.notTup then some (.tup ds) else none

def callIo (ob : Nat) (dst : Option Tmp) (f : FuncId) (ps rs : List Sh) (ds : List D) : Pr :=
  prepAll ps ds (lookAll ps ds fun xs iss => .gd (noDup iss.flatten) (.call f xs fun
    | .tup us => killIds (subIds ps iss) (hushAll ps ds (giveBack ps ds us fun us' => giveAll rs us' (5000000 + (ob + (match dst with
      | some n => n
      | none => 999)) * 10) fun ds' => putO dst (packD ds')))
    | _ => .fail))

/-- Is it a slice's (true) or a text's length? -/
def lenT (lay : Lay) : List TypeId → Option Bool
  | [t] => match lay t with
    | some i => match i.desc with
      | .string => some false
      | .slice _ => some true
      | _ => none
    | none => none
  | _ => none

def builtinPr (lay : Lay) (dst : Option Tmp) (b : Builtin) (argTypes : List TypeId) (ds : List D) : Pr :=
  match b, ds with
  | .len, [d] => match lenT lay argTypes, d with
    | some false, .val .str s => putD dst (.val (.int .i64) (s.length : Int))
    | some true, .val (.slice _) xs => putD dst (.val (.int .i64) (xs.length : Int))
    | some true, .raw v => .gd (isNilSlice v) (putD dst (.val (.int .i64) (0 : Int)))
    | some true, .vec id g => .rd (.obj id) fun
      | some (.vec g' _ _ xs) => .gd (Nat.beq g g') (putD dst (.val (.int .i64) (xs.length : Int)))
      | some (.sl g' _ xs) => .gd (Nat.beq g g') (putD dst (.val (.int .i64) (xs.length : Int)))
      | _ => .fail
    | _, _ => .fail
  | .append, [s, x] => match argTypes with
    | [t, t'] => match sliceElem lay t with
      | some (e, j) => bif Nat.beq t t' then (match j.ty with
        | some τ => .gd (Nat.blt 0 j.sz) <| match x with
          | .vec id g => .rd (.obj id) fun
            | some (.vec g' _ τ' ys) => if h : τ' = τ then .gd (Nat.beq g g') (appendV lay.ob dst e j s τ (castTy (a := .slice τ') (b := .slice τ) (congrArg Ty.slice h) ys)) else .fail
            | some (.sl g' τ' ys) => if h : τ' = τ then .gd (Nat.beq g g') (appendV lay.ob dst e j s τ (castTy (a := .slice τ') (b := .slice τ) (congrArg Ty.slice h) ys)) else .fail
            | _ => .fail
          | .val (.slice τ') ys => if h : τ' = τ then appendV lay.ob dst e j s τ (castTy (a := .slice τ') (b := .slice τ) (congrArg Ty.slice h) ys) else .fail
          | .raw v => .gd (isEmptySlice v) (appendV lay.ob dst e j s τ [])
          | _ => .fail
        | none => .fail) else .fail
      | none => .fail
    | _ => .fail
  | .min, [.val (.int k) a, .val (.int k') c] => .gd (k == k') (putD dst (.val (.int k) (if c < a then c else a)))
  | .max, [.val (.int k) a, .val (.int k') c] => .gd (k == k') (putD dst (.val (.int k) (if c > a then c else a)))
  | _, _ => .fail

/-- A call. -/
def callPr (lay : Lay) (dst : Option Tmp) (f : FuncId) (ds : List D) : Pr :=
  match lay.sp f with
  | .plain => sealDs ds fun ds => .gd (ds.all D.closed) (.call f ds (putD dst))
  | .borrow τs fresh => lendTos τs ds fun ds => .call f ds fun d => .gd (fresh || d.flat) (putD dst d)
  | .clone e τ b => sealDs ds (copied lay.ob dst e τ b)
  | .delete e τ => cutOut dst e τ ds
  | .inl => .fail
  | .io ps rs => callIo lay.ob dst f ps rs ds

/-- The text of a number of Unicode's. -/
def runeStr (n : Int) : List UInt8 := (Utf8.encode n).data.toList

def isBytesT (lay : Lay) (i : LInfo) : Bool :=
  match i.desc with
  | .slice e => match lay e with
    | some j => match j.desc with
      | .int .u8 => true
      | _ => false
    | none => false
  | _ => false

/-- The number of Unicode's at a place of a text, and how many bytes it takes. -/
def decR (s : List UInt8) (pos : Nat) : Nat × Nat := Utf8.decode ⟨s.toArray⟩ pos

def isStrT (i : LInfo) : Bool :=
  match i.desc with
  | .string => true
  | _ => false

/-- A place in an array that is written to no more. -/
def arrAddr (lay : Lay) (dst : Option Tmp) (t : TypeId) (d : D) (n : Int) : Pr :=
  match lay t with
  | some i => match i.desc with
    | .array m e => match lay e with
      | some j => match j.ty with
        | some τ => prepV (.val (.ref (.arr m τ))) d (lookV (.val (.ref (.arr m τ))) d fun x _ => match (x : Option (List τ.I)) with
          | some xs => .gd (inB n m && Nat.beq τ.sz j.sz) (putD dst (.sptr τ (xs.getD n.toNat τ.dflt) 0))
          | none => .fail)
        | none => .fail
      | none => .fail
    | _ => .fail
  | none => .fail

/-- A place in an array, by a number that is known ahead: in an own box, where that is. -/
def arrAt (lay : Lay) (dst : Option Tmp) (t : TypeId) (d : D) (n : Int) : Pr :=
  match d with
  | .ptr id g off => match lay t with
    | some i => match i.desc with
      | .array m e => match lay e with
        | some j => .rd (.obj id) fun
          | some (.box g' _) => .gd (inB n m && Nat.beq g g') (putD dst (.ptr id g (off + n.toNat * j.sz)))
          | _ => arrAddr lay dst t (.ptr id g off) n
        | none => .fail
      | _ => .fail
    | none => .fail
  | d => arrAddr lay dst t d n

/-- A map's types: of keys, of what they lead to, and how that is laid. -/
def mapT (lay : Lay) (t : TypeId) : Option (Ty × Ty × LInfo) :=
  match lay t with
  | some i => match i.desc with
    | .map k e => match lay k, lay e with
      | some ki, some ei => match ki.ty, ei.ty with
        | some κ, some τ => bif ki.key then some (κ, τ, ei) else none
        | _, _ => none
      | _, _ => none
    | _ => none
  | none => none

/-- A new map. -/
def newMap (ob : Nat) (dst : Option Tmp) (κ τ : Ty) : Pr :=
  match dst with
  | some n => .rd (.obj (n + ob)) fun c => .wr (.obj (n + ob)) (.map (nextGen c) κ τ []) (.wr (.tmp n) (.d (.mp (n + ob) (nextGen c))) .ret)
  | none => .fail

/-- What a map holds. -/
def mapData (κ τ : Ty) (d : D) (k : List (κ.I × τ.I) → Pr) : Pr :=
  match d with
  | .val (.map κ' τ') xs => if h : Ty.map κ' τ' = Ty.map κ τ then k (castTy h xs) else .fail
  | .mp id g => .rd (.obj id) fun
    | some (.map g' κ' τ' xs) => if h : Ty.map κ' τ' = Ty.map κ τ then .gd (Nat.beq g g') (k (castTy (a := .map κ' τ') (b := .map κ τ) h xs)) else .fail
    | some (.sm g' κ' τ' xs) => if h : Ty.map κ' τ' = Ty.map κ τ then .gd (Nat.beq g g') (k (castTy (a := .map κ' τ') (b := .map κ τ) h xs)) else .fail
    | _ => .fail
  | .raw v => .gd (isNilMap v) (k [])
  | _ => .fail

/-- What a key leads to. -/
def lookPr (dst : Option Tmp) (τ : Ty) (z : τ.I) (ok : Bool) (r : Option τ.I) : Pr :=
  bif ok then putD dst (.tup [.val τ (r.getD z), .val .bool r.isSome]) else putD dst (.val τ (r.getD z))

/-- What an operation does. -/
def opPr (lay : Lay) (o : Oper) : Pr :=
  match o.op with
  | .move x => evO x (putD o.dst)
  | .assign x => evO x (putD o.dst)
  | .pick c a b => evO c fun
    | .val .bool t => .br t (evO a (putD o.dst)) (evO b (putD o.dst))
    | _ => .fail
  | .alloc t => match lay t with
    | some i => newBox lay.ob o.dst i.zeroD
    | none => .fail
  | .box t x => evO x fun d => match lay t with
    | some i => .gd (d.solid && Nat.beq d.cells.length i.sz) (newBox lay.ob o.dst d.cells)
    | none => .fail
  | .build t parts => evParts parts.toList fun ds => .gd (ds.all (·.2.solid)) <| match lay t with
    | some i => match i.desc with
      | .struct fs => match placesOf lay fs.toList with
        | some places => match fillD (fun n => places[n]?) i.zeroD ds with
          | some cells => putD o.dst (.agg cells)
          | none => .fail
        | none => .fail
      | .array _ e => match lay e with
        | some j => match fillD (fun n => some (n * j.sz, j.sz)) i.zeroD ds with
          | some cells => putD o.dst (.agg cells)
          | none => .fail
        | none => .fail
      | _ => .fail
    | none => .fail
  | .buildSlice t len parts => evParts parts.toList fun ds => match sliceElem lay t with
    | some (e, j) => match j.ty with
      | some τ => .gd (ds.map (·.1) == List.range len && Nat.ble len 65536 && Nat.ble j.sz 200 && !(Nat.beq j.sz 0) && ds.all (·.2.solid)) (sealTys τ (ds.map (·.2)) fun xs => newVec lay.ob o.dst e τ xs)
      | none => .fail
    | none => .fail
  | .load t x => evO x fun d => match lay t with
    | some i => match d with
      | .ptr id g off => .rd (.obj id) fun
        | some (.box g' _) => .gd (Nat.beq g g') (rdCells id g off i.sz fun ds => putO o.dst (mkD (isAggD i.desc) ds))
        | _ => .fail
      | .eptr id g n off => .rd (.obj id) fun
        | some (.vec g' _ τ xs) => .gd (Nat.beq g g') (loadPart o.dst i τ (xs.getD n τ.dflt) off)
        | some (.sl g' τ xs) => .gd (Nat.beq g g') (loadPart o.dst i τ (xs.getD n τ.dflt) off)
        | _ => .fail
      | .sptr τ x off => loadPart o.dst i τ x off
      | _ => .fail
    | none => .fail
  | .store t x y => match o.dst with
    | some _ => .fail
    | none => evO x fun p => evO y fun d => match lay t with
      | some i => match p with
        | .ptr id g off => .rd (.obj id) fun
          | some (.box g' _) => .gd (d.solid && d.cells.all D.solid && Nat.blt 0 i.sz && Nat.beq g g' && Nat.beq d.cells.length i.sz) (rdCells id g off i.sz fun _ => wrCells id g off d.cells .ret)
          | _ => .fail
        | .eptr id g n off => sealD d fun d => .rd (.obj id) fun
          | some (.vec g' e τ xs) => .gd (d.solid && Nat.blt 0 i.sz && Nat.beq g g' && Nat.beq d.cells.length i.sz) (match setPart τ (xs.getD n τ.dflt) off i.sz d with
            | some x => .wr (.obj id) (.vec g' e τ (xs.set n x)) .ret
            | none => .fail)
          | _ => .fail
        | _ => .fail
      | none => .fail
  | .fieldAddr s x f => evO x fun d => match fieldOff lay s f with
    | some n => match d with
      | .ptr id g off => .rd (.obj id) fun
        | some (.box g' _) => .gd (Nat.beq g g') (putD o.dst (.ptr id g (off + n)))
        | _ => .fail
      | .eptr id g i off => .rd (.obj id) fun
        | some (.vec g' _ _ _) => .gd (Nat.beq g g') (putD o.dst (.eptr id g i (off + n)))
        | some (.sl g' _ _) => .gd (Nat.beq g g') (putD o.dst (.eptr id g i (off + n)))
        | _ => .fail
      | .sptr τ x off => putD o.dst (.sptr τ x (off + n))
      | _ => .fail
    | none => .fail
  | .indexAddr t x i => evO x fun d => evO i fun
    | .val (.int _) n => match sliceElem lay t with
      | some (_, j) => match d with
        | .val (.slice τ) xs => .gd (Nat.beq τ.sz j.sz && inB n xs.length) (putD o.dst (.sptr τ (xs.getD n.toNat τ.dflt) 0))
        | .vec id g => .rd (.obj id) fun
          | some (.vec g' _ τ xs) => .gd (Nat.beq g g' && Nat.beq τ.sz j.sz && inB n xs.length) (putD o.dst (.eptr id g n.toNat 0))
          | some (.sl g' τ xs) => .gd (Nat.beq g g' && Nat.beq τ.sz j.sz && inB n xs.length) (putD o.dst (.sptr τ (xs.getD n.toNat τ.dflt) 0))
          | _ => .fail
        | _ => .fail
      | none => match i with
        | .const _ => arrAt lay o.dst t d n
        | _ => arrAddr lay o.dst t d n
    | _ => .fail
  | .index t x i => evO x fun d => evO i fun
    | .val (.int _) n => match lay t with
      | some li => match li.desc with
        | .string => match d with
          | .val .str s => .gd (inB n s.length) (putD o.dst (.val (.int .u8) ((s.getD n.toNat 0).toNat : Int)))
          | _ => .fail
        | .array m e => match lay e with
          | some j => match j.ty with
            | some τ => match d.asTy (.arr m τ) with
              | some xs => .gd (inB n m && Nat.beq τ.sz j.sz && (τ.isAgg == isAggD j.desc)) (putD o.dst (.val τ (xs.getD n.toNat τ.dflt)))
              | none => .fail
            | none => .fail
          | none => .fail
        | _ => .fail
      | none => .fail
    | _ => .fail
  | .slice t x lo hi mx => match mx with
    | some _ => .fail
    | none => evO x fun d => match lay t with
      | some li => match li.desc with
        | .string => match d with
          | .val .str s => evBound lo 0 fun l => evBound hi (s.length : Int) fun h => .gd (cutB l h s.length) (putD o.dst (.val .str ((s.drop l.toNat).take (h.toNat - l.toNat))))
          | _ => .fail
        | .slice e => match lay e with
          | some j => match d with
            | .vec id g => bif lay.cut then sealCell (.vec id g) (fun
              | .val (.slice τ) xs => evBound lo 0 fun l => evBound hi (xs.length : Int) fun h => .gd (cutB l h xs.length && Nat.beq τ.sz j.sz) (putD o.dst (.val (.slice τ) ((xs.drop l.toNat).take (h.toNat - l.toNat))))
              | _ => .fail) else .rd (.obj id) fun
              | some (.vec g' e' τ xs) => .gd (Nat.beq g g' && lo.isNone) (evBound hi (xs.length : Int) fun h => .gd (cutB 0 h xs.length) (.wr (.obj id) (.vec (g' + 1) e' τ (xs.take h.toNat)) (putD o.dst (.vec id (g' + 1)))))
              | some (.sl g' τ xs) => .gd (Nat.beq g g') (evBound lo 0 fun l => evBound hi (xs.length : Int) fun h => .gd (cutB l h xs.length && Nat.beq τ.sz j.sz) (putD o.dst (.val (.slice τ) ((xs.drop l.toNat).take (h.toNat - l.toNat)))))
              | _ => .fail
            | .val (.slice τ) xs => evBound lo 0 fun l => evBound hi (xs.length : Int) fun h => .gd (cutB l h xs.length && Nat.beq τ.sz j.sz) (putD o.dst (.val (.slice τ) ((xs.drop l.toNat).take (h.toNat - l.toNat))))
            | _ => .fail
          | none => .fail
        | _ => .fail
      | none => .fail
  | .makeFunc fn first captured => match fn with
    | .func f => .gd first.isEmpty (evOs captured.toList fun ds => .gd (ds.all D.atom) (putD o.dst (.clo f ds)))
    | _ => .fail
  | .extract x n => evO x fun
    | .tup ds => putO o.dst ds[n]?
    | _ => .fail
  | .field s x f => evO x fun d => match lay s with
    | some i => match i.desc with
      | .struct fs => match fs[f]? with
        | some fd => match lay fd.type with
          | some j => .gd (d.isAgg && Nat.ble (fd.offset + j.sz) d.cells.length) (putO o.dst (mkD (isAggD j.desc) ((d.cells.drop fd.offset).take j.sz)))
          | none => .fail
        | none => .fail
      | _ => .fail
    | none => .fail
  | .binOp op t x y _ => evO x fun a => evO y fun b => match errB (lay t) y op a with
   | some r => putD o.dst (.val .bool r)
   | none => match nilT (lay t) op a b with
    | some r => putD o.dst (.val .bool r)
    | none => match nilKind (lay t) op b with
      | some neg => nilOf a fun r => putD o.dst (.val .bool (bif neg then !r else r))
      | none => match aggEq (lay t) op a b with
        | some r => putD o.dst (.val .bool r)
        | none => putB o.dst (binB (lay t) op a b)
  | .unOp op _ x => evO x fun a => putO o.dst (unB op a)
  | .convert src dst x => evO x fun d => match lay src, lay dst with
    | some si, some li => match li.desc with
      | .int k => match d with
        | .val (.int _) n => putD o.dst (.val (.int k) (k.wrap n))
        | _ => .fail
      | .string => match d with
        | .val .str s => putD o.dst (.val .str s)
        | .val (.int _) n => putD o.dst (.val .str (runeStr n))
        | .val (.slice (.int .u8)) xs => .gd (isBytesT lay si) (putD o.dst (.val .str (strOf xs)))
        | .raw v => .gd (isNilSlice v && isBytesT lay si) (putD o.dst (.val .str []))
        | .vec id g => .rd (.obj id) fun
          | some (.vec g' _ (.int .u8) xs) => .gd (Nat.beq g g' && isBytesT lay si) (putD o.dst (.val .str (strOf xs)))
          | some (.sl g' (.int .u8) xs) => .gd (Nat.beq g g' && isBytesT lay si) (putD o.dst (.val .str (strOf xs)))
          | _ => .fail
        | _ => .fail
      | .slice _ => match d with
        | .val .str s => .gd (isBytesT lay li && isStrT si) (putD o.dst (.val (.slice (.int .u8)) (bytesOf s)))
        | _ => .fail
      | _ => .fail
    | _, _ => .fail
  | .makeSlice t l c => evO l fun d => evO c fun d' => match d, d' with
    | .val (.int _) n, .val (.int _) m => match sliceElem lay t with
      | some (e, j) => match j.ty with
        | some τ => match asmAll τ j.zeroD with
          | some x => .gd (decide (0 ≤ n) && decide (n ≤ m) && decide (m.toNat * j.bytes ≤ maxRoom) && decide (m.toNat ≤ maxRoom) && Nat.blt 0 τ.sz && Nat.beq τ.sz j.sz) (newVec lay.ob o.dst e τ (List.replicate n.toNat x))
          | none => .fail
        | none => .fail
      | none => .fail
    | _, _ => .fail
  | .range t x => evO x fun d => match lay t, d with
    | some i, .val .str s => .gd (isStrT i) (match o.dst with
      | some n => .rd (.obj (n + lay.ob)) fun c => .wr (.obj (n + lay.ob)) (.it (nextGen c) s 0) (.wr (.tmp n) (.d (.itr (n + lay.ob) (nextGen c))) .ret)
      | none => .fail)
    | _, _ => .fail
  | .next x isS => evO x fun d => match d with
    | .itr id g => .rd (.obj id) fun
      | some (.it g' s pos) => .gd (isS && Nat.beq g g') (.br (Nat.blt pos s.length)
        (.wr (.obj id) (.it g s (pos + (decR s pos).2)) (putD o.dst (.tup [.val .bool true, .val (.int .i64) (pos : Int), .val (.int .i32) ((decR s pos).1 : Int)])))
        (putD o.dst (.tup [.val .bool false])))
      | _ => .fail
    | _ => .fail
  | .nilCheck x => evO x fun d => match d with
    | .ptr id g off => .rd (.obj id) fun
      | some (.box g' _) => .gd (Nat.beq g g') (putD o.dst (.ptr id g off))
      | some (.sb g' τ x) => .gd (Nat.beq g g' && Nat.beq off 0) (putD o.dst (.sptr τ x 0))
      | _ => .fail
    | .eptr id g i off => .rd (.obj id) fun
      | some (.vec g' _ _ _) => .gd (Nat.beq g g') (putD o.dst (.eptr id g i off))
      | some (.sl g' _ _) => .gd (Nat.beq g g') (putD o.dst (.eptr id g i off))
      | _ => .fail
    | .sptr τ x off => putD o.dst (.sptr τ x off)
    | .val (.ref τ) p => .gd p.isSome (putD o.dst (.sptr τ (p.getD τ.dflt) 0))
    | _ => .fail
  | .makeMap t r => match mapT lay t with
    | some (κ, τ, _) => evBound r 0 fun _ => newMap lay.ob o.dst κ τ
    | none => .fail
  | .mapUpdate t m kx x => match o.dst with
    | some _ => .fail
    | none => match mapT lay t with
      | some (κ, τ, _) => evO m fun md => evO kx fun kd => evO x fun xd => match kd.asTy κ with
        | some key => sealTy τ xd fun val => match md with
          | .mp id g => .rd (.obj id) fun
            | some (.map g' κ' τ' xs) => if h : Ty.map κ' τ' = Ty.map κ τ then .gd (Nat.beq g g') (.wr (.obj id) (.map g' κ τ (mapPut κ.beq (castTy (a := .map κ' τ') (b := .map κ τ) h xs) key val)) .ret) else .fail
            | _ => .fail
          | _ => .fail
        | none => .fail
      | none => .fail
  | .lookup t m kx ok => match mapT lay t with
    | some (κ, τ, ei) => evO m fun md => evO kx fun kd => match kd.asTy κ with
      | some key => match asmAll τ ei.zeroD with
        | some z => mapData κ τ md fun xs => lookPr o.dst τ z ok (mapGet κ.beq xs key)
        | none => .fail
      | none => .fail
    | none => .fail
  | .call c => match c.callee with
    | .value (.func f) => evOs c.args.toList fun ds => callPr lay o.dst f ds
    | .value (.tmp t) => .rd (.tmp t) fun
      | some (.d (.clo f cs)) => .gd (cs.all D.atom) (evOs c.args.toList fun ds => callPr lay o.dst f (ds ++ cs))
      | _ => .fail
    | .builtin b => evOs c.args.toList fun ds => builtinPr lay o.dst b c.argTypes.toList ds
    | _ => .fail
  | _ => .fail

end Go.Proofs.YtllhidkadhoipaaDoor.Ab
