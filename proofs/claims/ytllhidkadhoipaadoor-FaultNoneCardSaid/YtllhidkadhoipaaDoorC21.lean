/- From what is known of a function to a walk of it, for arguments that are slices of whole numbers. For every program. -/
import Derived.Test.YtllhidkadhoipaaDoorC20
import Derived.Below
namespace Go.Proofs.YtllhidkadhoipaaDoor.Ab
open Go Go.RowKit

section
variable {P : Program} {w : World}

/-- A slice of whole numbers, as a row opens it. -/
def IsRow (k : IntKind) (w : World) (a : Option Addr) (len cap : Nat) (zs : List Int) : Prop :=
  (a = none ∧ len = 0 ∧ cap = 0 ∧ zs = []) ∨
  ∃ x, a = some x ∧ len ≤ cap ∧ cap ≤ maxLen ∧ zs.length = cap ∧ (∀ i, i < zs.length → w.cell? (x.add i) = some (.int k (zs.getD i 0))) ∧ ∀ n ∈ zs, (Lit.int k n).wf = true

theorem repL_ints {S : Nat → Prop} {k : IntKind} : ∀ (xs : List Int), RepL (RepC S w (.int k)) xs (xs.map (Value.int k))
  | [] => rfl
  | x :: xs => ⟨[.int k x], _, rfl, rfl, repL_ints xs⟩

theorem IsRow.sv {k : IntKind} {a : Option Addr} {len cap : Nat} {zs : List Int} (h : IsRow k w a len cap zs) {S : Nat → Prop} (hS : ∀ x, a = some x → x.block < w.heap.size → S x.block) : SV S w (.val (.slice (.int k)) (zs.take len)) (.slice a len cap) := by
  refine ⟨[_], ⟨_, rfl, ?_⟩, rfl, rfl⟩
  rcases h with ⟨rfl, rfl, rfl, rfl⟩ | ⟨x, rfl, h1, h2, h3, h4, _⟩
  · exact .inl ⟨rfl, rfl⟩
  · have hl : (zs.take len).length = len := by simp; omega
    refine .inr ⟨x, cap, (zs.take len).map (Value.int k), by rw [hl], by rw [hl]; exact h1, repL_ints _, fun j u hj => ?_⟩
    rw [List.getElem?_map, List.getElem?_take] at hj
    split at hj
    · rename_i hlt
      have hlt2 : j < zs.length := by omega
      rw [List.getElem?_eq_getElem hlt2] at hj
      simp only [Option.map_some, Option.some.injEq] at hj
      have hc := h4 j hlt2
      refine ⟨hS x rfl ?_, ?_⟩
      · have hb : (x.add j).block < w.heap.size := by
          rcases Nat.lt_or_ge (x.add j).block w.heap.size with h' | h'
          · exact h'
          · simp [World.cell?, Array.getElem?_eq_none h'] at hc
        rw [add_block] at hb
        exact hb
      · rw [hc, ← hj]
        simp [List.getD, List.getElem?_eq_getElem hlt2]
    · simp at hj

theorem Under.below {w' : World} (h : Under w.heap.size (fun _ => False) w w') : Below w.heap.size w w' := by
  refine ⟨h.os, h.tape, h.output, h.size, ?_⟩
  exact fun k hk => h.block k hk (fun h => h)

theorem said {f : FuncId} {ds : List D} {vs : List Value} {S : Nat → Prop} (h : CallsAbs P f ds (.val .bool true)) (hbs : Base S w) (hS : ∀ b, S b → b < w.heap.size) (hv : All2 (SV S w) ds vs) :
    Calls P f vs.toArray w fun e w' => e = .returned (.bool true) ∧ Below w.heap.size w w' := by
  refine (h.2 S w vs hbs hS hv).mono ?_
  rintro e w' ⟨v, S', rfl, hv, hu, _, _⟩
  exact ⟨by rw [DV_bool hv], hu.below⟩

theorem said1 {f : FuncId} {k : IntKind} {a : Option Addr} {len cap : Nat} {zs : List Int} (h : CallsAbs P f [.val (.slice (.int k)) (zs.take len)] (.val .bool true)) (hbs : Base (fun b => b < w.heap.size) w) (hz : IsRow k w a len cap zs) :
    Calls P f #[.slice a len cap] w fun e w' => e = .returned (.bool true) ∧ Below w.heap.size w w' :=
  said (S := fun b => b < w.heap.size) h hbs (fun _ h => h) (.cons (hz.sv fun _ _ h => h) .nil)

theorem said2 {f : FuncId} {k k' : IntKind} {a a' : Option Addr} {len cap len' cap' : Nat} {zs zs' : List Int} (h : CallsAbs P f [.val (.slice (.int k)) (zs.take len), .val (.slice (.int k')) (zs'.take len')] (.val .bool true))
    (hbs : Base (fun b => b < w.heap.size) w) (hz : IsRow k w a len cap zs) (hz' : IsRow k' w a' len' cap' zs') :
    Calls P f #[.slice a len cap, .slice a' len' cap'] w fun e w' => e = .returned (.bool true) ∧ Below w.heap.size w w' :=
  said (S := fun b => b < w.heap.size) h hbs (fun _ h => h) (.cons (hz.sv fun _ _ h => h) (.cons (hz'.sv fun _ _ h => h) .nil))

end
end Go.Proofs.YtllhidkadhoipaaDoor.Ab
