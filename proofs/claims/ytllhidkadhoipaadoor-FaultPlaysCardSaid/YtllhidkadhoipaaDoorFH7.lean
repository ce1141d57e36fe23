/- strings.Fields of the names' text, by the kit's contract. -/
import Derived.Test.YtllhidkadhoipaaDoorFH6
import Derived.Test.YtllhidkadhoipaaDoorSh
namespace Go.Proofs.YtllhidkadhoipaaDoor.Ab
open Go Go.RowKit Go.Proofs Go.Shelf
set_option maxRecDepth 100000
set_option linter.unusedVariables false
set_option linter.unusedSimpArgs false

def namesText : List UInt8 := [111, 107, 32, 97, 114, 103, 117, 109, 101, 110, 116, 32, 116, 101, 120, 116, 32, 101, 110, 100, 32, 117, 116, 102, 56, 32, 115, 117, 114, 114, 111, 103, 97, 116, 101, 32, 110, 111, 110, 99, 104, 97, 114, 97, 99, 116, 101, 114, 32, 102, 114, 97, 99, 116, 105, 111, 110, 32, 114, 97, 110, 103, 101, 32, 116, 119, 105, 99, 101, 32, 98, 121, 116, 101, 115, 32, 100, 101, 112, 116, 104, 32, 110, 111, 100, 101, 115, 32, 107, 101, 121, 32, 108, 111, 110, 103, 32, 112, 111, 105, 110, 116, 101, 114, 32, 110, 111, 110, 101, 32, 115, 116, 97, 116, 101, 32, 98, 105, 103, 32, 108, 105, 110, 101]
def namesL : List (List UInt8) := [[111, 107], [97, 114, 103, 117, 109, 101, 110, 116], [116, 101, 120, 116], [101, 110, 100], [117, 116, 102, 56], [115, 117, 114, 114, 111, 103, 97, 116, 101], [110, 111, 110, 99, 104, 97, 114, 97, 99, 116, 101, 114], [102, 114, 97, 99, 116, 105, 111, 110], [114, 97, 110, 103, 101], [116, 119, 105, 99, 101], [98, 121, 116, 101, 115], [100, 101, 112, 116, 104], [110, 111, 100, 101, 115], [107, 101, 121], [108, 111, 110, 103], [112, 111, 105, 110, 116, 101, 114], [110, 111, 110, 101], [115, 116, 97, 116, 101], [98, 105, 103], [108, 105, 110, 101]]
theorem names_fields : Lib.fields namesText = namesL := by kernel_rfl

def F24 (n : Nat) (s : List UInt8) : Option (List (List UInt8)) := bif s == namesText then some namesL else none

theorem blank_isSp : ∀ c : Nat, c < 256 → blank c = (if Lib.isSp (UInt8.ofNat c) then 1 else 0) := by decide +kernel

theorem repStrs {S : Nat → Prop} {w : World} : ∀ xs : List (List UInt8), RepL (RepC S w .str) xs (xs.map strV)
  | [] => rfl
  | x :: xs => ⟨[strV x], xs.map strV, rfl, rfl, repStrs xs⟩

theorem ent24 : Enters Tryd.prog 24 := enters (by kernel_rfl : Tryd.prog.funcs[24]? = some Tryd.f24) (by kernel_rfl : Tryd.f24.body = some (Tryd.f24.body.getD .skip)) (by kernel_rfl)

theorem fields_calls (w : World) (hT : ∀ c : Nat, c < 256 → w.cell? ⟨1, c, none⟩ = some (.int .u8 (if Lib.isSp (UInt8.ofNat c) then 1 else 0))) :
    Calls Tryd.prog 24 #[strV namesText] w fun e w' => e = .returned (.slice (some ⟨w.heap.size, 0, none⟩) 20 20) ∧ w' = w.alloc (.cells (namesL.map strV).toArray 9) := by
  have h := Any.strings_Fields_core Tryd.lays157 (by kernel_rfl) ⟨namesText.toArray⟩ w (by decide) (by
    intro j b hb
    have hm := List.mem_of_getElem? hb
    have : ∀ b ∈ namesText, b.toNat < 128 := by decide
    exact this b (by simpa using hm)) hT
  have e1 : (⟨namesText.toArray⟩ : ByteArray).data.toList = namesText := by simp
  rw [e1, names_fields] at h
  exact h

theorem T24 (n : Nat) : Told Tryd.prog 24 [.str] [.slice .str] (fun x => F24 n x) := by
  rintro s r h
  simp only [F24] at h
  cases hb : (s == namesText) with
  | false => rw [hb] at h; cases h
  | true =>
    rw [hb] at h
    cases h
    obtain rfl := eq_of_beq hb
    refine ⟨ent24, fun S w vs hbs hS hvs => ?_⟩
    cases hvs with
    | cons h1 h2 =>
      cases h2
      have e1 := sv_str h1
      subst e1
      refine (fields_calls w fun c hc => by rw [hbs.2.2.2 c hc, blank_isSp c hc]).mono ?_
      rintro e W' ⟨rfl, rfl⟩
      have hB : Below w.heap.size w (w.alloc (.cells (namesL.map strV).toArray 9)) := (Below.refl _ w).alloc (Nat.le_refl _) _
      refine ⟨_, fun b => S b ∨ (w.heap.size ≤ b ∧ b < (w.alloc (.cells (namesL.map strV).toArray 9)).heap.size), rfl, ⟨[_], ⟨_, rfl, .inr ⟨⟨w.heap.size, 0, none⟩, 20, namesL.map strV, rfl, by decide, repStrs _, fun j u hj => ?_⟩⟩, rfl, rfl⟩, below_under hB, fun b hb => .inl hb, fun b hb => ⟨by rcases hb with hb | hb; exact Nat.lt_of_lt_of_le (hS b hb) hB.size; exact hb.2, fun hlt => by rcases hb with hb | hb; exact hb; omega⟩⟩
      refine ⟨.inr ⟨Nat.le_refl _, by simp⟩, ?_⟩
      have e2 : (⟨w.heap.size, 0, none⟩ : Addr).add j = ⟨w.heap.size, j, none⟩ := by unfold Addr.add; split <;> simp_all
      rw [e2, World.cell?_alloc_at _ _ _ _ (by simp)]
      simpa using hj

end Go.Proofs.YtllhidkadhoipaaDoor.Ab
