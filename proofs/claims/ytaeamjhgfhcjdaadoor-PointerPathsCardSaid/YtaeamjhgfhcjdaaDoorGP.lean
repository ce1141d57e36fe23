/- strings.ReplaceAll and pointer.Print: what they tell, by the library's contracts. -/
import Derived.Test.YtaeamjhgfhcjdaaDoorC24
import Derived.Test.YtaeamjhgfhcjdaaDoorSh
import Derived.Deep.LoopGhost
namespace Go.Proofs.YtaeamjhgfhcjdaaDoor.Ab
open Go Go.RowKit Go.Shelf
set_option linter.unusedSimpArgs false
set_option linter.unusedVariables false
set_option linter.unusedSectionVars false

theorem hid {p : Prop} (h : p) : Hid p := h

theorem count_le (s old : List UInt8) (h : 1 ≤ old.length) : Lib.count s old ≤ s.length := by
  have := Lib.countB_mul_le ⟨old.toArray⟩ (by simp [ByteArray.size]; omega) s.length ⟨s.toArray⟩ (by simp [ByteArray.size])
  simp only [Lib.countB] at this
  have h2 : Lib.count s old * (ByteArray.mk old.toArray).size ≤ s.length := by simpa [ByteArray.size] using this
  exact Nat.le_trans (Nat.le_mul_of_pos_right _ (by simp [ByteArray.size]; omega)) h2

theorem replaceAll_calls (s old new : List UInt8) (w : World) (m : Int) (hm : w.cell? ⟨0, 0, none⟩ = some (.int .i64 m)) (hs : s.length ≤ 4000000) (ho : 1 ≤ old.length) (hn : new.length ≤ 1000000) :
    Calls Tryd.prog 38 #[strV s, strV old, strV new] w fun e w' => e = .returned (strV (Lib.replaceAll s old new)) ∧ Below w.heap.size w w' := by
  have hc := count_le s old ho
  have hmul : Lib.count s old * new.length ≤ 4000000 * 1000000 := Nat.mul_le_mul (by omega) hn
  exact Any.strings_ReplaceAll Tryd.lays155 Tryd.extra155 ⟨s.toArray⟩ ⟨old.toArray⟩ ⟨new.toArray⟩ m w (by simp [ByteArray.size]; omega) hm (by simp [ByteArray.size]; omega) (by simp only [Lib.countB, ByteArray.size, List.size_toArray]; omega)

theorem replaceK_len (old new : List UInt8) : ∀ (k : Nat) (s : List UInt8), (Lib.replaceK old new k s).length ≤ s.length + k * new.length
  | 0, s => by simp [Lib.replaceK]
  | k + 1, s => by
    rw [Lib.replaceK]
    split
    · omega
    · have := replaceK_len old new k (s.drop ((Lib.index s old).toNat + old.length))
      simp only [List.length_append, List.length_take, List.length_drop] at this ⊢
      rw [Nat.succ_mul]
      omega

theorem replaceAll_len (s old new : List UInt8) (ho : 1 ≤ old.length) : (Lib.replaceAll s old new).length ≤ s.length + s.length * new.length := by
  unfold Lib.replaceAll Lib.replace
  split
  · omega
  · refine Nat.le_trans (replaceK_len _ _ _ _) (Nat.add_le_add_left (Nat.mul_le_mul_right _ ?_) _)
    unfold Lib.replaceNum
    rw [if_pos (Or.inl (by decide))]
    exact count_le s old ho

/-- A token, as it is written. -/
def tokB (t : List UInt8) : List UInt8 := Lib.replaceAll (Lib.replaceAll t [126] [126, 48]) [47] [126, 49]

def printB (xs : List (List UInt8)) : List UInt8 := xs.flatMap fun t => 47 :: tokB t

theorem tokB_len (t : List UInt8) : (tokB t).length ≤ 9 * t.length := by
  have h1 := replaceAll_len t [126] [126, 48] (by simp)
  have h2 := replaceAll_len (Lib.replaceAll t [126] [126, 48]) [47] [126, 49] (by simp)
  unfold tokB
  simp only [List.length_cons, List.length_nil] at h1 h2
  omega

theorem printB_len : ∀ (xs : List (List UInt8)), (∀ x ∈ xs, x.length ≤ 1000000) → (printB xs).length ≤ xs.length * 9000001
  | [], _ => by simp [printB]
  | x :: xs, h => by
    have h1 := printB_len xs fun y hy => h y (by simp [hy])
    have h2 := tokB_len x
    have h3 := h x (by simp)
    unfold printB at h1 ⊢
    simp only [List.flatMap_cons, List.length_append, List.length_cons] at h1 ⊢
    omega

theorem printB_succ {xs : List (List UInt8)} {k : Nat} {x : List UInt8} (h : xs[k]? = some x) : printB (xs.take (k + 1)) = printB (xs.take k) ++ (47 :: tokB x) := by
  unfold printB
  rw [List.take_add_one, h]
  simp

theorem strCells_mk (l : List UInt8) : Lib.strCells ⟨l.toArray⟩ = Lib.byteCells l := by rw [Lib.strCells_eq]

theorem builder_kept {T e : TypeId} {B b : Nat} {bs : List Value} {w w' : World} (h : Lib.IsBuilder T e B b bs w) (hb : Below w.heap.size w w') : Lib.IsBuilder T e B b bs w' := by
  have key : ∀ p, Lib.BuilderAt T e B b p bs w → Lib.BuilderAt T e B b p bs w' := by
    rintro p ⟨h1, v, h2, h3, h4⟩
    exact ⟨h1, v, (hb.block _ (heap_lt h2)).trans h2, ownsRow_same h3 fun b' hb' => hb.block _ (h3.lt b' hb').2, h4⟩
  exact h.imp (key _) (key _)

set_option maxHeartbeats 4000000 in
set_option maxRecDepth 1000000 in
theorem print_walk (A : Option Addr) (cap : Nat) (xs : List (List UInt8)) (m : Int) (w : World) (hA : ∀ (j : Nat) x, xs[j]? = some x → ∃ a, A = some a ∧ a.block < w.heap.size ∧ w.cell? (a.add j) = some (strV x))
    (hg : 0 < w.heap.size) (hm : w.cell? ⟨0, 0, none⟩ = some (.int .i64 m)) (hlen : xs.length ≤ 1000000) (hx : ∀ x ∈ xs, x.length ≤ 1000000) (hcap : xs.length ≤ cap) :
    Calls Tryd.prog 18 #[.slice A xs.length cap] w fun e w' => e = .returned (strV (printB xs)) ∧ Below w.heap.size w w' := by
  have H0 := hid (Lib.fresh_isBuilder 62 5 w)
  have HB0 := hid ((Below.refl w.heap.size w).alloc (Nat.le_refl _) (.cells #[.pointer none, .slice none 0 0] 62))
  have HA := hid hA
  have HX := hid hx
  clear hA hx
  go_enter Tryd.func18, Tryd.ntmps18
  go_wp2_with fail
  go_loopw [8] (fun i wr => ∃ k : Nat, k ≤ xs.length ∧ i = .int .i64 k ∧ Hid (Lib.IsBuilder 62 5 w.heap.size w.heap.size (Lib.byteCells (printB (xs.take k))) wr) ∧ Hid (Below w.heap.size w wr)) (fun i _ => xs.length - (Lib.intOf i).toNat)
  case atStart => exact ⟨0, Nat.zero_le _, rfl, H0, HB0⟩
  case round =>
    obtain ⟨k, hk, rfl, HB, HW⟩ := hrel
    by_cases hlt : k < xs.length
    · have hxk : xs[k]? = some xs[k] := List.getElem?_eq_getElem hlt
      obtain ⟨a, hAa, hab, hca⟩ := HA.out k _ hxk
      have hl := HX.out _ (List.getElem_mem hlt)
      have hl1 := replaceAll_len xs[k] [126] [126, 48] (by simp)
      have hl2 := tokB_len xs[k]
      have hpl := printB_len (xs.take k) fun y hy => HX.out y (List.mem_of_mem_take hy)
      rw [List.length_take] at hpl
      have hcr : wr.cell? (a.add k) = some (strV xs[k]) := by
        rw [World.cell?_of_block (HW.out.block _ (by rw [add_block]; exact hab))]; exact hca
      have hmr : wr.cell? ⟨0, 0, none⟩ = some (.int .i64 m) := by rw [HW.out.cell (p := ⟨0, 0, none⟩) hg]; exact hm
      have hBw : w.heap.size ≤ wr.heap.size := HW.out.size
      have hsucc := printB_succ hxk
      subst hAa
      have c47 : (ByteArray.mk #[47] ++ ByteArray.mk (Lib.replaceAll (Lib.replaceAll xs[k] [126] [126, 48]) [47] [126, 49]).toArray) = ⟨(47 :: tokB xs[k]).toArray⟩ := by
        apply ByteArray.ext; simp [tokB, ByteArray.data_append]
      go_wp2_with fail
      refine (replaceAll_calls xs[k] [126] [126, 48] wr m hmr (by omega) (by simp) (by simp)).mono ?_
      rintro e w1 ⟨rfl, hw1⟩
      have HB1 := hid (builder_kept HB.out hw1)
      have HW1 := hid (HW.out.trans (hw1.mono hBw))
      have hmr1 : w1.cell? ⟨0, 0, none⟩ = some (.int .i64 m) := by rw [HW1.out.cell (p := ⟨0, 0, none⟩) hg]; exact hm
      have hBw1 : w.heap.size ≤ w1.heap.size := HW1.out.size
      clear hw1
      go_wp2_with fail
      refine (replaceAll_calls (Lib.replaceAll xs[k] [126] [126, 48]) [47] [126, 49] w1 m hmr1 (by simp only [List.length_cons, List.length_nil] at hl1; omega) (by simp) (by simp)).mono ?_
      rintro e w2 ⟨rfl, hw2⟩
      have HB2 := hid (builder_kept HB1.out hw2)
      have HW2 := hid (HW1.out.trans (hw2.mono hBw1))
      have hBw2 : w.heap.size ≤ w2.heap.size := HW2.out.size
      clear hw2
      have hl3 : (Lib.replaceAll (Lib.replaceAll xs[k] [126] [126, 48]) [47] [126, 49]).length ≤ 9000000 := by
        have e : tokB xs[k] = Lib.replaceAll (Lib.replaceAll xs[k] [126] [126, 48]) [47] [126, 49] := rfl
        rw [← e]; omega
      go_wp2_with fail
      have hsz : (ByteArray.mk (47 :: tokB xs[k]).toArray).size = (tokB xs[k]).length + 1 := by simp [ByteArray.size]
      refine (Any.Builder_WriteString Tryd.lays166 Tryd.extra155 w.heap.size w.heap.size _ ⟨(47 :: tokB xs[k]).toArray⟩ w2 HB2.out (by rw [hsz, Lib.byteCells_length]; omega) hBw2).mono ?_
      rintro e w4 ⟨rfl, hbld, hb4⟩
      have HB4 := hid (show Lib.IsBuilder 62 5 w.heap.size w.heap.size (Lib.byteCells (printB (xs.take (k + 1)))) w4 by
        rw [hsucc, Lib.byteCells_append]
        rw [strCells_mk] at hbld
        exact .inr hbld)
      have HW4 := hid (HW2.out.trans hb4)
      clear hbld hb4
      go_wp2
      refine ⟨⟨k + 1, by omega, by simp, HB4, HW4⟩, ?_⟩
      have e1 : (Lib.intOf (Value.int IntKind.i64 ((k : Int) + 1))).toNat = k + 1 := by show ((k : Int) + 1).toNat = k + 1; omega
      have e2 : (Lib.intOf (Value.int IntKind.i64 (k : Int))).toNat = k := by show ((k : Int)).toNat = k; omega
      rw [e1, e2]; omega
    · have hke : k = xs.length := by omega
      subst hke
      have hBw : w.heap.size ≤ wr.heap.size := HW.out.size
      have HB' := HB.out
      rw [List.take_length] at HB'
      go_wp2_with fail
      refine (Any.Builder_String_any Tryd.lays169 Tryd.extra155 w.heap.size w.heap.size _ wr HB' hBw).mono ?_
      rintro e w5 ⟨rfl, hb5⟩
      have Hb5 := hid (HW.out.trans hb5)
      clear hb5 HB'
      go_wp2
      go_ret
      exact ⟨rfl, Hb5.out⟩

theorem sv_str' {S : Nat → Prop} {w : World} {x : List UInt8} {v : Value} (h : SV S w (.val .str x) v) : v = strV x := DV_str h

theorem below_under' {w w' : World} (h : Below w.heap.size w w') : Under w.heap.size (fun _ => False) w w' := ⟨h.os, h.tape, h.output, h.size, fun k hk _ => h.block k hk⟩

/-- strings.ReplaceAll. -/
def F38 (n : Nat) (s old new : List UInt8) : Option (List UInt8) :=
  bif Nat.ble s.length 4000000 && Nat.ble 1 old.length && Nat.ble new.length 1000000 then some (Lib.replaceAll s old new) else none

noncomputable def c38 : Code := Tryd.f38.body.getD .skip
theorem enter38 : Enters Tryd.prog 38 := enters (by kernel_rfl : Tryd.prog.funcs[38]? = some Tryd.f38) (by kernel_rfl : Tryd.f38.body = some c38) (by kernel_rfl)
noncomputable def c18 : Code := Tryd.f18.body.getD .skip
theorem enter18 : Enters Tryd.prog 18 := enters (by kernel_rfl : Tryd.prog.funcs[18]? = some Tryd.f18) (by kernel_rfl : Tryd.f18.body = some c18) (by kernel_rfl)

theorem T38 (n : Nat) : Told Tryd.prog 38 [.str, .str, .str] [.str] (fun x => F38 n x.1 x.2.1 x.2.2) := by
  rintro ⟨s, old, new⟩ r h
  simp only [F38] at h
  cases hb : Nat.ble s.length 4000000 && Nat.ble 1 old.length && Nat.ble new.length 1000000 with
  | false => rw [hb] at h; cases h
  | true =>
  rw [hb] at h
  cases h
  simp only [Bool.and_eq_true, Nat.ble_eq] at hb
  obtain ⟨⟨hs, ho⟩, hn⟩ := hb
  refine ⟨enter38, fun S w vs hb hS hvs => ?_⟩
  cases hvs with
  | cons h1 h2 =>
    cases h2 with
    | cons h2 h3 =>
      cases h3 with
      | cons h3 h4 =>
        cases h4
        obtain ⟨_, m, hm⟩ := hb
        cases sv_str' h1
        cases sv_str' h2
        cases sv_str' h3
        refine (replaceAll_calls s old new w m hm hs ho hn).mono ?_
        rintro e W' ⟨rfl, hB⟩
        exact ⟨_, S, rfl, dv_str _, below_under' hB, fun _ hb => hb, fun b hb => ⟨Nat.lt_of_lt_of_le (hS b hb) hB.size, fun _ => hb⟩⟩

/-- pointer.Print. -/
def F18 (n : Nat) (l : List (List UInt8)) : Option (List UInt8) :=
  bif Nat.ble l.length 1000000 && l.all (fun x => Nat.ble x.length 1000000) then some (printB l) else none

theorem T18 (n : Nat) : Told Tryd.prog 18 [.slice .str] [.str] (fun x => F18 n x) := by
  rintro l r h
  simp only [F18] at h
  cases hb : Nat.ble (List.length (α := List UInt8) l) 1000000 && List.all (α := List UInt8) l (fun x => Nat.ble x.length 1000000) with
  | false => rw [hb] at h; cases h
  | true =>
  rw [hb] at h
  cases h
  simp only [Bool.and_eq_true, Nat.ble_eq, List.all_eq_true] at hb
  obtain ⟨hl, hx⟩ := hb
  refine ⟨enter18, fun S w vs hb hS hvs => ?_⟩
  cases hvs with
  | @cons _ v _ _ h1 h2 =>
    cases h2
    obtain ⟨hS0, m, hm⟩ := hb
    have hsl := DV_slice h1
    obtain ⟨A, cap, e1, hcap, hA⟩ : ∃ A cap, v = Value.slice A (List.length (α := List UInt8) l) cap ∧ List.length (α := List UInt8) l ≤ cap ∧
        ∀ (j : Nat) x, l[j]? = some x → ∃ a, A = some a ∧ a.block < w.heap.size ∧ w.cell? (a.add j) = some (strV x) := by
      rcases hsl with ⟨e1, e2⟩ | ⟨a, cap, cs, e1, hc, hrl, hcell⟩
      · refine ⟨none, 0, by rw [e1, e2]; rfl, by rw [e2]; exact Nat.le_refl _, fun j x hj => ?_⟩
        rw [e2] at hj; simp at hj
      · refine ⟨some a, cap, e1, hc, fun j x hj => ?_⟩
        obtain ⟨c, hc1, hc2⟩ := RepL.get (n := 1) (fun _ _ h => RepC.length (τ := .str) h) j x hrl hj
        have h2 := hc2 0 (by omega)
        simp only [RepC] at hc1
        subst hc1
        simp at h2
        obtain ⟨hs, hcc⟩ := hcell j _ h2
        exact ⟨a, rfl, hS _ hs, hcc⟩
    subst e1
    refine (print_walk A cap l m w hA (hS 0 hS0) hm hl hx hcap).mono ?_
    rintro e W' ⟨rfl, hB⟩
    exact ⟨_, S, rfl, dv_str _, below_under' hB, fun _ hb => hb, fun b hb => ⟨Nat.lt_of_lt_of_le (hS b hb) hB.size, fun _ => hb⟩⟩

end Go.Proofs.YtaeamjhgfhcjdaaDoor.Ab
