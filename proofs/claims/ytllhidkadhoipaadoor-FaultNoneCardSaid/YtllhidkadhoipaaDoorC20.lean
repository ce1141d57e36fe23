/- Cells of an own row written in place, and a piece cut out of it. Of no program. -/
import Derived.Test.YtllhidkadhoipaaDoorC19
import Derived.Laws.IdiomCopy
namespace Go.Proofs.YtllhidkadhoipaaDoor.Ab
open Go Go.RowKit

/-- A row in two parts. -/
theorem RepL.split {α : Type} {R : α → List Value → Prop} {n : Nat} (h : ∀ x cs, R x cs → cs.length = n) : ∀ {xs : List α} {cs : List Value}, RepL R xs cs → ∀ k, RepL R (xs.take k) (cs.take (k * n)) ∧ RepL R (xs.drop k) (cs.drop (k * n))
  | [], cs, hr, k => by cases hr; simp [RepL]
  | x :: xs, cs, hr, 0 => ⟨by simp [RepL], by simpa using hr⟩
  | x :: xs, _, ⟨c, d, e, r, rest⟩, k + 1 => by
    obtain ⟨h1, h2⟩ := RepL.split h rest k
    have hl := h _ _ r
    subst e
    have e1 : (k + 1) * n = c.length + k * n := by rw [Nat.succ_mul, hl]; omega
    rw [e1, List.take_length_add_append, List.drop_length_add_append]
    exact ⟨⟨c, _, rfl, r, h1⟩, h2⟩

theorem own_setCells {base e size g cap n : Nat} : ∀ (vs : List Value) (o : Nat) (w : World) (xs : List Value), w.ownsRow base e size (.slice (some ⟨g, 0, none⟩) n cap) n xs → o + vs.length ≤ xs.length →
    (w.setCells g o vs).ownsRow base e size (.slice (some ⟨g, 0, none⟩) n cap) n (xs.take o ++ vs ++ xs.drop (o + vs.length)) ∧ w.grownBy (w.setCells g o vs) (some g)
  | [], o, w, xs, h, _ => by
    simp only [World.setCells, List.append_nil, List.length_nil, Nat.add_zero, List.take_append_drop]
    exact ⟨h, rfl, rfl, rfl, Nat.le_refl _, fun _ _ _ => rfl⟩
  | v :: vs, o, w, xs, h, hle => by
    obtain ⟨h1, h2⟩ := h.stored o v
    simp only [List.length_cons] at hle
    obtain ⟨h3, h4⟩ := own_setCells vs (o + 1) _ _ h1 (by simp; omega)
    refine ⟨?_, ?_⟩
    · have : (xs.set o v).take (o + 1) ++ vs ++ (xs.set o v).drop (o + 1 + vs.length) = xs.take o ++ v :: vs ++ xs.drop (o + (v :: vs).length) := by
        rw [List.drop_set_of_lt (by omega)]
        rw [List.take_set, List.take_succ_eq_append_getElem (by omega), List.set_append_right _ _ (by simp; omega)]
        simp only [List.length_take, List.append_assoc, List.length_cons]
        rw [Nat.min_eq_left (by omega), Nat.sub_self]
        simp only [List.set_cons_zero, List.nil_append, List.cons_append]
        rw [show o + 1 + vs.length = o + (vs.length + 1) by omega]
      rw [← this]
      exact h3
    · exact ⟨h4.os.trans h2.os, h4.tape.trans h2.tape, h4.output.trans h2.output, Nat.le_trans h2.size h4.size, fun k hk hne => (h4.block k (Nat.lt_of_lt_of_le hk h2.size) hne).trans (h2.block k hk hne)⟩

theorem own_shrink {base e size g cap n m : Nat} {w : World} {xs : List Value} (h : w.ownsRow base e size (.slice (some ⟨g, 0, none⟩) n cap) n xs) (hm : m ≤ n) :
    w.ownsRow base e size (.slice (some ⟨g, 0, none⟩) m cap) m (xs.take (m * size)) := by
  obtain ⟨hl, h⟩ := h
  have hms : m * size ≤ n * size := Nat.mul_le_mul_right _ hm
  refine ⟨by rw [List.length_take, hl, Nat.min_eq_left hms], ?_⟩
  rcases h with ⟨h1, _⟩ | ⟨g', cap', cur, h1, h2, h3, h4, h5, h6, h7⟩
  · cases h1
  · cases h1
    exact .inr ⟨g, cap, cur, rfl, h2, h3, by omega, h5, h6, by rw [← h7, List.take_take, Nat.min_eq_left hms]⟩

theorem own_drew {base e size n : Nat} {v : Value} {w : World} {xs : List Value} (h : w.ownsRow base e size v n xs) : w.drew.ownsRow base e size v n xs := h

/-- 'clear' of cells. -/
theorem run_clear_cells {P : Program} (w : World) (t e ty : TypeId) (z : Value) (ht : P.underlying t = some (.slice e)) (hv : ∀ w, (zeroValue e).run P w = .ok z w) (hz1 : ∀ u ∈ z.cells.toList, u.oneCell' = true) (hz0 : 0 < z.cells.size) (b o n c : Nat) (hn : 0 < n)
    (hc : ∀ j, j < n * z.cells.size → (w.cell? ⟨b, o + j, none⟩).isSome = true) (hf : ∀ j, j < n * z.cells.size → w.frozen? ⟨b, o + j, none⟩ = false) :
    (Builtin.clear_ #[t] ty #[.slice (some ⟨b, o, none⟩) n c]).run P w = .ok (.tuple #[]) (w.setCells b o (Builtin.zeroCells z.cells n).toList) := by
  have hlen : (Builtin.zeroCells z.cells n).toList.length = n * z.cells.size := by simp [Builtin.zeroCells]
  have hst := run_storeCells_cells (P := P) b o (Builtin.zeroCells z.cells n).toList 0 w (by rw [hlen]; simpa using hc) (by rw [hlen]; simpa using hf) (by
    intro u hu
    simp only [Builtin.zeroCells, Array.toList_map, List.mem_map] at hu
    obtain ⟨i, _, rfl⟩ := hu
    have hi : i % z.cells.size < z.cells.size := Nat.mod_lt _ hz0
    rw [getElem!_pos z.cells _ hi]
    exact hz1 _ (by simp))
  simp only [Nat.add_zero] at hst
  obtain ⟨m, rfl⟩ : ∃ m, n = m + 1 := ⟨n - 1, by omega⟩
  simp [Builtin.clear_, run_underlying ht, hv, hst]

/-- What a walk of slices.Delete must show. -/
structure DelWalk (P : Program) (f : FuncId) (size : Nat) (z : Array Value) : Prop where
  same : ∀ (A : Option Addr) (n cap i : Nat) (w : World), i ≤ n → n ≤ cap → cap ≤ 9223372036854775807 → Calls P f #[.slice A n cap, .int .i64 i, .int .i64 i] w fun e w' => e = .returned (.slice A n cap) ∧ w' = w
  cut : ∀ (g n cap i j : Nat) (w : World) (news : List Value), i < j → j ≤ n → n ≤ cap → cap ≤ 9223372036854775807 → news.length = (n - j) * size → (∀ t u, news[t]? = some u → w.cell? ⟨g, j * size + t, none⟩ = some u) → (∀ u ∈ news, u.oneCell' = true) →
    (∀ t, t < n * size → (w.cell? ⟨g, t, none⟩).isSome = true ∧ w.frozen? ⟨g, t, none⟩ = false) →
    Calls P f #[.slice (some ⟨g, 0, none⟩) n cap, .int .i64 i, .int .i64 j] w fun e w' => e = .returned (.slice (some ⟨g, 0, none⟩) (i + (n - j)) cap) ∧ w' = (w.drew.setCells g (i * size) news).setCells g ((i + (n - j)) * size) (Builtin.zeroCells z (n - (i + (n - j)))).toList

theorem frozen_own {e size g cap n : Nat} {w : World} {xs : List Value} (h : w.ownsRow 0 e size (.slice (some ⟨g, 0, none⟩) n cap) n xs) (t : Nat) : w.frozen? ⟨g, t, none⟩ = false := h.frozenAt t

theorem delete_ok {P : Program} {f : FuncId} {e : TypeId} {τ : Ty} {z : Array Value} (hent : Enters P f) (hz : z.size = τ.sz) (_h0 : 0 < τ.sz) (hw : DelWalk P f τ.sz z) : DeleteOK P f e τ := by
  refine ⟨hent, fun S w v xs cs i j hS hown hrl hns hi hij hj => ?_⟩
  obtain ⟨i, rfl⟩ := Int.eq_ofNat_of_zero_le hi
  obtain ⟨j, rfl⟩ := Int.eq_ofNat_of_zero_le (Int.le_trans hi hij)
  have hij : i ≤ j := by omega
  have hj : j ≤ xs.length := by omega
  simp only [Int.toNat_natCast]
  by_cases heq : i = j
  · subst heq
    rw [List.take_append_drop]
    obtain ⟨A, n, cap, rfl, hn, hcap, hmax⟩ : ∃ A n cap, v = .slice A n cap ∧ n = xs.length ∧ n ≤ cap ∧ cap ≤ 9223372036854775807 := by
      rcases hown.2 with ⟨rfl, h0⟩ | ⟨g, cap, cur, rfl, _, _, h1, h2, _⟩
      · exact ⟨_, _, _, rfl, h0.symm, Nat.le_refl _, by omega⟩
      · exact ⟨_, _, _, rfl, rfl, h1, by simpa [maxLen] using h2⟩
    subst hn
    refine (hw.same A xs.length cap i w hj hcap hmax).mono ?_
    rintro out w' ⟨rfl, rfl⟩
    exact ⟨_, cs, rfl, hown, hrl, ⟨rfl, rfl, rfl, Nat.le_refl _, fun _ _ _ => rfl⟩, rfl⟩
  · have hlt : i < j := by omega
    rcases hown.2 with ⟨rfl, h1⟩ | ⟨g, cap, cur, rfl, _, hg, hcap, hmax, hcs, htk⟩
    · omega
    have hl : cs.length = xs.length * τ.sz := hown.1
    have hmul : j * τ.sz ≤ xs.length * τ.sz := Nat.mul_le_mul_right _ hj
    have hmul2 : i * τ.sz ≤ j * τ.sz := Nat.mul_le_mul_right _ hij
    have hplain : ∀ u ∈ cs, u.oneCell' = true := RepL.all (fun _ _ h => RepC.plain h) hrl
    refine (hw.cut g xs.length cap i j w (cs.drop (j * τ.sz)) hlt hj hcap (by simpa [maxLen] using hmax) (by simp [hl, Nat.sub_mul]) ?_ (fun u hu => hplain u (List.mem_of_mem_drop hu)) ?_).mono ?_
    · intro t u hu
      rw [List.getElem?_drop] at hu
      have hlt2 : j * τ.sz + t < xs.length * τ.sz := by rw [← hl]; exact (List.getElem?_eq_some_iff.1 hu).1
      rw [hown.cellAt _ hlt2]
      exact hu
    · intro t ht
      rw [hown.cellAt t ht]
      refine ⟨?_, hown.frozenAt t⟩
      rw [List.getElem?_eq_getElem (by omega)]; rfl
    · rintro out w' ⟨rfl, rfl⟩
      have hsub : i + (xs.length - j) ≤ xs.length := by omega
      have e1 : (i + (xs.length - j)) * τ.sz = i * τ.sz + (xs.length * τ.sz - j * τ.sz) := by rw [Nat.add_mul, Nat.sub_mul]
      obtain ⟨k1, k2⟩ := own_setCells (cs.drop (j * τ.sz)) (i * τ.sz) w.drew cs (own_drew hown) (by simp [hl]; omega)
      have hzl : (Builtin.zeroCells z (xs.length - (i + (xs.length - j)))).toList.length = (xs.length - (i + (xs.length - j))) * τ.sz := by simp [Builtin.zeroCells, hz]
      obtain ⟨k3, k4⟩ := own_setCells (Builtin.zeroCells z (xs.length - (i + (xs.length - j)))).toList ((i + (xs.length - j)) * τ.sz) _ _ k1 (by
        rw [hzl, ← Nat.add_mul]
        simp only [List.length_append, List.length_take, List.length_drop, hl]
        rw [show i + (xs.length - j) + (xs.length - (i + (xs.length - j))) = xs.length by omega]
        omega)
      have k5 := own_shrink k3 (m := i + (xs.length - j)) hsub
      have hlen : (xs.take i ++ xs.drop j).length = i + (xs.length - j) := by simp; omega
      refine ⟨_, _, rfl, by rw [hlen]; exact k5, ?_, ?_, rfl⟩
      · have hcells : (List.take ((i + (xs.length - j)) * τ.sz) (List.take ((i + (xs.length - j)) * τ.sz) (List.take (i * τ.sz) cs ++ cs.drop (j * τ.sz) ++ cs.drop (i * τ.sz + (cs.drop (j * τ.sz)).length)) ++ (Builtin.zeroCells z (xs.length - (i + (xs.length - j)))).toList ++
            List.drop ((i + (xs.length - j)) * τ.sz + (Builtin.zeroCells z (xs.length - (i + (xs.length - j)))).toList.length) (List.take (i * τ.sz) cs ++ cs.drop (j * τ.sz) ++ cs.drop (i * τ.sz + (cs.drop (j * τ.sz)).length)))) = cs.take (i * τ.sz) ++ cs.drop (j * τ.sz) := by
          have hL : (List.take (i * τ.sz) cs ++ cs.drop (j * τ.sz)).length = (i + (xs.length - j)) * τ.sz := by rw [List.length_append, List.length_take, List.length_drop, hl, e1, Nat.min_eq_left (by omega)]
          rw [List.append_assoc, List.take_append_of_le_length (by
            rw [List.length_take, List.length_append, hL]; omega), List.take_take, Nat.min_self, ← hL, List.take_left']
          rfl
        rw [hcells]
        have hk : Keep S w S ((w.drew.setCells g (i * τ.sz) (cs.drop (j * τ.sz))).setCells g ((i + (xs.length - j)) * τ.sz) (Builtin.zeroCells z (xs.length - (i + (xs.length - j)))).toList) := by
          refine ⟨fun _ h => h, fun b hb => ?_⟩
          have hne : some b ≠ some g := by intro e; simp only [Option.some.injEq] at e; subst e; exact hns _ rfl hb
          rw [k4.block b (Nat.lt_of_lt_of_le (hS b hb) (by have := k2.size; exact this)) hne, k2.block b (hS b hb) hne]
          rfl
        have sp := RepL.split (R := RepC S w τ) (n := τ.sz) (fun _ _ h => RepC.length h) hrl
        exact RepL.append ((sp i).1.mono fun _ _ h => RepC.mono hk h) ((sp j).2.mono fun _ _ h => RepC.mono hk h)
      · exact ⟨k4.os.trans k2.os, k4.tape.trans k2.tape, k4.output.trans k2.output, Nat.le_trans k2.size k4.size, fun k hk hne => (k4.block k (Nat.lt_of_lt_of_le hk k2.size) hne).trans (k2.block k hk hne)⟩

end Go.Proofs.YtllhidkadhoipaaDoor.Ab
