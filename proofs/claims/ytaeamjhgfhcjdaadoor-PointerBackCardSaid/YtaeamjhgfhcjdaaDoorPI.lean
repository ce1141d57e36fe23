/- The document's Parse and Print; rows of texts compared. -/
import Derived.Test.YtaeamjhgfhcjdaaDoorPH
import Derived.Test.YtaeamjhgfhcjdaaDoorPB
namespace Go.Proofs.YtaeamjhgfhcjdaaDoor.Ab.Pt
open Go Go.RowKit Go.Proofs.YtaeamjhgfhcjdaaDoor.Ab
set_option maxRecDepth 100000
set_option linter.unusedVariables false
set_option linter.unusedSimpArgs false

theorem last_ix (ds : List (List UInt8)) (cur : List UInt8) (h : ds.length ≤ 100000) : IntKind.wrap .i64 (((ds ++ [cur]).length : Int) - 1) = (ds.length : Int) := by
  simp only [List.length_append, List.length_singleton]
  rw [wrap64 (by omega) (by omega)]
  omega

theorem last_in (ds : List (List UInt8)) (cur : List UInt8) : inB (ds.length : Int) (ds ++ [cur]).length = true := inB_pre ds cur []
theorem last_get (ds : List (List UInt8)) (cur d : List UInt8) : (ds ++ [cur]).getD (Int.toNat (ds.length : Int)) d = cur := getD_pre ds cur d []
theorem last_set (ds : List (List UInt8)) (cur v : List UInt8) : (ds ++ [cur]).set (Int.toNat (ds.length : Int)) v = ds ++ [v] := by simp

theorem byte_ne {x : UInt8} {k : Nat} (hk : k < 256) (h : x ≠ UInt8.ofNat k) : ((x.toNat : Int) == (k : Int)) = false := by
  rw [beq_eq_false_iff_ne]
  intro e
  apply h
  apply UInt8.toNat_inj.1
  rw [UInt8.toNat_ofNat']
  omega

theorem F14_loop (n : Nat) (p suf : List UInt8) (t6 : Int) (t7 : Bool) (hp : p.length ≤ 70000) (hs : t7 = true → suf = []) :
    ∀ (j : Nat) (l pre : List UInt8) (cur : List UInt8) (ds : List (List UInt8)) (m : Nat), l.length ≤ j → p = pre ++ (l ++ suf) → t6 = (((pre ++ l).length : Nat) : Int) → 1 ≤ pre.length → ds.length ≤ pre.length → cur.length ≤ pre.length → l.length + 1 ≤ m →
    F14l0 n m p t6 t7 (ds ++ [cur]) (pre.length : Int) = some (done13 t6 t7 (R l pre.length cur ds)) := by
  intro j
  induction j with
  | zero =>
    intro l pre cur ds m hj hpl h6 h1 hd hc hm
    have : l = [] := List.length_eq_zero_iff.1 (by omega)
    subst this
    obtain ⟨m, rfl⟩ : ∃ j, m = j + 1 := ⟨m - 1, by simp at hm; omega⟩
    have hge : decide ((pre.length : Int) < t6) = false := decide_eq_false (by rw [h6]; simp)
    rw [F14l0, F14l0F, hge]
    simp only [cond_false, R, done13]
    cases t7 with
    | false => rfl
    | true =>
      have : suf = [] := hs rfl
      subst this
      simp [hpl, h6]
  | succ j ih =>
    intro l pre cur ds m hj hpl h6 h1 hd hc hm
    obtain ⟨m, rfl⟩ : ∃ j, m = j + 1 := ⟨m - 1, by omega⟩
    cases l with
    | nil =>
      have hge : decide ((pre.length : Int) < t6) = false := decide_eq_false (by rw [h6]; simp)
      rw [F14l0, F14l0F, hge]
      simp only [cond_false, R, done13]
      cases t7 with
      | false => rfl
      | true =>
        have : suf = [] := hs rfl
        subst this
        simp [hpl, h6]
    | cons x r =>
      have hplen := congrArg List.length hpl
      simp only [List.length_append, List.length_cons] at hplen hj hm h6
      have hlt : decide ((pre.length : Int) < t6) = true := decide_eq_true (by rw [h6]; omega)
      have ib : inB (pre.length : Int) p.length = true := by rw [hpl]; exact inB_pre pre x (r ++ suf)
      have gx : p.getD (Int.toNat (pre.length : Int)) 0 = x := by rw [hpl]; exact getD_pre pre x 0 (r ++ suf)
      have e0 : ((pre.length : Int) == 0) = false := by rw [beq_eq_false_iff_ne]; omega
      have hw1 : IntKind.wrap .i64 ((pre.length : Int) + 1) = ((pre.length + 1 : Nat) : Int) := by rw [wrap64 (by omega) (by omega)]; simp
      have li := last_ix ds cur (by omega)
      have lin := last_in ds cur
      have lget := last_get ds cur (Ty.dflt .str)
      have cat : ∀ y : List UInt8, y.length ≤ 5 → decide (cur.length + y.length ≤ 9223372036854775807) = true := fun y hy => decide_eq_true (by omega)
      have next1 : ∀ (cur' : List UInt8) (ds' : List (List UInt8)), cur'.length ≤ pre.length + 1 → ds'.length ≤ pre.length + 1 → F14l0 n m p t6 t7 (ds' ++ [cur']) ((pre.length + 1 : Nat) : Int) = some (done13 t6 t7 (R r (pre.length + 1) cur' ds')) := by
        intro cur' ds' hc' hd'
        have := ih r (pre ++ [x]) cur' ds' m (by omega) (by rw [hpl]; simp) (by rw [h6]; simp) (by simp) (by simpa using hd') (by simpa using hc') (by omega)
        rw [List.length_append, List.length_singleton] at this
        exact this
      rw [F14l0, F14l0F, hlt, ib, gx]
      simp only [cond_true, e0, cond_false]
      by_cases h47 : x = 47
      · subst h47
        have hr := room16 ((ds ++ [cur]).length + ([([] : List UInt8)] : List (List UInt8)).length) (by simp; omega)
        rw [show ((((47 : UInt8).toNat : Int)) == 47) = true from rfl, R_slash]
        simp only [cond_true, hr, hw1]
        exact next1 [] (ds ++ [cur]) (by simp) (by simp; omega)
      · have b47 := byte_ne (x := x) (k := 47) (by omega) h47
        rw [show (((x.toNat : Int)) == 47) = false from b47]
        simp only [cond_false]
        by_cases h126 : x = 126
        · subst h126
          rw [show ((((126 : UInt8).toNat : Int)) == 126) = true from rfl, hw1]
          simp only [cond_true]
          cases r with
          | nil =>
            have : (((pre.length + 1 : Nat) : Int) == t6) = true := by rw [h6]; simp
            rw [this, R_tend]
            unfold F14j1
            simp only [cond_true, done13]
            cases t7 with
            | false => rfl
            | true =>
              have : suf = [] := hs rfl
              subst this
              simp only [cond_true, h6, hplen]
              simp
          | cons y r =>
            simp only [List.length_cons] at h6 hj hm hplen
            have hn6 : (((pre.length + 1 : Nat) : Int) == t6) = false := by rw [beq_eq_false_iff_ne, h6]; omega
            have hsp : p = (pre ++ [126]) ++ y :: (r ++ suf) := by rw [hpl]; simp
            have hpl1 : ((pre ++ [126]).length : Nat) = pre.length + 1 := by simp
            have ib1 : inB ((pre.length + 1 : Nat) : Int) p.length = true := by rw [← hpl1, hsp]; exact inB_pre (pre ++ [126]) y (r ++ suf)
            have gy : p.getD (Int.toNat ((pre.length + 1 : Nat) : Int)) 0 = y := by rw [← hpl1, hsp]; exact getD_pre (pre ++ [126]) y 0 (r ++ suf)
            have hw2 : IntKind.wrap .i64 (((pre.length + 1 : Nat) : Int) + 1) = ((pre.length + 2 : Nat) : Int) := by rw [wrap64 (by omega) (by omega)]; omega
            have next2 : ∀ (cur' : List UInt8), cur'.length ≤ pre.length + 2 → F14l0 n m p t6 t7 (ds ++ [cur']) ((pre.length + 2 : Nat) : Int) = some (done13 t6 t7 (R r (pre.length + 2) cur' ds)) := by
              intro cur' hc'
              have := ih r (pre ++ [126, y]) cur' ds m (by omega) (by rw [hpl]; simp) (by rw [h6]; simp) (by simp) (by simp; omega) (by simpa using hc') (by omega)
              rw [List.length_append, show ([126, y] : List UInt8).length = 2 from rfl] at this
              exact this
            rw [hn6]
            unfold F14j1
            rw [show ((((126 : UInt8).toNat : Int)) == 126) = true from rfl, hw1, ib1, gy]
            simp only [cond_true, cond_false]
            by_cases h48 : y = 48
            · subst h48
              rw [show ((((48 : UInt8).toNat : Int)) != 48) = false from rfl, show ((((48 : UInt8).toNat : Int)) == 48) = true from rfl, R_0]
              simp only [cond_false]
              unfold F14j2
              rw [li, lin, lget, cat [126] (by simp), hw1, hw2]
              simp only [cond_true, last_set]
              exact next2 (cur ++ [126]) (by simp; omega)
            · have b48 := byte_ne (x := y) (k := 48) (by omega) h48
              have n48 : (((y.toNat : Int)) != 48) = true := by unfold bne; rw [show (((y.toNat : Int)) == 48) = false from b48]; rfl
              rw [n48, show (((y.toNat : Int)) == 48) = false from b48]
              simp only [cond_true]
              by_cases h49 : y = 49
              · subst h49
                rw [show ((((49 : UInt8).toNat : Int)) != 49) = false from rfl, R_1]
                simp only [cond_false]
                unfold F14j2
                rw [show ((((126 : UInt8).toNat : Int)) == 126) = true from rfl, li, lin, lget, cat [47] (by simp), hw1, hw2]
                simp only [cond_true, cond_false, last_set]
                exact next2 (cur ++ [47]) (by simp; omega)
              · have b49 := byte_ne (x := y) (k := 49) (by omega) h49
                have n49 : (((y.toNat : Int)) != 49) = true := by unfold bne; rw [show (((y.toNat : Int)) == 49) = false from b49]; rfl
                rw [n49, R_bad _ _ _ _ h48 h49]
                rfl
        · have b126 := byte_ne (x := x) (k := 126) (by omega) h126
          rw [show (((x.toNat : Int)) == 126) = false from b126]
          simp only [cond_false]
          unfold F14j1
          rw [show (((x.toNat : Int)) == 126) = false from b126]
          simp only [cond_false]
          unfold F14j2
          rw [show (((x.toNat : Int)) == 126) = false from b126, hw1]
          simp only [cond_false]
          have hcut : cutB (pre.length : Int) ((pre.length + 1 : Nat) : Int) p.length = true := by simp [cutB]; omega
          have hone : (((p).drop (Int.toNat (pre.length : Int))).take (Int.toNat ((pre.length + 1 : Nat) : Int) - Int.toNat (pre.length : Int))) = [x] := by
            rw [hpl]
            rw [show Int.toNat ((pre.length + 1 : Nat) : Int) - Int.toNat (pre.length : Int) = 1 by omega]
            simp
          rw [li, lin, lget, hone, cat [x] (by simp), hcut, R_plain _ _ _ _ h47 h126]
          simp only [cond_true, last_set]
          exact next1 (cur ++ [x]) ds (by simp; omega) (by omega)

theorem F14_eq (n : Nat) (p : List UInt8) (hp : p.length ≤ 70000) (hn : p.length + 10 ≤ n) : F14 n p = some (parseS p) := by
  unfold F14
  rw [F21_eq n _ (bytes_isB p) (by rw [bytes_len]; omega) (by rw [bytes_len]; omega)]
  obtain ⟨u1, u2, u3⟩ := U_le (bytesOf p) 0 [] 0 0 0
  rw [bytes_len, Nat.zero_add] at u2 u3
  unfold parseS
  generalize U (bytesOf p) 0 [] 0 0 0 = u at *
  obtain ⟨rs, k, ok⟩ := u
  simp only [outU] at u2 u3 ⊢
  have hlen : (p.take k).length = k := by rw [List.length_take]; omega
  obtain ⟨n', rfl⟩ : ∃ j, n = j + 1 := ⟨n - 1, by omega⟩
  cases hq : p.take k with
  | nil =>
    rw [hq] at hlen
    simp at hlen
    subst hlen
    rw [F14l0, F14l0F]
    cases ok with
    | false => simp
    | true =>
      have := u3 rfl
      simp [← this]
  | cons x l =>
    have hsp : p = [] ++ x :: (l ++ p.drop k) := by
      have := (List.take_append_drop k p).symm
      rw [hq] at this
      simpa using this
    rw [hq] at hlen
    simp only [List.length_cons] at hlen
    have hlt : decide ((0 : Int) < (k : Int)) = true := decide_eq_true (by omega)
    have i0 : inB 0 p.length = true := by rw [hsp]; exact inB_pre [] x _
    have g0 : p.getD (Int.toNat 0) 0 = x := by rw [hsp]; exact getD_pre [] x 0 _
    rw [F14l0, F14l0F, hlt, i0, g0]
    simp only [cond_true, show ((0 : Int) == 0) = true from rfl]
    by_cases h47 : x = 47
    · subst h47
      have hr := room16 (([] : List (List UInt8)).length + ([([] : List UInt8)] : List (List UInt8)).length) (by simp)
      rw [if_pos rfl, show ((((47 : UInt8).toNat : Int)) != 47) = false from rfl, show ((((47 : UInt8).toNat : Int)) == 47) = true from rfl]
      have := F14_loop (n' + 1) p (p.drop k) (k : Int) ok hp (fun h => by have := u3 h; subst this; simp) l.length l [47] [] [] n' (Nat.le_refl _) (by simpa using hsp) (by simp; omega) (by simp) (by simp) (by simp) (by omega)
      refine Eq.trans ?_ this
      rfl
    · rw [if_neg h47]
      have b47 := byte_ne (x := x) (k := 47) (by omega) h47
      have n47 : (((x.toNat : Int)) != 47) = true := by unfold bne; rw [show (((x.toNat : Int)) == 47) = false from b47]; rfl
      rw [n47]
      rfl

end Go.Proofs.YtaeamjhgfhcjdaaDoor.Ab.Pt
