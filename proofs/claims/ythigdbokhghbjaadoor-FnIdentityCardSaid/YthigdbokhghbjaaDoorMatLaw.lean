/-
  The plain law of the matrices: what the printed loops of newMatrix, Zeros, identityMatrix, One and told come to, for any number of rows and columns up to a million. No memory in it.
-/
import Derived.Test.YthigdbokhghbjaaDoorNewM
import Derived.Test.YthigdbokhghbjaaDoorTold
import Derived.Test.YthigdbokhghbjaaDoorSpecM
namespace Go.Proofs.YthigdbokhghbjaaDoor.Mat
open Go.RowKit Go.Proofs.YthigdbokhghbjaaDoorW.PrintWords Go.Proofs.YthigdbokhghbjaaDoorW.PrintLast Go.Proofs.YthigdbokhghbjaaDoorW.PrintMore
open Go.Proofs.YthigdbokhghbjaaDoor.Base

theorem up64 {i : Nat} (h : i ≤ 1000000) : wrap64 ((i : Int) + 1) = ((i + 1 : Nat) : Int) := by unfold wrap64; omega
theorem set_next {α : Type} (s : List α) (x y : α) (d : Nat) : (s ++ List.replicate (d + 1) y).set s.length x = (s ++ [x]) ++ List.replicate d y := by
  rw [List.set_append_right (h := Nat.le_refl _), Nat.sub_self, List.replicate_succ, List.set_cons_zero, List.append_assoc]
  rfl

/-- A matrix of noughts. -/
def zm (n c : Nat) : List (List Int) := List.replicate n (List.replicate c 0)

theorem newM_loop (c n : Nat) (hc : c ≤ 1000000) (hn : n ≤ 1000000) : ∀ d i k, i + d = n → d < k →
    reedsolomon_newMatrix.l0 k (c : Int) (zm i c ++ List.replicate d []) (n : Int) (i : Int) = some (zm n c, none) := by
  intro d
  induction d with
  | zero =>
    intro i k hi hk
    obtain ⟨k, rfl⟩ : ∃ m, k = m + 1 := ⟨k - 1, by omega⟩
    obtain rfl : i = n := by omega
    simp only [reedsolomon_newMatrix.l0]
    rw [if_neg (by omega)]
    simp
  | succ d ih =>
    intro i k hi hk
    obtain ⟨k, rfl⟩ : ∃ m, k = m + 1 := ⟨k - 1, by omega⟩
    have hlen : (zm i c).length = i := by simp [zm]
    have hs : (zm i c ++ List.replicate (d + 1) ([] : List Int)).set ((i : Int)).toNat (List.replicate ((c : Int)).toNat 0) = zm (i + 1) c ++ List.replicate d [] := by
      rw [Int.toNat_natCast, Int.toNat_natCast]
      have h := set_next (zm i c) (List.replicate c (0 : Int)) [] d
      rw [hlen] at h
      rw [h]
      unfold zm
      rw [List.replicate_succ']
    simp only [reedsolomon_newMatrix.l0]
    rw [if_pos (by omega), if_pos (by omega), if_pos (by omega), if_pos (by omega), if_pos (by rw [List.length_append, hlen, List.length_replicate]; omega), hs, up64 (by omega)]
    exact ih (i + 1) k (by omega) (by omega)

theorem newM_tells (c n : Nat) (hc0 : 0 < c) (hn0 : 0 < n) (hc : c ≤ 1000000) (hn : n ≤ 1000000) (k : Nat) (hk : n < k) : reedsolomon_newMatrix.f k (n : Int) (c : Int) = some (zm n c, none) := by
  unfold reedsolomon_newMatrix.f
  rw [if_neg (by omega), if_neg (by omega), if_pos (by omega), if_pos (by omega)]
  have h := newM_loop c n hc hn n 0 k (by omega) hk
  rw [Int.toNat_natCast, List.length_replicate]
  exact h

theorem zeros_loop (c n : Nat) (hc : c ≤ 1000000) (hn : n ≤ 1000000) : ∀ d i k, i + d = n → d < k → spec_Zeros.l0 k (c : Int) (zm i c) (n : Int) (i : Int) = some (zm n c) := by
  intro d
  induction d with
  | zero =>
    intro i k hi hk
    obtain ⟨k, rfl⟩ : ∃ m, k = m + 1 := ⟨k - 1, by omega⟩
    obtain rfl : i = n := by omega
    simp only [spec_Zeros.l0]
    rw [if_neg (by omega)]
  | succ d ih =>
    intro i k hi hk
    obtain ⟨k, rfl⟩ : ∃ m, k = m + 1 := ⟨k - 1, by omega⟩
    have hs : zm i c ++ [List.replicate ((c : Int)).toNat 0] = zm (i + 1) c := by
      rw [Int.toNat_natCast]
      unfold zm
      rw [List.replicate_succ']
    simp only [spec_Zeros.l0]
    rw [if_pos (by omega), if_pos (by omega), if_pos (by omega), if_pos (by unfold zm; rw [List.length_replicate]; omega), hs, up64 (by omega)]
    exact ih (i + 1) k (by omega) (by omega)

theorem zeros_tells (c n : Nat) (hc : c ≤ 1000000) (hn : n ≤ 1000000) (k : Nat) (hk : n < k) : spec_Zeros.f k (n : Int) (c : Int) = some (zm n c) :=
  zeros_loop c n hc hn n 0 k (by omega) hk

/-- So many rows of so many elements. -/
def Sized (xs : List (List Int)) (n c : Nat) : Prop := xs.length = n ∧ ∀ r ∈ xs, r.length = c
theorem sized_zm (n c : Nat) : Sized (zm n c) n c := by
  refine ⟨by simp [zm], fun r hr => ?_⟩
  unfold zm at hr
  rw [(List.mem_replicate.1 hr).2, List.length_replicate]
theorem Sized.row {xs : List (List Int)} {n c : Nat} (h : Sized xs n c) {i : Nat} (hi : i < n) : (rd_L1 xs (i : Int)).length = c := by
  unfold rd_L1
  rw [Int.toNat_natCast, List.getD_eq_getElem?_getD, List.getElem?_eq_getElem (by rw [h.1]; exact hi)]
  exact h.2 _ (List.getElem_mem _)
theorem Sized.set {xs : List (List Int)} {n c : Nat} (h : Sized xs n c) (i : Nat) {r : List Int} (hr : r.length = c) : Sized (xs.set i r) n c := by
  refine ⟨by rw [List.length_set]; exact h.1, fun q hq => ?_⟩
  rcases List.mem_or_eq_of_mem_set hq with h' | rfl
  · exact h.2 q h'
  · exact hr

theorem one_loop (n : Nat) (hn : n ≤ 1000000) : ∀ d i k xs, i + d = n → d < k → Sized xs n n → ∃ r, Sized r n n ∧ spec_One.l0 k xs (n : Int) (i : Int) = some r ∧ reedsolomon_identityMatrix.l0 k xs (n : Int) (i : Int) = some (r, none) := by
  intro d
  induction d with
  | zero =>
    intro i k xs hi hk hx
    obtain ⟨k, rfl⟩ : ∃ m, k = m + 1 := ⟨k - 1, by omega⟩
    refine ⟨xs, hx, ?_, ?_⟩
    · simp only [spec_One.l0]
      rw [if_neg (by omega)]
    · simp only [reedsolomon_identityMatrix.l0]
      rw [if_neg (by omega)]
  | succ d ih =>
    intro i k xs hi hk hx
    obtain ⟨k, rfl⟩ : ∃ m, k = m + 1 := ⟨k - 1, by omega⟩
    have hr := hx.row (i := i) (by omega)
    obtain ⟨r, h1, h2, h3⟩ := ih (i + 1) k (xs.set i ((rd_L1 xs (i : Int)).set i 1)) (by omega) (by omega) (hx.set i (by rw [List.length_set]; exact hr))
    refine ⟨r, h1, ?_, ?_⟩
    · simp only [spec_One.l0]
      rw [if_pos (by omega), if_pos (by omega), if_pos (by rw [hx.1]; omega), if_pos (by rw [hr]; omega), up64 (by omega), Int.toNat_natCast]
      exact h2
    · simp only [reedsolomon_identityMatrix.l0]
      rw [if_pos (by omega), if_pos (by omega), if_pos (by rw [hx.1]; omega), if_pos (by rw [hr]; omega), up64 (by omega), Int.toNat_natCast]
      exact h3

/-- THE PACKAGE's IDENTITY IS THE REFERENCE's. -/
theorem identity_same (n : Nat) (hn0 : 0 < n) (hn : n ≤ 1000000) (k : Nat) (hk : n < k) : ∃ r, Sized r n n ∧ spec_One.f k (n : Int) = some r ∧ reedsolomon_ZZIdentity.f k (n : Int) = some (r, none) := by
  obtain ⟨r, h1, h2, h3⟩ := one_loop n hn n 0 k (zm n n) (by omega) hk (sized_zm n n)
  refine ⟨r, h1, ?_, ?_⟩
  · unfold spec_One.f
    rw [zeros_tells n n hn hn k hk]
    exact h2
  · unfold reedsolomon_ZZIdentity.f reedsolomon_identityMatrix.f
    rw [newM_tells n n hn0 hn0 hn hn k hk]
    simp only [Option.bind_some, Option.isNone_none, if_true]
    have e : ((zm n n).length : Int) = (n : Int) := by rw [(sized_zm n n).1]
    rw [e, show (0 : Int) = ((0 : Nat) : Int) from rfl, h3]
    rfl

theorem told_loop (xs : List (List Int)) (n c : Nat) (hx : Sized xs n c) (hn : n ≤ 1000000) (hc : c ≤ 1000000) : ∀ d i k, i + d = n → d < k →
    impl_told.l0 k xs (xs.take i ++ List.replicate d []) (n : Int) (i : Int) = some (xs, true) := by
  intro d
  induction d with
  | zero =>
    intro i k hi hk
    obtain ⟨k, rfl⟩ : ∃ m, k = m + 1 := ⟨k - 1, by omega⟩
    simp only [impl_told.l0]
    rw [if_neg (by omega), List.take_of_length_le (by rw [hx.1]; omega)]
    simp
  | succ d ih =>
    intro i k hi hk
    obtain ⟨k, rfl⟩ : ∃ m, k = m + 1 := ⟨k - 1, by omega⟩
    have hlen : (xs.take i).length = i := by rw [List.length_take, hx.1]; omega
    have hr := hx.row (i := i) (by omega)
    have hcl : impl_clone0.f (rd_L1 xs (i : Int)) = some (rd_L1 xs (i : Int)) := by
      unfold impl_clone0.f
      rw [if_pos (by rw [hr]; omega)]
    have hs : (xs.take i ++ List.replicate (d + 1) ([] : List Int)).set ((i : Int)).toNat (rd_L1 xs (i : Int)) = xs.take (i + 1) ++ List.replicate d [] := by
      rw [Int.toNat_natCast]
      have h := set_next (xs.take i) (rd_L1 xs (i : Int)) [] d
      rw [hlen] at h
      rw [h, List.take_succ_eq_append_getElem (by rw [hx.1]; omega)]
      unfold rd_L1
      rw [Int.toNat_natCast, List.getD_eq_getElem?_getD, List.getElem?_eq_getElem (by rw [hx.1]; omega)]
      rfl
    simp only [impl_told.l0]
    rw [if_pos (by omega), if_pos (by omega), if_pos (by rw [hx.1]; omega), hcl]
    simp only [Option.bind_some]
    rw [if_pos (by rw [List.length_append, hlen, List.length_replicate]; omega), hs, up64 (by omega)]
    exact ih (i + 1) k (by omega) (by omega)

/-- told tells the matrix again. -/
theorem told_tells (xs : List (List Int)) (n c : Nat) (hx : Sized xs n c) (hn : n ≤ 1000000) (hc : c ≤ 1000000) (k : Nat) (hk : n < k) :
    (if 0 ≤ (xs.length : Int) then (if ((xs.length : Int) : Int).toNat ≤ 11728124029610 then (impl_told.l0 k xs (List.replicate ((xs.length : Int) : Int).toNat []) (xs.length : Int) 0) else (none)) else (none)) = some (xs, true) := by
  have h := told_loop xs n c hx hn hc n 0 k (by omega) hk
  rw [hx.1]
  rw [if_pos (by omega), if_pos (by omega), Int.toNat_natCast]
  exact h

end Go.Proofs.YthigdbokhghbjaaDoor.Mat
