/-
  The plain law of the field: the product of polynomials by the reference's loop is the product by the two tables, and the reference's power is the one by the tables; for every element and every exponent. No memory in it.
-/
import Derived.Test.YthigdbokhghbjaaDoorRows
import Derived.Test.YthigdbokhghbjaaDoorBase
import Derived.Lib.LaidTab
import Derived.KernelRfl
namespace Go.Proofs.YthigdbokhghbjaaDoor.Gf
open Go.RowKit
open Go.Proofs.YthigdbokhghbjaaDoorW.PrintWords Go.Proofs.YthigdbokhghbjaaDoorW.PrintLast Go.Proofs.YthigdbokhghbjaaDoorW.PrintMore
open Go.Proofs.YthigdbokhghbjaaDoor.Base

/-- The numbers of a datum that is an array of whole numbers. -/
def numOf : DataW Unit → Nat
  | .lit (.int _ n) => n.toNat
  | _ => 0
def tabOf : DataW Unit → List Nat
  | .agg xs => xs.map numOf
  | _ => []
def logT : List Nat := tabOf Rows.laid_loop_example_pub_g03243_pub_reedsolomon_logTable
def expT : List Nat := tabOf Rows.laid_loop_example_pub_g03243_pub_reedsolomon_expTable
def zs (l : List Nat) : List Int := l.map fun (n : Nat) => (n : Int)

theorem log_datum {H : Type} : (Rows.laid_loop_example_pub_g03243_pub_reedsolomon_logTable : DataW H) = Lib.tabData .u8 (zs logT) := by kernel_rfl
theorem exp_datum {H : Type} : (Rows.laid_loop_example_pub_g03243_pub_reedsolomon_expTable : DataW H) = Lib.tabData .u8 (zs expT) := by kernel_rfl
theorem log_len : logT.length = 256 := by kernel_rfl
theorem exp_len : expT.length = 256 := by kernel_rfl

/-! ### the product, over natural numbers -/
def m2 (x : Nat) : Nat := if 128 ≤ x then (x * 2 % 256) ^^^ 29 else x * 2 % 256
def ts (a b acc i : Nat) : Nat := if b / 2 ^ i % 2 = 1 then m2 acc ^^^ a else m2 acc
def tm (a b : Nat) : Nat → Nat → Nat
  | 0, acc => acc
  | n + 1, acc => tm a b n (ts a b acc n)
def T (a b : Nat) : Nat := tm a b 8 0

theorem xor_lt {a b : Nat} (ha : a < 256) (hb : b < 256) : a ^^^ b < 256 := Nat.xor_lt_two_pow (n := 8) ha hb
theorem m2_lt (x : Nat) : m2 x < 256 := by
  unfold m2
  split
  · exact xor_lt (by omega) (by omega)
  · omega
theorem ts_lt {a : Nat} (ha : a < 256) (b acc i : Nat) : ts a b acc i < 256 := by
  unfold ts
  split
  · exact xor_lt (m2_lt _) ha
  · exact m2_lt _
theorem tm_lt {a : Nat} (ha : a < 256) (b : Nat) : ∀ n acc, acc < 256 → tm a b n acc < 256
  | 0, _, h => h
  | n + 1, acc, _ => tm_lt ha b n _ (ts_lt ha b acc n)
theorem T_lt {a : Nat} (ha : a < 256) (b : Nat) : T a b < 256 := tm_lt ha b 8 0 (by decide)

/-- Doubling is additive: all pairs of bytes, by the kernel. -/
def linB : Bool := (List.range 256).all fun x => (List.range 256).all fun y => m2 (x ^^^ y) == m2 x ^^^ m2 y
theorem linB_true : linB = true := by kernel_rfl
theorem m2_lin {x y : Nat} (hx : x < 256) (hy : y < 256) : m2 (x ^^^ y) = m2 x ^^^ m2 y := by
  have h := linB_true
  unfold linB at h
  have h1 := List.all_eq_true.1 h x (List.mem_range.2 hx)
  have h2 := List.all_eq_true.1 h1 y (List.mem_range.2 hy)
  exact eq_of_beq h2

theorem ts_m2 {a acc : Nat} (ha : a < 256) (b i : Nat) : ts (m2 a) b (m2 acc) i = m2 (ts a b acc i) := by
  unfold ts
  split
  · rw [m2_lin (m2_lt _) ha]
  · rfl
theorem tm_m2 {a : Nat} (ha : a < 256) (b : Nat) : ∀ n acc, tm (m2 a) b n (m2 acc) = m2 (tm a b n acc)
  | 0, _ => rfl
  | n + 1, acc => by
    show tm (m2 a) b n (ts (m2 a) b (m2 acc) n) = _
    rw [ts_m2 ha]
    exact tm_m2 ha b n _
theorem T_m2 {a : Nat} (ha : a < 256) (b : Nat) : T (m2 a) b = m2 (T a b) := tm_m2 ha b 8 0

def oneB : Bool := (List.range 256).all fun b => T 1 b == b
theorem oneB_true : oneB = true := by kernel_rfl
theorem T_one {b : Nat} (hb : b < 256) : T 1 b = b := eq_of_beq (List.all_eq_true.1 oneB_true b (List.mem_range.2 hb))
theorem tm_nought (a : Nat) : ∀ n, tm a 0 n 0 = 0
  | 0 => rfl
  | n + 1 => by
    show tm a 0 n (ts a 0 0 n) = 0
    have : ts a 0 0 n = 0 := by simp [ts, m2]
    rw [this]
    exact tm_nought a n
theorem T_nought (a : Nat) : T a 0 = 0 := tm_nought a 8

/-! ### the tables -/
def E (i : Nat) : Nat := expT.getD (i % 255) 0
def stepB : Bool := (List.range 255).all fun i => m2 (expT.getD i 0) == expT.getD ((i + 1) % 255) 0 && decide (expT.getD i 0 < 256)
theorem stepB_true : stepB = true := by kernel_rfl
theorem E_both (i : Nat) : m2 (E i) = E (i + 1) ∧ E i < 256 := by
  have h := List.all_eq_true.1 stepB_true (i % 255) (List.mem_range.2 (Nat.mod_lt _ (by decide)))
  rw [Bool.and_eq_true] at h
  refine ⟨?_, of_decide_eq_true h.2⟩
  have e := eq_of_beq h.1
  unfold E
  rw [e]
  congr 1
  omega
theorem E_lt (i : Nat) : E i < 256 := (E_both i).2
theorem E_zero : E 0 = 1 := by kernel_rfl
theorem T_E (i j : Nat) : T (E i) (E j) = E (i + j) := by
  induction i with
  | zero => rw [E_zero, T_one (E_lt j), Nat.zero_add]
  | succ i ih => rw [← (E_both i).1, T_m2 (E_lt i), ih, (E_both _).1]; congr 1; omega

def logB : Bool := (List.range 256).all fun a => (a == 0) || (E (logT.getD a 0) == a && decide (logT.getD a 0 < 255))
theorem logB_true : logB = true := by kernel_rfl
theorem log_both {a : Nat} (h0 : a ≠ 0) (ha : a < 256) : E (logT.getD a 0) = a ∧ logT.getD a 0 < 255 := by
  have h := List.all_eq_true.1 logB_true a (List.mem_range.2 ha)
  rw [Bool.or_eq_true] at h
  rcases h with h | h
  · exact absurd (eq_of_beq h) h0
  · rw [Bool.and_eq_true] at h
    exact ⟨eq_of_beq h.1, of_decide_eq_true h.2⟩
theorem log_lt {a : Nat} (ha : a < 256) : logT.getD a 0 < 256 := by
  by_cases h0 : a = 0
  · subst h0
    have : logT.getD 0 0 = 0 := by kernel_rfl
    omega
  · have := (log_both h0 ha).2
    omega

/-! ### powers -/
def pw (a : Nat) : Nat → Nat
  | 0 => 1
  | n + 1 => T (pw a n) a
/-- What the package's tables tell as a to the power of n. -/
def gexp (a n : Nat) : Nat := if n = 0 then 1 else if a = 0 then 0 else E (logT.getD a 0 * n)
theorem pw_E (j : Nat) : ∀ n, pw (E j) n = E (j * n)
  | 0 => by rw [Nat.mul_zero, E_zero]; rfl
  | n + 1 => by
    show T (pw (E j) n) (E j) = _
    rw [pw_E j n, T_E, Nat.mul_succ]
theorem pw_gexp {a : Nat} (ha : a < 256) (n : Nat) : pw a n = gexp a n := by
  unfold gexp
  by_cases hn : n = 0
  · subst hn
    rfl
  · rw [if_neg hn]
    by_cases h0 : a = 0
    · rw [if_pos h0, h0]
      obtain ⟨m, rfl⟩ : ∃ m, n = m + 1 := ⟨n - 1, by omega⟩
      exact T_nought _
    · rw [if_neg h0]
      have h := (log_both h0 ha).1
      rw [← pw_E, h]
theorem pw_lt (a : Nat) (n : Nat) : pw a n < 256 := by
  induction n with
  | zero => show 1 < 256; decide
  | succ n ih => exact T_lt ih a
theorem gexp_lt {a : Nat} (ha : a < 256) (n : Nat) : gexp a n < 256 := by rw [← pw_gexp ha]; exact pw_lt a n
theorem gexp_one (n : Nat) : gexp 1 n = 1 := by
  unfold gexp
  split
  · rfl
  · have : logT.getD 1 0 = 0 := by kernel_rfl
    rw [if_neg (by decide), this, Nat.zero_mul, E_zero]

/-! ### the printed functions tell the same -/
theorem bxor {a b : Nat} (ha : a < 256) (hb : b < 256) : Go.bits .xor .u8 (a : Int) (b : Int) = ((a ^^^ b : Nat) : Int) := by
  have hp : (2 : Nat) ^ IntKind.u8.bits = 256 := by kernel_rfl
  simp only [Go.bits, BitVec.ofInt_natCast, BitVec.toNat_xor, BitVec.toNat_ofNat, hp, Nat.mod_eq_of_lt ha, Nat.mod_eq_of_lt hb]
  exact wraps_u8 _ (Int.natCast_nonneg _) (by have := xor_lt ha hb; omega)
theorem band1 {a : Nat} (ha : a < 256) : Go.bits .and .u8 (a : Int) 1 = ((a % 2 : Nat) : Int) := by
  have h := bits_mask .u8 8 (by decide) wraps_u8 1 (by decide) (a : Int) (by omega) (by omega)
  have e : ((2 : Int) ^ 1 - 1) = 1 := by decide
  rw [e] at h
  rw [h]
  omega
theorem w64 {n : Nat} (h : n < 4611686018427387904) : wrap64 ((n : Int) + 1) = ((n + 1 : Nat) : Int) := by unfold wrap64; omega
theorem w64p {n : Nat} (h : n < 4611686018427387904) : wrap64 (((n + 1 : Nat) : Int) - 1) = (n : Int) := by unfold wrap64; omega
theorem w64m : wrap64 ((0 : Int) - 1) = -1 := by unfold wrap64; omega

theorem m2_cast {x : Nat} (hx : x < 256) : (if 128 ≤ (x : Int) then Go.bits .xor .u8 ((x : Int) * 2 % 256) 29 else (x : Int) * 2 % 256) = (m2 x : Int) := by
  have e : ((x : Int) * 2 % 256) = ((x * 2 % 256 : Nat) : Int) := by omega
  unfold m2
  by_cases h : 128 ≤ x
  · rw [if_pos (by omega), if_pos h, e]
    exact bxor (b := 29) (by omega) (by decide)
  · rw [if_neg (by omega), if_neg h, e]

theorem times_loop {a b : Nat} (ha : a < 256) (hb : b < 256) : ∀ (n : Nat) (acc k : Nat), acc < 256 → n ≤ 8 → n < k → spec_Times.l0 k (a : Int) (b : Int) (acc : Int) ((n : Int) - 1) = some ((tm a b n acc : Nat) : Int) := by
  intro n
  induction n with
  | zero =>
    intro acc k _ _ hk
    obtain ⟨k, rfl⟩ : ∃ m, k = m + 1 := ⟨k - 1, by omega⟩
    simp only [spec_Times.l0]
    rw [if_neg (by omega)]
    rfl
  | succ n ih =>
    intro acc k hacc hn hk
    obtain ⟨k, rfl⟩ : ∃ m, k = m + 1 := ⟨k - 1, by omega⟩
    have ei : (((n + 1 : Nat) : Int) - 1) = (n : Int) := by omega
    have ew : wrap64 ((n : Int) - 1) = (n : Int) - 1 := by unfold wrap64; omega
    have es : shr .u8 (b : Int) (n : Int) = ((b / 2 ^ n : Nat) : Int) := by
      have h8 : IntKind.u8.bits = 8 := rfl
      unfold shr
      rw [h8, Nat.min_eq_left (by omega), Int.toNat_natCast]
      simp
    have hq : b / 2 ^ n < 256 := Nat.lt_of_le_of_lt (Nat.div_le_self _ _) hb
    have next := ih (ts a b acc n) k (ts_lt ha b acc n) (by omega) (by omega)
    have hm := m2_cast hacc
    show _ = some ((tm a b n (ts a b acc n) : Nat) : Int)
    rw [← next]
    simp only [spec_Times.l0]
    rw [ei, if_pos (show (n : Int) ≥ 0 by omega), ew, es, band1 hq]
    have h0 : 0 ≤ (n : Int) := by omega
    unfold ts
    by_cases hc : b / 2 ^ n % 2 = 1
    · have hcz : ((b / 2 ^ n % 2 : Nat) : Int) = 1 := by omega
      rw [if_pos hc, ← bxor (m2_lt acc) ha, ← hm]
      by_cases h128 : 128 ≤ (acc : Int)
      · rw [if_pos (show (acc : Int) ≥ 128 from h128), if_pos h0, if_pos hcz, if_pos h128]
      · rw [if_neg (show ¬ (acc : Int) ≥ 128 from h128), if_pos h0, if_pos hcz, if_neg h128]
    · have hcz : ¬ ((b / 2 ^ n % 2 : Nat) : Int) = 1 := by omega
      rw [if_neg hc, ← hm]
      by_cases h128 : 128 ≤ (acc : Int)
      · rw [if_pos (show (acc : Int) ≥ 128 from h128), if_pos h0, if_neg hcz, if_pos h128]
      · rw [if_neg (show ¬ (acc : Int) ≥ 128 from h128), if_pos h0, if_neg hcz, if_neg h128]

theorem times_tells {a b : Nat} (ha : a < 256) (hb : b < 256) (k : Nat) (hk : 8 < k) : spec_Times.f k (a : Int) (b : Int) = some ((T a b : Nat) : Int) :=
  times_loop ha hb 8 0 k (by decide) (by decide) hk

theorem power_loop {a : Nat} (ha : a < 256) (n : Nat) (hn : n < 1000000) : ∀ (d i k : Nat), i + d = n → d + 9 < k → spec_Power.l0 k (a : Int) ((pw a i : Nat) : Int) (n : Int) (i : Int) = some ((pw a n : Nat) : Int) := by
  intro d
  induction d with
  | zero =>
    intro i k hi hk
    obtain ⟨k, rfl⟩ : ∃ m, k = m + 1 := ⟨k - 1, by omega⟩
    obtain rfl : i = n := by omega
    simp only [spec_Power.l0]
    rw [if_neg (by omega)]
  | succ d ih =>
    intro i k hi hk
    obtain ⟨k, rfl⟩ : ∃ m, k = m + 1 := ⟨k - 1, by omega⟩
    simp only [spec_Power.l0]
    rw [if_pos (by omega), times_tells (pw_lt a i) ha k (by omega), w64 (n := i) (by omega)]
    exact ih (i + 1) k (by omega) (by omega)

/-- THE REFERENCE's POWER, by the printed function, is the power by the tables. -/
theorem power_tells {a : Nat} (ha : a < 256) (n : Nat) (hn : n < 1000000) : spec_Power.f (n + 10) (a : Int) (n : Int) = some ((gexp a n : Nat) : Int) := by
  rw [← pw_gexp ha]
  exact power_loop ha n hn n 0 (n + 10) (by omega) (by omega)

end Go.Proofs.YthigdbokhghbjaaDoor.Gf
