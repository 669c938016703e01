/-
  Numbers and lists: how numbers are laid as bytes, how bytes are padded, what attributes and messages are. No Go here, no statement of the seat.
-/
import Derived.Laws.BitsAllLaws
import Derived.Laws.BitsLemmas
namespace Go.Proofs.Ytgijhgonpgidiaa

/-! ### Bytes -/
def IsB (xs : List Int) : Prop := ∀ x ∈ xs, 0 ≤ x ∧ x < 256
theorem IsB.at_ {xs : List Int} (h : IsB xs) (j : Nat) : 0 ≤ xs.getD j 0 ∧ xs.getD j 0 < 256 := by
  by_cases hj : j < xs.length
  · rw [List.getD_eq_getElem?_getD, List.getElem?_eq_getElem hj]; exact h _ (List.getElem_mem hj)
  · rw [List.getD_eq_getElem?_getD, List.getElem?_eq_none (by omega)]; simp
theorem IsB.nil : IsB [] := fun _ h => by cases h
theorem IsB.append {xs ys : List Int} (h : IsB xs) (k : IsB ys) : IsB (xs ++ ys) := fun x hx => by
  rcases List.mem_append.1 hx with hx | hx
  · exact h x hx
  · exact k x hx
theorem IsB.left {xs ys : List Int} (h : IsB (xs ++ ys)) : IsB xs := fun x hx => h x (List.mem_append.2 (.inl hx))
theorem IsB.right {xs ys : List Int} (h : IsB (xs ++ ys)) : IsB ys := fun x hx => h x (List.mem_append.2 (.inr hx))
theorem IsB.zeros (n : Nat) : IsB (List.replicate n 0) := fun x hx => by
  have := List.eq_of_mem_replicate hx
  omega
theorem IsB.take {xs : List Int} (h : IsB xs) (n : Nat) : IsB (xs.take n) := fun x hx => h x (List.mem_of_mem_take hx)
theorem IsB.drop {xs : List Int} (h : IsB xs) (n : Nat) : IsB (xs.drop n) := fun x hx => h x (List.mem_of_mem_drop hx)

/-! ### A run of bytes written -/
def wr (xs : List Int) (off : Nat) : List Int → List Int
  | [] => xs
  | y :: ys => wr (xs.set off y) (off + 1) ys
theorem wr_eq (ys : List Int) : ∀ (xs : List Int) (off : Nat), off + ys.length ≤ xs.length → wr xs off ys = xs.take off ++ ys ++ xs.drop (off + ys.length) := by
  induction ys with
  | nil => intro xs off _; simp [wr]
  | cons y ys ih =>
    intro xs off h
    simp only [List.length_cons] at h
    rw [wr, ih _ _ (by simp; omega), List.set_eq_take_append_cons_drop, if_pos (by omega)]
    have hl : (xs.take off).length = off := by rw [List.length_take]; omega
    have h1 : (xs.take off ++ y :: xs.drop (off + 1)).take (off + 1) = xs.take off ++ [y] := by
      rw [List.take_append, hl, show off + 1 - off = 1 by omega, List.take_of_length_le (by omega)]; rfl
    have h2 : (xs.take off ++ y :: xs.drop (off + 1)).drop (off + 1 + ys.length) = xs.drop (off + (y :: ys).length) := by
      rw [List.drop_append, hl, List.drop_eq_nil_of_le (by omega), show off + 1 + ys.length - off = ys.length + 1 by omega, List.drop_succ_cons, List.drop_drop, List.nil_append, List.length_cons]
      congr 1; omega
    rw [h1, h2]; simp
theorem wr_length (ys : List Int) : ∀ (xs : List Int) (off : Nat), (wr xs off ys).length = xs.length := by
  induction ys with
  | nil => intro xs off; rfl
  | cons y ys ih => intro xs off; rw [wr, ih, List.length_set]
theorem wr_append (ys zs : List Int) : ∀ (xs : List Int) (off : Nat), wr xs off (ys ++ zs) = wr (wr xs off ys) (off + ys.length) zs := by
  induction ys with
  | nil => intro xs off; rfl
  | cons y ys ih => intro xs off; rw [List.cons_append, wr, wr, ih, List.length_cons]; congr 1; omega

/-! ### Numbers as bytes -/
/-- The lowest byte first. -/
def putB (n : Int) : Nat → List Int
  | 0 => []
  | k + 1 => n % 256 :: putB (n / 256) k
def putO (big : Bool) (n : Int) (k : Nat) : List Int := if big then (putB n k).reverse else putB n k
theorem putB_length (k : Nat) : ∀ n : Int, (putB n k).length = k := by
  induction k with
  | zero => intro n; rfl
  | succ k ih => intro n; simp [putB, ih]
theorem putO_length (big : Bool) (n : Int) (k : Nat) : (putO big n k).length = k := by
  unfold putO; split <;> simp [putB_length]
theorem putB_isB (k : Nat) : ∀ n : Int, IsB (putB n k) := by
  induction k with
  | zero => intro n; exact IsB.nil
  | succ k ih =>
    intro n x hx
    rcases List.mem_cons.1 hx with hx | hx
    · subst hx; omega
    · exact ih _ x hx
theorem putO_isB (big : Bool) (n : Int) (k : Nat) : IsB (putO big n k) := by
  unfold putO; split
  · intro x hx; exact putB_isB k n x (List.mem_reverse.1 hx)
  · exact putB_isB k n
/-- The number that bytes are, the lowest first. -/
def getB : List Int → Int
  | [] => 0
  | x :: xs => x + 256 * getB xs
theorem getB_putB (k : Nat) : ∀ n : Int, 0 ≤ n → n < 256 ^ k → getB (putB n k) = n := by
  induction k with
  | zero => intro n h0 h1; simp at h1; simp [putB, getB]; omega
  | succ k ih =>
    intro n h0 h1
    have hp : (256 : Int) ^ (k + 1) = 256 ^ k * 256 := Int.pow_succ ..
    rw [putB, getB, ih _ (by omega) (by omega)]
    omega
def getO (big : Bool) (xs : List Int) : Int := if big then getB xs.reverse else getB xs
theorem getO_putO (big : Bool) (k : Nat) (n : Int) (h0 : 0 ≤ n) (h1 : n < 256 ^ k) : getO big (putO big n k) = n := by
  unfold getO putO; cases big
  · simpa using getB_putB k n h0 h1
  · simpa using getB_putB k n h0 h1
theorem putB2 (n : Int) (h0 : 0 ≤ n) (h1 : n < 65536) : putB n 2 = [n % 256, n / 256] := by
  simp only [putB]; congr 2; omega
theorem putB4 (n : Int) (h0 : 0 ≤ n) (h1 : n < 4294967296) : putB n 4 = [n % 256, n / 256 % 256, n / 65536 % 256, n / 16777216] := by
  simp only [putB]; congr 2; congr 1
  · omega
  · congr 1; omega
theorem putB8 (n : Int) : putB n 8 = putB (n % 4294967296) 4 ++ putB (n / 4294967296) 4 := by
  simp only [putB, List.cons_append, List.nil_append, List.cons.injEq, and_true]
  refine ⟨?_, ?_, ?_, ?_, ?_, ?_, ?_, ?_⟩ <;> omega

/-! ### Bits as sums -/
theorem or_sum (a b k : Nat) (h : a < 2 ^ k) : a ||| b * 2 ^ k = a + b * 2 ^ k := by
  rw [Nat.or_comm, Nat.mul_comm, ← Nat.two_pow_add_eq_or_of_lt h]; omega
theorem u16_or8 (a b : Int) (ha : 0 ≤ a ∧ a < 256) (hb : 0 ≤ b ∧ b < 256) : bits .or .u16 a (b * 256) = a + 256 * b := by
  rw [u16_or _ _ (by omega) (by omega) (by omega) (by omega)]
  have : (b * 256).toNat = b.toNat * 2 ^ 8 := by omega
  rw [this, or_sum _ _ 8 (by omega)]; omega
theorem u32_or_at (k : Nat) (a b : Int) (ha : 0 ≤ a ∧ a < 2 ^ k) (hb : 0 ≤ b) (hl : a + b * 2 ^ k < 4294967296) : bits .or .u32 a (b * 2 ^ k) = a + b * 2 ^ k := by
  have hp : (0 : Int) < 2 ^ k := Int.pow_pos (by omega)
  have h1 : 0 ≤ b * 2 ^ k := Int.mul_nonneg hb (by omega)
  rw [u32_or _ _ (by omega) (by omega) h1 (by omega)]
  have e : (b * 2 ^ k).toNat = b.toNat * 2 ^ k := by
    obtain ⟨m, rfl⟩ := Int.eq_ofNat_of_zero_le hb
    have : ((m : Int) * 2 ^ k) = ((m * 2 ^ k : Nat) : Int) := by push_cast; rfl
    rw [this, Int.toNat_natCast, Int.toNat_natCast]
  have ha' : a.toNat < 2 ^ k := by
    have : ((2 ^ k : Nat) : Int) = (2 : Int) ^ k := by push_cast; rfl
    omega
  rw [e, or_sum _ _ k ha']
  have : ((b.toNat * 2 ^ k : Nat) : Int) = b * 2 ^ k := by rw [← e]; omega
  omega
theorem u64_or_at (k : Nat) (a b : Int) (ha : 0 ≤ a ∧ a < 2 ^ k) (hb : 0 ≤ b) (hl : a + b * 2 ^ k < 18446744073709551616) : bits .or .u64 a (b * 2 ^ k) = a + b * 2 ^ k := by
  have hp : (0 : Int) < 2 ^ k := Int.pow_pos (by omega)
  have h1 : 0 ≤ b * 2 ^ k := Int.mul_nonneg hb (by omega)
  rw [u64_or _ _ (by omega) (by omega) h1 (by omega)]
  have e : (b * 2 ^ k).toNat = b.toNat * 2 ^ k := by
    obtain ⟨m, rfl⟩ := Int.eq_ofNat_of_zero_le hb
    have : ((m : Int) * 2 ^ k) = ((m * 2 ^ k : Nat) : Int) := by push_cast; rfl
    rw [this, Int.toNat_natCast, Int.toNat_natCast]
  have ha' : a.toNat < 2 ^ k := by
    have : ((2 ^ k : Nat) : Int) = (2 : Int) ^ k := by push_cast; rfl
    omega
  rw [e, or_sum _ _ k ha']
  have : ((b.toNat * 2 ^ k : Nat) : Int) = b * 2 ^ k := by rw [← e]; omega
  omega
theorem and_mask (x : Nat) (h : x < 2 ^ 64) : x &&& 18446744073709551612 = x / 4 * 4 := by
  have e : (18446744073709551612 : Nat) = (2 ^ 62 - 1) * 2 ^ 2 := by decide
  apply Nat.eq_of_testBit_eq
  intro i
  rw [e, Nat.testBit_and, Nat.testBit_mul_two_pow, Nat.testBit_two_pow_sub_one, show x / 4 * 4 = x / 2 ^ 2 * 2 ^ 2 by omega, Nat.testBit_mul_two_pow, Nat.testBit_div_two_pow]
  by_cases h2 : 2 ≤ i
  · rw [show i - 2 + 2 = i by omega]
    by_cases h3 : i < 64
    · simp [h2, show i - 2 < 62 by omega]
    · rw [Nat.testBit_lt_two_pow (Nat.lt_of_lt_of_le h (Nat.pow_le_pow_right (by omega) (by omega)))]; simp
  · simp [h2]
theorem align_bits (n : Int) (h0 : 0 ≤ n) (h1 : n < 4611686018427387904) : bits .and .i64 (n + 4 - 1) (-4) = (n + 3) / 4 * 4 := by
  show IntKind.i64.wrap ((BitVec.ofInt 64 (n + 4 - 1) &&& BitVec.ofInt 64 (-4)).toNat : Int) = _
  have e1 : (BitVec.ofInt 64 (n + 4 - 1)).toNat = (n + 3).toNat := by
    rw [BitVec.toNat_ofInt]; omega
  have e2 : (BitVec.ofInt 64 (-4)).toNat = 18446744073709551612 := by decide
  rw [BitVec.toNat_and, e1, e2, and_mask _ (by omega), IntKind.wrap_i64]
  omega
/-- So many bytes with those that fill up to a multiple of four. -/
def padn (n : Nat) : Nat := (n + 3) / 4 * 4
theorem padn_le (n : Nat) : n ≤ padn n ∧ padn n < n + 4 ∧ padn n % 4 = 0 := by unfold padn; omega

/-! ### Attributes and messages as bytes -/
def attrB (a : Int × List Int) : List Int := putB (4 + a.2.length) 2 ++ putB a.1 2 ++ a.2 ++ List.replicate (padn a.2.length - a.2.length) 0
def attrsB (l : List (Int × List Int)) : List Int := l.flatMap attrB
theorem attrB_length (a : Int × List Int) : (attrB a).length = 4 + padn a.2.length := by
  have := padn_le a.2.length
  simp [attrB, putB_length]; omega
theorem attrsB_nil : attrsB [] = [] := rfl
theorem attrsB_cons (a : Int × List Int) (l : List (Int × List Int)) : attrsB (a :: l) = attrB a ++ attrsB l := rfl
theorem attrsB_append (l k : List (Int × List Int)) : attrsB (l ++ k) = attrsB l ++ attrsB k := by simp [attrsB]
theorem attrsB_mod (l : List (Int × List Int)) : (attrsB l).length % 4 = 0 := by
  induction l with
  | nil => rfl
  | cons a l ih => rw [attrsB_cons, List.length_append, attrB_length]; have := padn_le a.2.length; omega
#print axioms align_bits
end Go.Proofs.Ytgijhgonpgidiaa
