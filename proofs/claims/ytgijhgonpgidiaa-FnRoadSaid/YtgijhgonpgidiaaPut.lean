/-
  Contracts of the reference's put and AttributeBytes. No statement of the seat is proved here.
-/
import Derived.Test.YtgijhgonpgidiaaDup
import Derived.Test.YtgijhgonpgidiaaMar
namespace Go.Proofs.Ytgijhgonpgidiaa
open Go.RowKit Go.Proofs.YtgijhgonpgidiaaW.PrintWords

theorem putB_get (k : Nat) : ∀ (n : Int) (i : Nat), i < k → (putB n k)[i]? = some (n / 256 ^ i % 256) := by
  induction k with
  | zero => intro n i h; omega
  | succ k ih =>
    intro n i h
    cases i with
    | zero => simp [putB]
    | succ i =>
      rw [putB, List.getElem?_cons_succ, ih (n / 256) i (by omega), Int.pow_succ, Int.mul_comm, Int.ediv_ediv_of_nonneg (by omega)]
theorem putO_get (big : Bool) (n : Int) (k i : Nat) (h : i < k) : (putO big n k)[i]? = some (n / 256 ^ (if big then k - 1 - i else i) % 256) := by
  cases big
  · exact putB_get k n i h
  · simp only [putO, if_true]
    rw [List.getElem?_reverse (by rw [putB_length]; exact h), putB_length, putB_get k n _ (by omega)]

theorem two_pow8 (i : Nat) : (2 : Int) ^ (8 * i) = 256 ^ i := by
  induction i with
  | zero => rfl
  | succ i ih => rw [Nat.mul_succ, Int.pow_add, ih, Int.pow_succ]; rfl
theorem put_snoc (xs : List Int) (big : Bool) (n : Int) (k j : Nat) (h : j < k) : xs ++ (putO big n k).take j ++ [n / 2 ^ (8 * (if big then k - 1 - j else j)) % 256] = xs ++ (putO big n k).take (j + 1) := by
  rw [two_pow8, List.append_assoc]
  congr 1
  have hg := putO_get big n k j h
  have hl : j < (putO big n k).length := by rw [putO_length]; exact h
  rw [List.take_succ_eq_append_getElem hl]
  rw [List.getElem?_eq_getElem hl] at hg
  injection hg with hg
  rw [hg]
theorem grown_via {w a b : World} {row row1 : Option Nat} (h : w.grownBy a row) (k : a.grownBy b row1) (hr : row1 = row ∨ ∃ c, row1 = some c ∧ w.heap.size ≤ c) : w.grownBy b row :=
  ⟨k.os.trans h.os, k.tape.trans h.tape, k.output.trans h.output, Nat.le_trans h.size k.size, fun i hi hne => by
    rw [k.block i (Nat.lt_of_lt_of_le hi h.size) ?_, h.block i hi hne]
    rcases hr with hr | ⟨c, hr, hc⟩
    · rw [hr]; exact hne
    · rw [hr]; intro he; injection he with he; omega⟩
theorem hat_via {x y z : Option Nat} {n m : Nat} (h : y = x ∨ ∃ b, y = some b ∧ n ≤ b) (k : z = y ∨ ∃ b, z = some b ∧ m ≤ b) (hnm : n ≤ m) : z = x ∨ ∃ b, z = some b ∧ n ≤ b := by
  rcases k with k | ⟨b, hb, hle⟩
  · rw [k]; exact h
  · exact .inr ⟨b, hb, by omega⟩

set_option maxRecDepth 100000 in
set_option maxHeartbeats 1600000 in
theorem put59 (w : World) (base : Nat) (v : Value) (xs : List Int) (n : Int) (k : Nat) (big : Bool) (hO : w.ownsRow base 5 1 v xs.length (nums .u8 xs)) (hb : base ≤ w.heap.size) (hk : k ≤ 8) (hl : xs.length ≤ 140737488355000) :
    Calls Try.prog 59 #[v, .int .u64 n, .int .i64 k, .bool big] w fun e w' => ∃ u, e = .returned u ∧ Hid (w'.ownsRow base 5 1 u (xs ++ putO big n k).length (nums .u8 (xs ++ putO big n k)) ∧ w.grownBy w' v.ownBlock ∧ (u.ownBlock = v.ownBlock ∨ ∃ b, u.ownBlock = some b ∧ w.heap.size ≤ b)) := by
  have HO := Lib.hid hO
  clear hO
  go_enter Try.func59, Try.ntmps59
  go_wp2_with fail
  go_loopw [0, 12] (fun b i wr => ∃ j : Nat, j ≤ k ∧ i = .int .i64 j ∧ Hid (wr.ownsRow base 5 1 b (xs ++ (putO big n k).take j).length (nums .u8 (xs ++ (putO big n k).take j)) ∧ w.grownBy wr v.ownBlock ∧ (b.ownBlock = v.ownBlock ∨ ∃ c, b.ownBlock = some c ∧ w.heap.size ≤ c))) (fun _ i _ => k - (intOf i).toNat)
  case atStart => exact ⟨0, Nat.zero_le _, rfl, Lib.hid ⟨by simpa using HO.out, grown_refl _ _, .inl rfl⟩⟩
  case round =>
    obtain ⟨j, hj, rfl, HL⟩ := hrel
    by_cases hlt : j < k
    · have hlen : (xs ++ (putO big n k).take j).length = xs.length + j := by rw [List.length_append, List.length_take, putO_length]; omega
      have hlim : ((xs ++ (putO big n k).take j).length + 1) * 1 ≤ 140737488355328 := by rw [hlen]; omega
      have hbw : base ≤ wr.heap.size := by have := HL.out.2.1.size; omega
      have HLIM := Lib.hid hlim
      clear hlen hlim
      cases big
      · go_wp2_with (at_builtin; go_must (refine print_append_num (w0 := wr) base rfl (.tmp 21) (.tmp 27) 28 5 .u8 1 rfl Try.underlying28 info5 (by decide) u0 (xs ++ (putO false n k).take j) _ rfl rfl HL.out.1 (Below.refl _ _) hbw HLIM.out ?_); intro v1 w1 ho1 hb1 hg1 hat1; have HO1 := Lib.hid ho1; have HB1 := Lib.hid hb1; have HG1 := Lib.hid hg1; have HAT1 := Lib.hid hat1; clear ho1 hb1 hg1 hat1)

        go_roundw
        case rel =>
          have h1 := HO1.out
          have h2 := put_snoc xs false n k j hlt
          simp only [Bool.false_eq_true, if_false] at h2
          rw [h2] at h1
          exact ⟨j + 1, by omega, int_eq (by omega), Lib.hid ⟨h1, grown_via HL.out.2.1 HG1.out HL.out.2.2, hat_via HL.out.2.2 HAT1.out HL.out.2.1.size⟩⟩
        case measure => simp [intOf]; omega
      · go_wp2_with (at_builtin; go_must (refine print_append_num (w0 := wr) base rfl (.tmp 21) (.tmp 27) 28 5 .u8 1 rfl Try.underlying28 info5 (by decide) u0 (xs ++ (putO true n k).take j) _ rfl rfl HL.out.1 (Below.refl _ _) hbw HLIM.out ?_); intro v1 w1 ho1 hb1 hg1 hat1; have HO1 := Lib.hid ho1; have HB1 := Lib.hid hb1; have HG1 := Lib.hid hg1; have HAT1 := Lib.hid hat1; clear ho1 hb1 hg1 hat1)

        go_roundw
        case rel =>
          have h1 := HO1.out
          have h2 := put_snoc xs true n k j hlt
          simp only [if_true] at h2
          rw [h2] at h1
          exact ⟨j + 1, by omega, int_eq (by omega), Lib.hid ⟨h1, grown_via HL.out.2.1 HG1.out HL.out.2.2, hat_via HL.out.2.2 HAT1.out HL.out.2.1.size⟩⟩
        case measure => simp [intOf]; omega
    · obtain rfl : j = k := by omega
      rw [List.take_of_length_le (by rw [putO_length]; exact Nat.le_refl _)] at HL
      go_wp2_with fail
      go_ret
      exact ⟨_, rfl, HL⟩
end Go.Proofs.Ytgijhgonpgidiaa
