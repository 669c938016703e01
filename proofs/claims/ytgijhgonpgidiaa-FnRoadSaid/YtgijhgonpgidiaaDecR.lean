/-
  What a round of decode leaves, in plain words. No statement of the seat is proved here.
-/
import Derived.Test.YtgijhgonpgidiaaDecN
import Derived.Test.YtgijhgonpgidiaaKind
namespace Go.Proofs.Ytgijhgonpgidiaa
open Go.RowKit Go.Proofs.YtgijhgonpgidiaaW.PrintWords

theorem strOf_text (s : ByteArray) : strOfNums (bytesOf s) = s := by
  obtain ⟨⟨l⟩⟩ := s
  simp only [strOfNums, bytesOf, List.map_map]
  congr 2
  rw [show ((fun n : Int => UInt8.ofNat n.toNat) ∘ fun b : UInt8 => (b.toNat : Int)) = id from funext fun b => by simp]
  simp
theorem txOk_noZ {text : ByteArray} (h : txOk text = true) : NoZ (bytesOf text) := by
  intro y hy
  simp only [txOk, Bool.and_eq_true, txZ] at h
  have h1 := h.1
  rw [List.take_of_length_le (Nat.le_of_eq (bytesOf_length _)), List.all_eq_true] at h1
  simpa using h1 y hy
theorem flags_out (t : Int) (h : 0 ≤ t ∧ t < 16384) : bits .and .u16 t 49152 = 0 := by
  obtain ⟨n, rfl⟩ := Int.eq_ofNat_of_zero_le h.1
  show IntKind.u16.wrap ((BitVec.ofInt 16 (n : Int) &&& BitVec.ofInt 16 49152).toNat : Int) = _
  have e1 : (BitVec.ofInt 16 (n : Int)).toNat = n := by rw [BitVec.toNat_ofInt]; omega
  have e2 : (BitVec.ofInt 16 49152).toNat = 3 * 2 ^ 14 := by decide
  have e3 : n &&& (3 * 2 ^ 14) = 0 := by
    apply Nat.eq_of_testBit_eq
    intro i
    rw [Nat.testBit_and, Nat.mul_comm 3, Nat.testBit_two_pow_mul, Nat.zero_testBit]
    by_cases hi : 14 ≤ i
    · have : n.testBit i = false := Nat.testBit_lt_two_pow (Nat.lt_of_lt_of_le (show n < 2 ^ 14 by omega) (Nat.pow_le_pow_right (by omega) hi))
      rw [this]; rfl
    · simp [hi]
  rw [BitVec.toNat_and, e1, e2, e3]
  rfl
theorem flags_in (t : Int) (h : 0 ≤ t ∧ t < 16384) : bits .and .u16 (t + 32768) 49152 = 32768 := by
  obtain ⟨n, rfl⟩ := Int.eq_ofNat_of_zero_le h.1
  show IntKind.u16.wrap ((BitVec.ofInt 16 ((n : Int) + 32768) &&& BitVec.ofInt 16 49152).toNat : Int) = _
  have e1 : (BitVec.ofInt 16 ((n : Int) + 32768)).toNat = n + 2 * 2 ^ 14 := by rw [BitVec.toNat_ofInt]; omega
  have e2 : (BitVec.ofInt 16 49152).toNat = 3 * 2 ^ 14 := by decide
  have e3 : (n + 2 * 2 ^ 14) &&& (3 * 2 ^ 14) = 2 * 2 ^ 14 := by
    apply Nat.eq_of_testBit_eq
    intro i
    rw [Nat.testBit_and, Nat.mul_comm 3, Nat.testBit_two_pow_mul, Nat.mul_comm 2, Nat.testBit_two_pow_mul, Nat.add_comm]
    by_cases hi : 14 ≤ i
    · rw [Nat.testBit_two_pow_mul_add _ (show n < 2 ^ 14 by omega)]
      simp [hi, Nat.not_lt.2 hi]
      rcases Nat.lt_or_ge (i - 14) 2 with h2 | h2
      · have : i - 14 = 0 ∨ i - 14 = 1 := by omega
        rcases this with h | h <;> rw [h] <;> decide
      · rw [Nat.testBit_lt_two_pow (show 3 < 2 ^ (i - 14) from Nat.lt_of_lt_of_le (by decide) (Nat.pow_le_pow_right (by omega) h2))]
        rw [Nat.testBit_lt_two_pow (show 2 < 2 ^ (i - 14) from Nat.lt_of_lt_of_le (by decide) (Nat.pow_le_pow_right (by omega) h2))]
        simp
    · simp [hi]
  rw [BitVec.toNat_and, e1, e2, e3]
  rfl
theorem wrap_i64_id {n : Int} (h : -9223372036854775808 ≤ n ∧ n < 9223372036854775808) : IntKind.i64.wrap n = n := by rw [IntKind.wrap_i64]; omega
theorem wrap_i8_at {n : Int} (h : -128 ≤ n ∧ n < 128) : IntKind.i8.wrap (n % 256) = n := by
  simp [IntKind.wrap, IntKind.bits, IntKind.signed]
  split <;> omega
theorem wrap_i16_at {n : Int} (h : -32768 ≤ n ∧ n < 32768) : IntKind.i16.wrap (n % 65536) = n := by
  simp [IntKind.wrap, IntKind.bits, IntKind.signed]
  split <;> omega
theorem attr_type {big : Bool} {d : Nat} {y : Fld} (hp : PR (d + 1) y) : IntKind.i64.wrap (bits .and .u16 (fattr big (fbytes big d) y).1 16383) = y.ty ∧ IntKind.i64.wrap (bits .and .u16 (fattr big (fbytes big d) y).1 49152) = (if y.kind = 11 then 32768 else 0) := by
  have ht := hp.1
  by_cases hk : y.kind = 11
  · have e : (fattr big (fbytes big d) y).1 = y.ty + 32768 := by simp [fattr, hk]
    rw [e, mask14_in _ ht, flags_in _ ht, if_pos hk]
    exact ⟨wrap_i64_id (by omega), by decide⟩
  · have e : (fattr big (fbytes big d) y).1 = y.ty := by unfold fattr; repeat' split
                                                         all_goals first | rfl | exact absurd (by assumption) hk
    rw [e, mask14 _ ht, flags_out _ ht, if_neg hk]
    exact ⟨wrap_i64_id (by omega), by decide⟩

/-! ### The lists, at one place -/
theorem fat_at {big : Bool} {d : Nat} {fs : List Fld} {k : Nat} {y : Fld} (h : (fs.filter isKept)[k]? = some y) : (fat big (d + 1) fs)[k]? = some (fattr big (fbytes big d) y) := by
  simp [fat, h]
theorem shp_at {d : Nat} {fs : List Fld} {k : Nat} {y : Fld} (h : (fs.filter isKept)[k]? = some y) : (shpF (d + 1) (keptF (d + 1) fs))[k]? = some ⟨0, y.kind, 0, 0, ⟨#[]⟩, [], shpF d (keptF d y.kids)⟩ := by
  simp [shpF, keptF, h]
def gotOne (d : Nat) (y : Fld) : Fld := ⟨y.ty, y.kind, if y.kind = 11 then 32768 else 0, y.n, y.text, y.data, gotF d y.kids⟩
theorem got_at {d : Nat} {fs : List Fld} {k : Nat} {y : Fld} (h : (fs.filter isKept)[k]? = some y) : (gotF (d + 1) fs)[k]? = some (gotOne d y) := by
  simp [gotF, gotOne, h]
theorem fat_len (big : Bool) (d : Nat) (fs : List Fld) : (fat big (d + 1) fs).length = (fs.filter isKept).length := by simp [fat]
theorem shp_len (d : Nat) (fs : List Fld) : (shpF (d + 1) (keptF (d + 1) fs)).length = (fs.filter isKept).length := by simp [shpF, keptF]
theorem got_len (d : Nat) (fs : List Fld) : (gotF (d + 1) fs).length = (fs.filter isKept).length := by simp [gotF]

/-! ### What the ways through the kinds leave -/
theorem grown_put2 {w a : World} {row : Option Nat} (h : w.grownBy a row) {p : Addr} (hp : w.heap.size ≤ p.block) (u : Value) : w.grownBy (a.setCell p u) row :=
  ⟨h.os, h.tape, h.output, by simpa [World.setCell] using h.size, fun i hi hne => (Below.heap_setCell _ _ _ _ (by omega)).trans (h.block i hi hne)⟩
/-- What several orders of one region end in, walked on from once. -/
theorem via2 {A B : Prop} (f : Hid A → B) (a : A) : B := f (Lib.hid a)
/-- Ahead of the kinds: the field's box, the decoder. -/
def Mid (big : Bool) (wr : World) (g yb : Nat) (bv : Value) (i : Nat) (N : Int) (ty kd zf : Int) (L T : Int) (A : Option Addr) (m c : Nat) (W : World) : Prop :=
  W.heap[yb]? = some (fldV ty kd zf 0 ⟨#[]⟩ (.slice none 0 0) (.slice none 0 0)) ∧ wr.grownBy W (some g) ∧ wr.heap.size ≤ yb ∧ g ≠ yb ∧ W.heap[g]? = some (decO (boV big) L T (.slice A m c) bv i N .nilIface)
/-- Behind them. -/
def RdOne (d : Nat) (big : Bool) (wr : World) (g yb : Nat) (bv : Value) (i : Nat) (N : Int) (z : Fld) (wx : World) : Prop :=
  ∃ dv kv, wx.heap[yb]? = some (fldV z.ty z.kind z.fl z.n z.text dv kv) ∧ (elF (d + 1)).E (fun j => wr.heap.size ≤ j) wx z [.int .i64 z.ty, .int .i64 z.kind, .int .i64 z.fl, .int .i64 z.n, .string z.text, dv, kv] ∧ wr.grownBy wx (some g) ∧
    ∃ L T dv', wx.heap[g]? = some (decO (boV big) L T dv' bv i N .nilIface)
section
variable {d : Nat} {big : Bool} {wr W w4 : World} {g yb : Nat} {bv : Value} {i : Nat} {N ty kd zf L T : Int} {A : Option Addr} {m c : Nat}
theorem Mid.put (hm : Mid big wr g yb bv i N ty kd zf L T A m c W) (hB : Below W.heap.size W w4) (j : Nat) (u : Value) : wr.grownBy (w4.setCell ⟨yb, j, none⟩ u) (some g) ∧ ∃ L T dv', (w4.setCell ⟨yb, j, none⟩ u).heap[g]? = some (decO (boV big) L T dv' bv i N .nilIface) :=
  ⟨grown_put2 (grown_over hm.2.1 (below_grows (row := none) hB rfl) (fun j hj => by cases hj)) hm.2.2.1 _, _, _, _, (Below.heap_setCell _ _ _ _ (by show g ≠ yb; exact hm.2.2.2.1)).trans (blk_below hm.2.2.2.2 hB)⟩
theorem RdOne.num (hm : Mid big wr g yb bv i N ty kd zf L T A m c W) (hB : Below W.heap.size W w4) (n : Int) (kids : List Fld) (hk : kids = []) : RdOne d big wr g yb bv i N ⟨ty, kd, zf, n, ⟨#[]⟩, [], kids⟩ (w4.setCell ⟨yb, 3, none⟩ (.int .i64 n)) := by
  subst hk
  exact ⟨_, _, fldV_n (blk_below hm.1 hB) n, ⟨_, _, rfl, Sl.nil _ _, El.Rd.nil _ _ _⟩, (hm.put hB 3 _).1, (hm.put hB 3 _).2⟩
theorem RdOne.text (hm : Mid big wr g yb bv i N ty kd zf L T A m c W) (hB : Below W.heap.size W w4) (text : ByteArray) (kids : List Fld) (hk : kids = []) : RdOne d big wr g yb bv i N ⟨ty, kd, zf, 0, text, [], kids⟩ (w4.setCell ⟨yb, 4, none⟩ (.string text)) := by
  subst hk
  exact ⟨_, _, fldV_text (blk_below hm.1 hB) text, ⟨_, _, rfl, Sl.nil _ _, El.Rd.nil _ _ _⟩, (hm.put hB 4 _).1, (hm.put hB 4 _).2⟩
theorem RdOne.data (hm : Mid big wr g yb bv i N ty kd zf L T A m c W) (hB : Below W.heap.size W w4) {dv : Value} {data : List Int} (hS : Sl (fun k => W.heap.size ≤ k) w4 dv data) (kids : List Fld) (hk : kids = []) : RdOne d big wr g yb bv i N ⟨ty, kd, zf, 0, ⟨#[]⟩, data, kids⟩ (w4.setCell ⟨yb, 5, none⟩ dv) := by
  subst hk
  have hl := blk_lt hm.1
  have hs := hm.2.1.size
  exact ⟨_, _, fldV_data (blk_below hm.1 hB) dv, ⟨_, _, rfl, (hS.step fun k hk _ => Below.heap_setCell _ _ _ _ (by show k ≠ yb; omega)).mono fun k hk => by omega, El.Rd.nil _ _ _⟩, (hm.put hB 5 _).1, (hm.put hB 5 _).2⟩
theorem RdOne.kids (hm : Mid big wr g yb bv i N ty kd zf L T A m c W) {w' : World} {u : Value} {ks : List Fld} (hR : (elF d).Rd (fun k => W.heap.size ≤ k) w' u ks) (hy : w'.heap[yb]? = some (fldV ty kd zf 0 ⟨#[]⟩ (.slice none 0 0) u)) (hg : W.grownBy w' (some yb)) :
    RdOne d big wr g yb bv i N ⟨ty, kd, zf, 0, ⟨#[]⟩, [], ks⟩ w' := by
  have hs := hm.2.1.size
  have hyb := hm.2.2.1
  exact ⟨_, _, hy, ⟨_, _, rfl, Sl.nil _ _, hR.mono fun k hk => by omega⟩, grown_over hm.2.1 hg (fun j hj => by injection hj with hj; omega), _, _, _, blk_grown hm.2.2.2.2 hg (by intro he; injection he with he; exact hm.2.2.2.1 he)⟩
end
end Go.Proofs.Ytgijhgonpgidiaa
